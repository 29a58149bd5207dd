import JvmDerived
import JvmDerived.Pilot.@@N@@Statement
import JvmDerived.Pilot.@@N@@Code
set_option linter.unusedVariables false
set_option linter.unusedSimpArgs false
namespace Jvm.Pilot.@@N@@
open Jvm Jvm.ClassFile Sem Op Lib Jvm.Free Jvm.Stand Jvm.LawKit Jvm.RoadKit Bundle Jvm.Pilot.@@N@@.Jvm.D
/-! own layer 1: doubles as whole numbers of least units (2 to the -1074) -/
section OwnFp
open Jvm.FP Jvm.FP.Core Jvm.Free.Fl
/-- a power of two -/
def P2 (j : Nat) : Int := ((2 ^ j : Nat) : Int)
theorem P2_pos (j : Nat) : 0 < P2 j := Int.natCast_pos.mpr (Nat.two_pow_pos j)
theorem P2_add (i j : Nat) : P2 (i + j) = P2 i * P2 j := by unfold P2; rw [Nat.pow_add, Int.natCast_mul]
theorem P2_one64 : (one64 : Int) = P2 1074 := rfl
/-- the value of a double in least units -/
def Zv (a : UInt64) : Int := zval b64 (val64 a)
/-- some finite double has this value -/
def Rep (V : Int) : Prop := ∃ x : UInt64, DFin x ∧ Zv x = V
theorem own_qmax : b64.qmax = 971 := by decide
theorem own_signed_abs (c : Int) : signed (decide (c < 0)) c.natAbs = c := by
  unfold signed
  by_cases q : c < 0
  · simp [q]; omega
  · simp [q]; omega
theorem rep_core (s : Bool) {c j : Nat} (hc : c < 2 ^ 53) (hj : j ≤ 2045) : ∃ x : UInt64, DFin x ∧ Zv x = signed s (c * 2 ^ j) := by
  obtain ⟨c', q', h1, h2⟩ := round_exact (f := b64) good_b64 s (c := c) (q := (j : Int) - 1074) hc (by rw [qmin_b64]; omega) (by rw [own_qmax]; omega)
  refine ⟨of64 (round b64 (.fin s c ((j : Int) - 1074))), ⟨s, c', q', ?_⟩, ?_⟩
  · rw [val64_of64 (round_fits good_b64 _), h1]
  · unfold Zv
    rw [val64_of64 (round_fits good_b64 _), h1]
    show signed s (inUnits c' q' b64.qmin) = _
    rw [h2]
    unfold inUnits
    rw [show ((j : Int) - 1074 - b64.qmin).toNat = j by rw [qmin_b64]; omega]
theorem rep_mk (c : Int) (j : Nat) (hc : c.natAbs ≤ 2 ^ 53) (hj : j ≤ 2044) : Rep (c * P2 j) := by
  by_cases h : c.natAbs < 2 ^ 53
  · obtain ⟨x, h1, h2⟩ := rep_core (decide (c < 0)) h (j := j) (by omega)
    refine ⟨x, h1, h2.trans ?_⟩
    rw [signed_mul, own_signed_abs]; rfl
  · have h' : c.natAbs = 2 ^ 53 := by omega
    obtain ⟨x, h1, h2⟩ := rep_core (decide (c < 0)) (c := 2 ^ 52) (by decide) (j := j + 1) (by omega)
    refine ⟨x, h1, h2.trans ?_⟩
    have e : 2 ^ 52 * 2 ^ (j + 1) = c.natAbs * 2 ^ j := by
      rw [h', Nat.pow_add 2 j 1]
      generalize 2 ^ j = t
      omega
    rw [e, signed_mul, own_signed_abs]; rfl
theorem rep_of {V : Int} (c : Int) (j : Nat) (hc : c.natAbs ≤ 2 ^ 53) (hj : j ≤ 2044) (h : V = c * P2 j) : Rep V := h ▸ rep_mk c j hc hj
theorem rep_int (n : Int) (h : n.natAbs ≤ 2 ^ 53) : Rep (n * P2 1074) := rep_mk n 1074 h (by decide)
theorem rep_zero : Rep 0 := rep_of 0 0 (by decide) (by decide) (by simp)
theorem rep_self {x : UInt64} (h : DFin x) : Rep (Zv x) := ⟨x, h, rfl⟩
theorem rep_neg {V : Int} (h : Rep V) : Rep (-V) := by
  obtain ⟨x, hx, rfl⟩ := h
  obtain ⟨s, c, q, hv⟩ := hx
  refine ⟨Core.dneg x, ⟨!s, c, q, ?_⟩, ?_⟩
  · rw [Core.val64_dneg, hv]; rfl
  · unfold Zv; rw [Core.val64_dneg, zval_negate]
/-- between two finite values: finite -/
theorem fin_between {x : UInt64} (hn : val64 x ≠ .nan) {L H : Int} (hL : Rep L) (hH : Rep H) (h1 : L ≤ Zv x) (h2 : Zv x ≤ H) : DFin x := by
  cases hv : val64 x with
  | nan => exact absurd hv hn
  | fin s c q => exact ⟨s, c, q, hv⟩
  | inf s =>
    exfalso
    obtain ⟨y, hy, rfl⟩ := hL
    obtain ⟨z, hz, rfl⟩ := hH
    have a1 := hy.zval_lt
    have a2 := hz.zval_lt
    have e : Zv x = signed s (b64.tails * 2 ^ (b64.exps - 2)) := by unfold Zv; rw [hv]; rfl
    have b1 : signed (sgn (val64 y)) (zmag b64 (val64 y)) ≤ signed s (b64.tails * 2 ^ (b64.exps - 2)) := e ▸ h1
    have b2 : signed s (b64.tails * 2 ^ (b64.exps - 2)) ≤ signed (sgn (val64 z)) (zmag b64 (val64 z)) := e ▸ h2
    generalize b64.tails * 2 ^ (b64.exps - 2) = top at *
    generalize zmag b64 (val64 y) = my at *
    generalize zmag b64 (val64 z) = mz at *
    generalize sgn (val64 y) = sy at *
    generalize sgn (val64 z) = sz at *
    cases s <;> cases sy <;> cases sz <;> simp only [signed, if_true, Bool.false_eq_true, if_false] at b1 b2 <;> omega
theorem not_nan {x : UInt64} (h : Core.dIsNaN x = false) : val64 x ≠ .nan := (notNaN_iff x).mp h
theorem nn_of {x : UInt64} (h : DFin x) : NoNaN64 x := (fin64_core.mpr h).noNaN
/-! sums -/
theorem add_le {a b : UInt64} (ha : DFin a) (hb : DFin b) {V : Int} (hV : Rep V) (h : Zv a + Zv b ≤ V) : Zv (FP.dadd a b) ≤ V := by
  obtain ⟨x, hx, rfl⟩ := hV
  unfold Zv at h ⊢
  rw [val64_dadd]
  exact sum_le good_b64 ha hb (val64_fits a) (val64_fits b) (val64_fits x) hx.ne_nan h
theorem add_ge {a b : UInt64} (ha : DFin a) (hb : DFin b) {V : Int} (hV : Rep V) (h : V ≤ Zv a + Zv b) : V ≤ Zv (FP.dadd a b) := by
  obtain ⟨x, hx, rfl⟩ := hV
  unfold Zv at h ⊢
  rw [val64_dadd]
  exact sum_ge good_b64 ha hb (val64_fits a) (val64_fits b) (val64_fits x) hx.ne_nan h
theorem add_in {a b : UInt64} (ha : DFin a) (hb : DFin b) {L H : Int} (hL : Rep L) (hH : Rep H) (h1 : L ≤ Zv a + Zv b) (h2 : Zv a + Zv b ≤ H) : DFin (FP.dadd a b) ∧ L ≤ Zv (FP.dadd a b) ∧ Zv (FP.dadd a b) ≤ H :=
  ⟨fin_between (not_nan (Core.dadd_out ha.notNaN hb)) hL hH (add_ge ha hb hL h1) (add_le ha hb hH h2), add_ge ha hb hL h1, add_le ha hb hH h2⟩
theorem add_eq {a b : UInt64} (ha : DFin a) (hb : DFin b) {V : Int} (hV : Rep V) (h : Zv a + Zv b = V) : DFin (FP.dadd a b) ∧ Zv (FP.dadd a b) = V := by
  obtain ⟨h1, h2, h3⟩ := add_in ha hb hV hV (Int.le_of_eq h.symm) (Int.le_of_eq h)
  exact ⟨h1, Int.le_antisymm h3 h2⟩
/-! signs -/
theorem neg_eq {a : UInt64} (ha : DFin a) : DFin (FP.dneg a) ∧ Zv (FP.dneg a) = -Zv a := by
  obtain ⟨s, c, q, hv⟩ := ha
  constructor
  · exact ⟨!s, c, q, by rw [FP.val64_dneg, hv]; rfl⟩
  · unfold Zv; rw [FP.val64_dneg, zval_negate]
theorem cneg_eq {a : UInt64} (ha : DFin a) : DFin (Core.dneg a) ∧ Zv (Core.dneg a) = -Zv a := by
  obtain ⟨s, c, q, hv⟩ := ha
  constructor
  · exact ⟨!s, c, q, by rw [Core.val64_dneg, hv]; rfl⟩
  · unfold Zv; rw [Core.val64_dneg, zval_negate]
/-! differences -/
theorem sub_in {a b : UInt64} (ha : DFin a) (hb : DFin b) {L H : Int} (hL : Rep L) (hH : Rep H) (h1 : L ≤ Zv a - Zv b) (h2 : Zv a - Zv b ≤ H) : DFin (FP.dsub a b) ∧ L ≤ Zv (FP.dsub a b) ∧ Zv (FP.dsub a b) ≤ H := by
  obtain ⟨n1, n2⟩ := cneg_eq hb
  have e : FP.dsub a b = FP.dadd a (Core.dneg b) := Core.dsub_eq a b
  rw [e]
  exact add_in ha n1 hL hH (by rw [n2]; omega) (by rw [n2]; omega)
theorem sub_eq {a b : UInt64} (ha : DFin a) (hb : DFin b) {V : Int} (hV : Rep V) (h : Zv a - Zv b = V) : DFin (FP.dsub a b) ∧ Zv (FP.dsub a b) = V := by
  obtain ⟨h1, h2, h3⟩ := sub_in ha hb hV hV (Int.le_of_eq h.symm) (Int.le_of_eq h)
  exact ⟨h1, Int.le_antisymm h3 h2⟩
/-! products -/
theorem own_q2 : (b64.qmin - 2 * b64.qmin).toNat = 1074 := by rw [qmin_b64]; decide
theorem mul_le {a b : UInt64} (ha : DFin a) (hb : DFin b) {V : Int} (hV : Rep V) (h : Zv a * Zv b ≤ V * P2 1074) : Zv (FP.dmul a b) ≤ V := by
  obtain ⟨x, hx, rfl⟩ := hV
  obtain ⟨s, c, q, hva⟩ := ha
  obtain ⟨t, d, r, hvb⟩ := hb
  have fa := val64_fits a
  have fb := val64_fits b
  unfold Zv at h ⊢
  rw [hva] at fa h
  rw [hvb] at fb h
  obtain ⟨p1, p2, p3⟩ := product_units fa fb
  rw [val64_dmul, hva, hvb, p1]
  refine zval_round_le good_b64 (val64_fits x) hx.ne_nan (e0 := 2 * b64.qmin) (by rw [qmin_b64]; decide) p2 ?_
  rw [p3, signed_xor, own_q2]
  exact h
theorem mul_ge {a b : UInt64} (ha : DFin a) (hb : DFin b) {V : Int} (hV : Rep V) (h : V * P2 1074 ≤ Zv a * Zv b) : V ≤ Zv (FP.dmul a b) := by
  obtain ⟨x, hx, rfl⟩ := hV
  obtain ⟨s, c, q, hva⟩ := ha
  obtain ⟨t, d, r, hvb⟩ := hb
  have fa := val64_fits a
  have fb := val64_fits b
  unfold Zv at h ⊢
  rw [hva] at fa h
  rw [hvb] at fb h
  obtain ⟨p1, p2, p3⟩ := product_units fa fb
  rw [val64_dmul, hva, hvb, p1]
  refine zval_round_ge good_b64 (val64_fits x) hx.ne_nan (e0 := 2 * b64.qmin) (by rw [qmin_b64]; decide) p2 ?_
  rw [p3, signed_xor, own_q2]
  exact h
theorem mul_in {a b : UInt64} (ha : DFin a) (hb : DFin b) {L H : Int} (hL : Rep L) (hH : Rep H) (h1 : L * P2 1074 ≤ Zv a * Zv b) (h2 : Zv a * Zv b ≤ H * P2 1074) : DFin (FP.dmul a b) ∧ L ≤ Zv (FP.dmul a b) ∧ Zv (FP.dmul a b) ≤ H :=
  ⟨fin_between (not_nan (Core.dmul_out ha hb)) hL hH (mul_ge ha hb hL h1) (mul_le ha hb hH h2), mul_ge ha hb hL h1, mul_le ha hb hH h2⟩
theorem mul_eq {a b : UInt64} (ha : DFin a) (hb : DFin b) {V : Int} (hV : Rep V) (h : Zv a * Zv b = V * P2 1074) : DFin (FP.dmul a b) ∧ Zv (FP.dmul a b) = V := by
  obtain ⟨h1, h2, h3⟩ := mul_in ha hb hV hV (Int.le_of_eq h.symm) (Int.le_of_eq h)
  exact ⟨h1, Int.le_antisymm h3 h2⟩
/-! quotients by a positive number -/
theorem own_sgn_le {s t : Bool} {A V B r : Nat} (hB : 0 < B) (hle : A ≤ V * B → r ≤ V) (hge : V * B ≤ A → V ≤ r) (h : signed s A ≤ signed t V * (B : Int)) : signed s r ≤ signed t V := by
  rw [← signed_mul] at h
  have hz : V * B = 0 → V = 0 := fun q => by rcases Nat.mul_eq_zero.mp q with q | q <;> omega
  generalize V * B = vb at *
  cases s <;> cases t <;> simp only [signed, if_true, Bool.false_eq_true, if_false] at h ⊢
  · have := hle (by omega); omega
  · have := hle (by omega); have := hz (by omega); omega
  · omega
  · have := hge (by omega); omega
theorem own_sgn_ge {s t : Bool} {A V B r : Nat} (hB : 0 < B) (hle : A ≤ V * B → r ≤ V) (hge : V * B ≤ A → V ≤ r) (h : signed t V * (B : Int) ≤ signed s A) : signed t V ≤ signed s r := by
  rw [← signed_mul] at h
  have hz : V * B = 0 → V = 0 := fun q => by rcases Nat.mul_eq_zero.mp q with q | q <;> omega
  generalize V * B = vb at *
  cases s <;> cases t <;> simp only [signed, if_true, Bool.false_eq_true, if_false] at h ⊢
  · have := hge (by omega); omega
  · omega
  · have := hle (by omega); have := hz (by omega); omega
  · have := hle (by omega); omega
theorem div_core {a b : UInt64} (ha : DFin a) (hb : DFin b) (hp : 0 < Zv b) (x : UInt64) (hx : DFin x) :
    ∃ (s : Bool) (A B : Nat), (B : Int) = Zv b ∧ signed s A = Zv a * P2 1074 ∧ 0 < B ∧ ∃ r, Zv (FP.ddiv a b) = signed s r ∧ (A ≤ zmag b64 (val64 x) * B → r ≤ zmag b64 (val64 x)) ∧ (zmag b64 (val64 x) * B ≤ A → zmag b64 (val64 x) ≤ r) := by
  obtain ⟨s, c, q, hva⟩ := ha
  obtain ⟨t, d, r, hvb⟩ := hb
  have fa := val64_fits a
  have fb := val64_fits b
  rw [hva] at fa
  rw [hvb] at fb
  have f1 := fa.2.1
  have f2 := fb.2.1
  have zb : Zv b = signed t (inUnits d r b64.qmin) := by unfold Zv; rw [hvb]; rfl
  have hd : 0 < d := by
    rcases Nat.eq_zero_or_pos d with q0 | q0
    · rw [zb, q0] at hp
      have : inUnits 0 r b64.qmin = 0 := Nat.zero_mul _
      rw [this, signed_zero] at hp; omega
    · exact q0
  have ht : t = false := by
    cases t with
    | false => rfl
    | true => rw [zb] at hp; simp only [signed, if_true] at hp; omega
  subst ht
  have hB : 0 < inUnits d r b64.qmin := Nat.mul_pos hd (Nat.two_pow_pos _)
  have e1 : inUnits c (q - r) (2 * b64.qmin - r) = inUnits c q b64.qmin * 2 ^ 1074 := by
    unfold inUnits
    rw [Nat.mul_assoc, ← Nat.pow_add]
    rw [qmin_b64] at *
    congr 2; omega
  have e2 : 2 ^ (b64.qmin - (2 * b64.qmin - r)).toNat * d = inUnits d r b64.qmin := by
    unfold inUnits
    rw [Nat.mul_comm]; congr 2; omega
  have hv : val64 (FP.ddiv a b) = roundRatio b64 s c d (q - r) := by
    rw [val64_ddiv, hva, hvb]
    show (if d = 0 then _ else roundRatio b64 (s != false) c d (q - r)) = _
    rw [if_neg (by omega)]
    cases s <;> rfl
  refine ⟨s, inUnits c q b64.qmin * 2 ^ 1074, inUnits d r b64.qmin, ?_, ?_, hB, zmag b64 (roundRatio b64 s c d (q - r)), ?_, ?_, ?_⟩
  · rw [zb]; simp only [signed, Bool.false_eq_true, if_false]
  · unfold Zv; rw [signed_mul, hva]; rfl
  · unfold Zv; rw [hv]; show signed (sgn _) _ = _; rw [sgn_roundRatio]
  · intro h
    refine zmag_roundRatio_le good_b64 hd (val64_fits x) hx.ne_nan (e0 := 2 * b64.qmin - r) (by have := qmin_b64; omega) (by have := qmin_b64; omega) ?_
    rw [e1, Nat.mul_assoc, e2]; exact h
  · intro h
    refine zmag_roundRatio_ge good_b64 hd (val64_fits x) (e0 := 2 * b64.qmin - r) (by have := qmin_b64; omega) (by have := qmin_b64; omega) ?_
    rw [e1, Nat.mul_assoc, e2]; exact h
theorem div_le {a b : UInt64} (ha : DFin a) (hb : DFin b) (hp : 0 < Zv b) {V : Int} (hV : Rep V) (h : Zv a * P2 1074 ≤ V * Zv b) : Zv (FP.ddiv a b) ≤ V := by
  obtain ⟨x, hx, rfl⟩ := hV
  obtain ⟨s, A, B, h1, h2, h3, r, h4, h5, h6⟩ := div_core ha hb hp x hx
  rw [h4]
  rw [← h2, ← h1] at h
  exact own_sgn_le h3 h5 h6 h
theorem div_ge {a b : UInt64} (ha : DFin a) (hb : DFin b) (hp : 0 < Zv b) {V : Int} (hV : Rep V) (h : V * Zv b ≤ Zv a * P2 1074) : V ≤ Zv (FP.ddiv a b) := by
  obtain ⟨x, hx, rfl⟩ := hV
  obtain ⟨s, A, B, h1, h2, h3, r, h4, h5, h6⟩ := div_core ha hb hp x hx
  rw [h4]
  rw [← h2, ← h1] at h
  exact own_sgn_ge h3 h5 h6 h
theorem pos_nz {b : UInt64} (hp : 0 < Zv b) : ¬ DZero b := fun q => by
  have := q.zval
  unfold Zv at hp
  omega
theorem div_in {a b : UInt64} (ha : DFin a) (hb : DFin b) (hp : 0 < Zv b) {L H : Int} (hL : Rep L) (hH : Rep H) (h1 : L * Zv b ≤ Zv a * P2 1074) (h2 : Zv a * P2 1074 ≤ H * Zv b) : DFin (FP.ddiv a b) ∧ L ≤ Zv (FP.ddiv a b) ∧ Zv (FP.ddiv a b) ≤ H :=
  ⟨fin_between (not_nan (Core.ddiv_out ha.notNaN hb (pos_nz hp))) hL hH (div_ge ha hb hp hL h1) (div_le ha hb hp hH h2), div_ge ha hb hp hL h1, div_le ha hb hp hH h2⟩
theorem div_eq {a b : UInt64} (ha : DFin a) (hb : DFin b) (hp : 0 < Zv b) {V : Int} (hV : Rep V) (h : Zv a * P2 1074 = V * Zv b) : DFin (FP.ddiv a b) ∧ Zv (FP.ddiv a b) = V := by
  obtain ⟨h1, h2, h3⟩ := div_in ha hb hp hV hV (Int.le_of_eq h.symm) (Int.le_of_eq h)
  exact ⟨h1, Int.le_antisymm h3 h2⟩
/-! whole numbers -/
theorem l2d_in {n : Int64} {L H : Int} (hL : Rep L) (hH : Rep H) (h1 : L ≤ n.toInt * P2 1074) (h2 : n.toInt * P2 1074 ≤ H) : L ≤ Zv (FP.l2d n) ∧ Zv (FP.l2d n) ≤ H := by
  obtain ⟨x, hx, rfl⟩ := hL
  obtain ⟨y, hy, rfl⟩ := hH
  exact ⟨l2d_zval_ge hx.ne_nan h1, l2d_zval_le hy.ne_nan h2⟩
theorem l2d_dfin (n : Int64) : DFin (FP.l2d n) := Core.l2d_fin n
theorem i2d_dfin (n : Int32) : DFin (FP.i2d n) := Core.i2d_fin n
theorem l2d_rep {n : Int64} (h : Rep (n.toInt * P2 1074)) : Zv (FP.l2d n) = n.toInt * P2 1074 := by
  obtain ⟨h1, h2⟩ := l2d_in h h (Int.le_refl _) (Int.le_refl _)
  exact Int.le_antisymm h2 h1
theorem l2d_eq {n : Int64} (h : n.toInt.natAbs ≤ 2 ^ 53) : Zv (FP.l2d n) = n.toInt * P2 1074 := l2d_rep (rep_int _ h)
theorem i2d_eq (n : Int32) : Zv (FP.i2d n) = n.toInt * P2 1074 := by
  rw [i2d_w, l2d_eq (by rw [Int32.toInt_toInt64]; have := int32_abs n; omega), Int32.toInt_toInt64]
theorem d2l_eq {a : UInt64} (ha : DFin a) {n : Int} (h : Zv a = n * P2 1074) (h1 : -9223372036854775808 ≤ n) (h2 : n < 9223372036854775808) : (FP.d2l a).toInt = n := by
  have e := d2l_val ha.ne_nan
  have z : signed (sgn (val64 a)) (zmag b64 (val64 a)) = n * (one64 : Int) := h
  have hp := one64_pos
  have hm : zmag b64 (val64 a) = n.natAbs * one64 := by
    have q := congrArg Int.natAbs z
    rw [natAbs_signed, Int.natAbs_mul] at q
    exact q
  have hs : signed (sgn (val64 a)) n.natAbs = n := by
    rw [hm, signed_mul] at z
    exact Int.eq_of_mul_eq_mul_right (by omega) z
  rw [hm, Nat.mul_div_cancel _ hp, hs] at e
  show (Core.d2l a).toInt = n
  rw [e]; omega
/-! comparisons -/
theorem cmp_lt {a b : UInt64} (ha : DFin a) (hb : DFin b) (o : CmpOp) (h : Zv a < Zv b) : cmpValue (FP.dcmp a b) o = -1 := by
  rw [show FP.dcmp a b = some .lt from dcmp_lt.mpr ⟨ha.ne_nan, hb.ne_nan, h⟩]; rfl
theorem cmp_eq {a b : UInt64} (ha : DFin a) (hb : DFin b) (o : CmpOp) (h : Zv a = Zv b) : cmpValue (FP.dcmp a b) o = 0 := by
  rw [show FP.dcmp a b = some .eq from dcmp_eq.mpr ⟨ha.ne_nan, hb.ne_nan, h⟩]; rfl
theorem cmp_gt {a b : UInt64} (ha : DFin a) (hb : DFin b) (o : CmpOp) (h : Zv b < Zv a) : cmpValue (FP.dcmp a b) o = 1 := by
  rw [show FP.dcmp a b = some .gt from dcmp_gt.mpr ⟨ha.ne_nan, hb.ne_nan, h⟩]; rfl
/-! constants -/
theorem zero_fin : DFin 0 := (fin_bits _).mpr (by decide)
theorem zero_z : Zv 0 = 0 := zval64_zero
theorem one_fin : DFin 4607182418800017408 := (fin_bits _).mpr (by decide)
theorem one_z : Zv 4607182418800017408 = 1 * P2 1074 := by unfold Zv P2; decide +kernel
end OwnFp

/-! own layer 2: walking forward -/
section OwnGo
open Jvm.Free.Fl
variable {p : Program} {l : Launch} {e : Env} {R : Room} {s : State} {m : MethodId} {args : Array Value} {below : List Frame} {meth : Method} {c : Code} {T : State} {locs : List Loc} {cells slots : Nat} {Q : Outcome → State → Prop}
/-- from here the run comes to an end that Q allows -/
def Go (p : Program) (e : Env) (below : List Frame) (Q : Outcome → State → Prop) (S : State) : Prop :=
  ∃ s₂ o, Steps p.tables e below S s₂ ∧ s₂.status = .running ∧ Ended s₂ below o ∧ Q o s₂
theorem Go.of {S S' : State} (h : ∀ t, Steps p.tables e below S' t → Steps p.tables e below S t) (g : Go p e below Q S') : Go p e below Q S := by
  obtain ⟨s₂, o, h1, h2⟩ := g
  exact ⟨s₂, o, h _ h1, h2⟩
theorem Go.tr {S S' : State} (h : Steps p.tables e below S S') (g : Go p e below Q S') : Go p e below Q S := Go.of (fun _ k => h.trans k) g
abbrev Ret (s : State) (Qv : Option Value → Heap → List Loc → Prop) (kc ks : Nat) : Outcome → State → Prop := fun o U' => ∃ v L, o = .returned v ∧ Qv v U'.heap L ∧ FrameEnd s o U' L kc ks
theorem Go.done (X : Stand p l e R s m args below meth c T locs cells slots) {g : JFrame} {v : Option Value} (hv : meth.sig.returnType = none → v = none) (hlocks : meth.locks = false)
    (hst : ∀ fs, (∀ (f : JFrame) (acts : List Action), f.method = m → f.locked = none → f.entered = [] → (doReturn e (T.setTop f) acts v).1 = T.setFrames fs) → Steps p.tables e below (T.setTop g) (T.setFrames fs))
    {Qv : Option Value → Heap → List Loc → Prop} {kc ks : Nat} (hc : cells ≤ kc) (hk : slots ≤ ks) (hq : Qv v T.heap locs) : Go p e below (Ret s Qv kc ks) (T.setTop g) := by
  obtain ⟨fs, hr, hrun, hended, hW, hsame⟩ := X.leave (v := v) hv hlocks
  exact ⟨_, _, hst fs hr, hrun, hended, v, locs, rfl, hq, ⟨_, rfl⟩, hW, hsame.mono hc hk⟩
theorem Go.retV (X : Stand p l e R s m args below meth c T locs cells slots) (hx : p.tables.exec = Jvm.exec) {pc : Nat} {Ls : Array Slot} (hret : meth.sig.returnType = none) (hlk : meth.locks = false) (hd : decode c.code pc = .ok (.return_, 1))
    {Qv : Option Value → Heap → List Loc → Prop} {kc ks : Nat} (hc : cells ≤ kc) (hk : slots ≤ ks) (hq : Qv none T.heap locs) : Go p e below (Ret s Qv kc ks) (T.setTop (mkF m pc Ls [])) :=
  Go.done X (fun _ => rfl) hlk (fun _ hr => X.returnOut hx hret hd hr) hc hk hq
theorem Go.retL (X : Stand p l e R s m args below meth c T locs cells slots) (hx : p.tables.exec = Jvm.exec) {pc : Nat} {Ls : Array Slot} {st : List Value} {z : Int64} (hret : meth.sig.returnType = some .long) (hlk : meth.locks = false) (hd : decode c.code pc = .ok (.lreturn, 1))
    {Qv : Option Value → Heap → List Loc → Prop} {kc ks : Nat} (hc : cells ≤ kc) (hk : slots ≤ ks) (hq : Qv (some (.long z)) T.heap locs) : Go p e below (Ret s Qv kc ks) (T.setTop (mkF m pc Ls ((.long z) :: st))) :=
  Go.done X (fun h => by rw [hret] at h; cases h) hlk (fun _ hr => retOut X hx hret rfl (Or.inr (Or.inl ⟨rfl, rfl, z, rfl⟩)) hd hr) hc hk hq
theorem Go.retD (X : Stand p l e R s m args below meth c T locs cells slots) (hx : p.tables.exec = Jvm.exec) {pc : Nat} {Ls : Array Slot} {st : List Value} {z : UInt64} (hret : meth.sig.returnType = some .double) (hlk : meth.locks = false) (hd : decode c.code pc = .ok (.dreturn, 1))
    {Qv : Option Value → Heap → List Loc → Prop} {kc ks : Nat} (hc : cells ≤ kc) (hk : slots ≤ ks) (hq : Qv (some (.double z)) T.heap locs) : Go p e below (Ret s Qv kc ks) (T.setTop (mkF m pc Ls ((.double z) :: st))) :=
  Go.done X (fun h => by rw [hret] at h; cases h) hlk (fun _ hr => retOut X hx hret rfl (Or.inr (Or.inr (Or.inl ⟨rfl, rfl, z, rfl⟩))) hd hr) hc hk hq
theorem Go.retF (X : Stand p l e R s m args below meth c T locs cells slots) (hx : p.tables.exec = Jvm.exec) {pc : Nat} {Ls : Array Slot} {st : List Value} {z : UInt32} (hret : meth.sig.returnType = some .float) (hlk : meth.locks = false) (hd : decode c.code pc = .ok (.freturn, 1))
    {Qv : Option Value → Heap → List Loc → Prop} {kc ks : Nat} (hc : cells ≤ kc) (hk : slots ≤ ks) (hq : Qv (some (.float z)) T.heap locs) : Go p e below (Ret s Qv kc ks) (T.setTop (mkF m pc Ls ((.float z) :: st))) :=
  Go.done X (fun h => by rw [hret] at h; cases h) hlk (fun _ hr => retOut X hx hret rfl (Or.inr (Or.inr (Or.inr (Or.inl ⟨rfl, rfl, z, rfl⟩)))) hd hr) hc hk hq
theorem Go.retI (X : Stand p l e R s m args below meth c T locs cells slots) (hx : p.tables.exec = Jvm.exec) {pc : Nat} {Ls : Array Slot} {st : List Value} {z : Int32} (hret : meth.sig.returnType = some .int) (hlk : meth.locks = false) (hd : decode c.code pc = .ok (.ireturn, 1))
    {Qv : Option Value → Heap → List Loc → Prop} {kc ks : Nat} (hc : cells ≤ kc) (hk : slots ≤ ks) (hq : Qv (some (.int z)) T.heap locs) : Go p e below (Ret s Qv kc ks) (T.setTop (mkF m pc Ls ((.int z) :: st))) :=
  Go.done X (fun h => by rw [hret] at h; cases h) hlk (fun _ hr => retOut X hx hret rfl (Or.inl ⟨rfl, Or.inl rfl, z, rfl⟩) hd hr) hc hk hq
theorem Go.retZ (X : Stand p l e R s m args below meth c T locs cells slots) (hx : p.tables.exec = Jvm.exec) {pc : Nat} {Ls : Array Slot} {st : List Value} {z : Int32} (hret : meth.sig.returnType = some .boolean) (hlk : meth.locks = false) (hd : decode c.code pc = .ok (.ireturn, 1)) (hz : z = 0 ∨ z = 1)
    {Qv : Option Value → Heap → List Loc → Prop} {kc ks : Nat} (hc : cells ≤ kc) (hk : slots ≤ ks) (hq : Qv (some (.int z)) T.heap locs) : Go p e below (Ret s Qv kc ks) (T.setTop (mkF m pc Ls ((.int z) :: st))) :=
  Go.done X (fun h => by rw [hret] at h; cases h) hlk (fun _ hr => retOut X hx hret (by rcases hz with rfl | rfl <;> rfl) (Or.inl ⟨rfl, Or.inr (Or.inl rfl), z, rfl⟩) hd hr) hc hk hq
theorem Go.retA (X : Stand p l e R s m args below meth c T locs cells slots) (hx : p.tables.exec = Jvm.exec) {pc : Nat} {Ls : Array Slot} {st : List Value} {v : Value} {t : FieldType} (hret : meth.sig.returnType = some t) (hlk : meth.locks = false) (hd : decode c.code pc = .ok (.areturn, 1)) (ht : t.isReference = true) (hv : v.isRef = true) (hn : narrow t v = v)
    {Qv : Option Value → Heap → List Loc → Prop} {kc ks : Nat} (hc : cells ≤ kc) (hk : slots ≤ ks) (hq : Qv (some v) T.heap locs) : Go p e below (Ret s Qv kc ks) (T.setTop (mkF m pc Ls (v :: st))) :=
  Go.done X (fun h => by rw [hret] at h; cases h) hlk (fun _ hr => retOut X hx hret hn (Or.inr (Or.inr (Or.inr (Or.inr ⟨rfl, ht, hv⟩)))) hd hr) hc hk hq
theorem enter {l : Launch} {Z : State} {y : MethodName} {bytes : ByteArray} {maxL : Nat} {ret : Option FieldType} {ws : List Jvm.Cond} {rm : Room} {as' : Array Value} {h0 : Heap} {Qv : Option Value → Heap → List Loc → Prop} {Ls : Array Slot} {kc ks : Nat}
    (hpn : plainFor y = true) (hef : ∀ m, entryFrame m as' maxL = mkF m 0 Ls [])
    (body : ∀ (p : Program) (e : Env) (s : State) (m : MethodId) (below : List Frame) (meth : Method) (c : Code) (s₁ : State), p.tables.exec = Jvm.exec → c.code = bytes → c.maxLocals = maxL → s.vm.findClass y.cls = some m.cls → meth.name = y.name → meth.sig.returnType = ret → meth.locks = false → Z.Warmed39 s.vm →
      Stand p l e rm s m as' below meth c s₁ [] 0 0 → s₁.heap = h0 → Go p e below (Ret s Qv kc ks) (s₁.setTop (mkF m 0 Ls []))) :
    MetFree l y (head1 (Jvm.Cond.code y bytes maxL ret :: ws) rm) (fun a U => a = as' ∧ Z.Warmed39 U.vm ∧ U.heap = h0) (fun _ _ _ _ _ => True) (fun _ U o U' => ∃ v L, o = .returned v ∧ Qv v U'.heap L ∧ FrameEnd U o U' L kc ks) := by
  refine MetFree.of_bodySF hpn hisR ?_
  intro p e s m args below meth c s₁ Bd hml0 hP hK
  obtain ⟨rfl, hZ, hh⟩ := hP
  have e0 : s₁.heap = h0 := by rw [← hh, Bd.state]; rfl
  obtain ⟨s₂, o, h1, h2, h3, h4⟩ := body p e s m below meth c s₁ Bd.exec Bd.bytes hml0 (findClass_of_methodNamed Bd.named) (name_of_methodNamed Bd.named Bd.method).1 Bd.returns (BodyLoose.notSynchronized Bd) hZ (Stand.of_body Bd) e0
  exact ⟨s₂, o, castTop (hef m) h1, h2, h3, h4⟩
theorem Go.iload (h : At T m c below) (hx : p.tables.exec = Jvm.exec) {pc q : Nat} {Ls : Array Slot} {st : List Value} {k : Nat} {v : Int32} (hd : decode c.code pc = .ok (.iload k, 2)) (hl : Ls[k]? = some (.val (.int v))) (hq : pc + 2 = q) (g : Go p e below Q (T.setTop (mkF m q Ls (.int v :: st)))) : Go p e below Q (T.setTop (mkF m pc Ls st)) := by
  subst hq; exact Go.of (fun _ r => XS.iload h hx rfl hd hl r) g
theorem Go.iloadN (h : At T m c below) (hx : p.tables.exec = Jvm.exec) {pc q : Nat} {Ls : Array Slot} {st : List Value} {k : Fin 4} {v : Int32} (hd : decode c.code pc = .ok (.iload_n k, 1)) (hl : Ls[k.val]? = some (.val (.int v))) (hq : pc + 1 = q) (g : Go p e below Q (T.setTop (mkF m q Ls (.int v :: st)))) : Go p e below Q (T.setTop (mkF m pc Ls st)) := by
  subst hq; exact Go.of (fun _ r => XS.iloadN h hx rfl hd hl r) g
theorem Go.istore (h : At T m c below) (hx : p.tables.exec = Jvm.exec) {pc q : Nat} {Ls : Array Slot} {st : List Value} {k : Nat} {v : Int32} {l2 : Array Slot} (hd : decode c.code pc = .ok (.istore k, 2)) (hl : storeLocals Ls k (.int v) = some l2) (hq : pc + 2 = q) (g : Go p e below Q (T.setTop (mkF m q l2 st))) : Go p e below Q (T.setTop (mkF m pc Ls (.int v :: st))) := by
  subst hq; exact Go.of (fun _ r => XS.istore h hx rfl hd rfl hl r) g
theorem Go.istoreN (h : At T m c below) (hx : p.tables.exec = Jvm.exec) {pc q : Nat} {Ls : Array Slot} {st : List Value} {k : Fin 4} {v : Int32} {l2 : Array Slot} (hd : decode c.code pc = .ok (.istore_n k, 1)) (hl : storeLocals Ls k.val (.int v) = some l2) (hq : pc + 1 = q) (g : Go p e below Q (T.setTop (mkF m q l2 st))) : Go p e below Q (T.setTop (mkF m pc Ls (.int v :: st))) := by
  subst hq; exact Go.of (fun _ r => XS.istoreN h hx rfl hd rfl hl r) g
theorem Go.lload (h : At T m c below) (hx : p.tables.exec = Jvm.exec) {pc q : Nat} {Ls : Array Slot} {st : List Value} {k : Nat} {v : Int64} (hd : decode c.code pc = .ok (.lload k, 2)) (hl : Ls[k]? = some (.val (.long v))) (hq : pc + 2 = q) (g : Go p e below Q (T.setTop (mkF m q Ls (.long v :: st)))) : Go p e below Q (T.setTop (mkF m pc Ls st)) := by
  subst hq; exact Go.of (fun _ r => XS.lload h hx rfl hd hl r) g
theorem Go.lloadN (h : At T m c below) (hx : p.tables.exec = Jvm.exec) {pc q : Nat} {Ls : Array Slot} {st : List Value} {k : Fin 4} {v : Int64} (hd : decode c.code pc = .ok (.lload_n k, 1)) (hl : Ls[k.val]? = some (.val (.long v))) (hq : pc + 1 = q) (g : Go p e below Q (T.setTop (mkF m q Ls (.long v :: st)))) : Go p e below Q (T.setTop (mkF m pc Ls st)) := by
  subst hq; exact Go.of (fun _ r => XS.lloadN h hx rfl hd hl r) g
theorem Go.lstore (h : At T m c below) (hx : p.tables.exec = Jvm.exec) {pc q : Nat} {Ls : Array Slot} {st : List Value} {k : Nat} {v : Int64} {l2 : Array Slot} (hd : decode c.code pc = .ok (.lstore k, 2)) (hl : storeLocals Ls k (.long v) = some l2) (hq : pc + 2 = q) (g : Go p e below Q (T.setTop (mkF m q l2 st))) : Go p e below Q (T.setTop (mkF m pc Ls (.long v :: st))) := by
  subst hq; exact Go.of (fun _ r => XS.lstore h hx rfl hd rfl hl r) g
theorem Go.lstoreN (h : At T m c below) (hx : p.tables.exec = Jvm.exec) {pc q : Nat} {Ls : Array Slot} {st : List Value} {k : Fin 4} {v : Int64} {l2 : Array Slot} (hd : decode c.code pc = .ok (.lstore_n k, 1)) (hl : storeLocals Ls k.val (.long v) = some l2) (hq : pc + 1 = q) (g : Go p e below Q (T.setTop (mkF m q l2 st))) : Go p e below Q (T.setTop (mkF m pc Ls (.long v :: st))) := by
  subst hq; exact Go.of (fun _ r => XS.lstoreN h hx rfl hd rfl hl r) g
theorem Go.dload (h : At T m c below) (hx : p.tables.exec = Jvm.exec) {pc q : Nat} {Ls : Array Slot} {st : List Value} {k : Nat} {v : UInt64} (hd : decode c.code pc = .ok (.dload k, 2)) (hl : Ls[k]? = some (.val (.double v))) (hq : pc + 2 = q) (g : Go p e below Q (T.setTop (mkF m q Ls (.double v :: st)))) : Go p e below Q (T.setTop (mkF m pc Ls st)) := by
  subst hq; exact Go.of (fun _ r => XS.dload h hx rfl hd hl r) g
theorem Go.dloadN (h : At T m c below) (hx : p.tables.exec = Jvm.exec) {pc q : Nat} {Ls : Array Slot} {st : List Value} {k : Fin 4} {v : UInt64} (hd : decode c.code pc = .ok (.dload_n k, 1)) (hl : Ls[k.val]? = some (.val (.double v))) (hq : pc + 1 = q) (g : Go p e below Q (T.setTop (mkF m q Ls (.double v :: st)))) : Go p e below Q (T.setTop (mkF m pc Ls st)) := by
  subst hq; exact Go.of (fun _ r => XS.dloadN h hx rfl hd hl r) g
theorem Go.dstore (h : At T m c below) (hx : p.tables.exec = Jvm.exec) {pc q : Nat} {Ls : Array Slot} {st : List Value} {k : Nat} {v : UInt64} {l2 : Array Slot} (hd : decode c.code pc = .ok (.dstore k, 2)) (hl : storeLocals Ls k (.double v) = some l2) (hq : pc + 2 = q) (g : Go p e below Q (T.setTop (mkF m q l2 st))) : Go p e below Q (T.setTop (mkF m pc Ls (.double v :: st))) := by
  subst hq; exact Go.of (fun _ r => XS.dstore h hx rfl hd rfl hl r) g
theorem Go.dstoreN (h : At T m c below) (hx : p.tables.exec = Jvm.exec) {pc q : Nat} {Ls : Array Slot} {st : List Value} {k : Fin 4} {v : UInt64} {l2 : Array Slot} (hd : decode c.code pc = .ok (.dstore_n k, 1)) (hl : storeLocals Ls k.val (.double v) = some l2) (hq : pc + 1 = q) (g : Go p e below Q (T.setTop (mkF m q l2 st))) : Go p e below Q (T.setTop (mkF m pc Ls (.double v :: st))) := by
  subst hq; exact Go.of (fun _ r => XS.dstoreN h hx rfl hd rfl hl r) g
theorem Go.fload (h : At T m c below) (hx : p.tables.exec = Jvm.exec) {pc q : Nat} {Ls : Array Slot} {st : List Value} {k : Nat} {v : UInt32} (hd : decode c.code pc = .ok (.fload k, 2)) (hl : Ls[k]? = some (.val (.float v))) (hq : pc + 2 = q) (g : Go p e below Q (T.setTop (mkF m q Ls (.float v :: st)))) : Go p e below Q (T.setTop (mkF m pc Ls st)) := by
  subst hq; exact Go.of (fun _ r => XS.fload h hx rfl hd hl r) g
theorem Go.floadN (h : At T m c below) (hx : p.tables.exec = Jvm.exec) {pc q : Nat} {Ls : Array Slot} {st : List Value} {k : Fin 4} {v : UInt32} (hd : decode c.code pc = .ok (.fload_n k, 1)) (hl : Ls[k.val]? = some (.val (.float v))) (hq : pc + 1 = q) (g : Go p e below Q (T.setTop (mkF m q Ls (.float v :: st)))) : Go p e below Q (T.setTop (mkF m pc Ls st)) := by
  subst hq; exact Go.of (fun _ r => XS.floadN h hx rfl hd hl r) g
theorem Go.fstore (h : At T m c below) (hx : p.tables.exec = Jvm.exec) {pc q : Nat} {Ls : Array Slot} {st : List Value} {k : Nat} {v : UInt32} {l2 : Array Slot} (hd : decode c.code pc = .ok (.fstore k, 2)) (hl : storeLocals Ls k (.float v) = some l2) (hq : pc + 2 = q) (g : Go p e below Q (T.setTop (mkF m q l2 st))) : Go p e below Q (T.setTop (mkF m pc Ls (.float v :: st))) := by
  subst hq; exact Go.of (fun _ r => XS.fstore h hx rfl hd rfl hl r) g
theorem Go.fstoreN (h : At T m c below) (hx : p.tables.exec = Jvm.exec) {pc q : Nat} {Ls : Array Slot} {st : List Value} {k : Fin 4} {v : UInt32} {l2 : Array Slot} (hd : decode c.code pc = .ok (.fstore_n k, 1)) (hl : storeLocals Ls k.val (.float v) = some l2) (hq : pc + 1 = q) (g : Go p e below Q (T.setTop (mkF m q l2 st))) : Go p e below Q (T.setTop (mkF m pc Ls (.float v :: st))) := by
  subst hq; exact Go.of (fun _ r => XS.fstoreN h hx rfl hd rfl hl r) g
theorem Go.aload (h : At T m c below) (hx : p.tables.exec = Jvm.exec) {pc q : Nat} {Ls : Array Slot} {st : List Value} {k : Nat} {v : Value} (hd : decode c.code pc = .ok (.aload k, 2)) (hl : Ls[k]? = some (.val v)) (hv : v.isRef = true) (hq : pc + 2 = q) (g : Go p e below Q (T.setTop (mkF m q Ls (v :: st)))) : Go p e below Q (T.setTop (mkF m pc Ls st)) := by
  subst hq; exact Go.of (fun _ r => XS.aload h hx rfl hd hl hv r) g
theorem Go.aloadN (h : At T m c below) (hx : p.tables.exec = Jvm.exec) {pc q : Nat} {Ls : Array Slot} {st : List Value} {k : Fin 4} {v : Value} (hd : decode c.code pc = .ok (.aload_n k, 1)) (hl : Ls[k.val]? = some (.val v)) (hv : v.isRef = true) (hq : pc + 1 = q) (g : Go p e below Q (T.setTop (mkF m q Ls (v :: st)))) : Go p e below Q (T.setTop (mkF m pc Ls st)) := by
  subst hq; exact Go.of (fun _ r => XS.aloadN h hx rfl hd hl hv r) g
theorem Go.astore (h : At T m c below) (hx : p.tables.exec = Jvm.exec) {pc q : Nat} {Ls : Array Slot} {st : List Value} {k : Nat} {v : Value} {l2 : Array Slot} (hd : decode c.code pc = .ok (.astore k, 2)) (hv : v.isRef = true) (hl : storeLocals Ls k v = some l2) (hq : pc + 2 = q) (g : Go p e below Q (T.setTop (mkF m q l2 st))) : Go p e below Q (T.setTop (mkF m pc Ls (v :: st))) := by
  subst hq; exact Go.of (fun _ r => XS.astore h hx rfl hd rfl hv hl r) g
theorem Go.astoreN (h : At T m c below) (hx : p.tables.exec = Jvm.exec) {pc q : Nat} {Ls : Array Slot} {st : List Value} {k : Fin 4} {v : Value} {l2 : Array Slot} (hd : decode c.code pc = .ok (.astore_n k, 1)) (hv : v.isRef = true) (hl : storeLocals Ls k.val v = some l2) (hq : pc + 1 = q) (g : Go p e below Q (T.setTop (mkF m q l2 st))) : Go p e below Q (T.setTop (mkF m pc Ls (v :: st))) := by
  subst hq; exact Go.of (fun _ r => XS.astoreN h hx rfl hd rfl hv hl r) g
theorem Go.iconst (h : At T m c below) (hx : p.tables.exec = Jvm.exec) {pc q : Nat} {Ls : Array Slot} {st : List Value} {i : Int} {v : Int32} (hd : decode c.code pc = .ok (.iconst i, 1)) (hv : Int32.ofInt i = v) (hq : pc + 1 = q) (g : Go p e below Q (T.setTop (mkF m q Ls (.int v :: st)))) : Go p e below Q (T.setTop (mkF m pc Ls st)) := by
  subst hq hv; exact Go.of (fun _ r => XS.iconst h hx rfl hd r) g
theorem Go.bipush (h : At T m c below) (hx : p.tables.exec = Jvm.exec) {pc q : Nat} {Ls : Array Slot} {st : List Value} {i : Int} {v : Int32} (hd : decode c.code pc = .ok (.bipush i, 2)) (hv : (Int8.ofInt i).toInt32 = v) (hq : pc + 2 = q) (g : Go p e below Q (T.setTop (mkF m q Ls (.int v :: st)))) : Go p e below Q (T.setTop (mkF m pc Ls st)) := by
  subst hq hv; exact Go.of (fun _ r => XS.bipush h hx rfl hd r) g
theorem Go.sipush (h : At T m c below) (hx : p.tables.exec = Jvm.exec) {pc q : Nat} {Ls : Array Slot} {st : List Value} {i : Int} {v : Int32} (hd : decode c.code pc = .ok (.sipush i, 3)) (hv : (Int16.ofInt i).toInt32 = v) (hq : pc + 3 = q) (g : Go p e below Q (T.setTop (mkF m q Ls (.int v :: st)))) : Go p e below Q (T.setTop (mkF m pc Ls st)) := by
  subst hq hv; exact Go.of (fun _ r => XS.sipush h hx rfl hd r) g
theorem Go.lconst (h : At T m c below) (hx : p.tables.exec = Jvm.exec) {pc q : Nat} {Ls : Array Slot} {st : List Value} {k : Fin 2} {v : Int64} (hd : decode c.code pc = .ok (.lconst k, 1)) (hv : Int64.ofNat k = v) (hq : pc + 1 = q) (g : Go p e below Q (T.setTop (mkF m q Ls (.long v :: st)))) : Go p e below Q (T.setTop (mkF m pc Ls st)) := by
  subst hq hv; exact Go.of (fun _ r => XS.lconst h hx rfl hd r) g
theorem Go.aconst (h : At T m c below) (hx : p.tables.exec = Jvm.exec) {pc q : Nat} {Ls : Array Slot} {st : List Value}  (hd : decode c.code pc = .ok (.aconst_null, 1)) (hq : pc + 1 = q) (g : Go p e below Q (T.setTop (mkF m q Ls (.null :: st)))) : Go p e below Q (T.setTop (mkF m pc Ls st)) := by
  subst hq; exact Go.of (fun _ r => XS.aconstNull h hx rfl hd r) g
theorem Go.dconst0 (h : At T m c below) (hx : p.tables.exec = Jvm.exec) {pc q : Nat} {Ls : Array Slot} {st : List Value} {v : UInt64} (hd : decode c.code pc = .ok (.dconst 0, 1)) (hv : FP.dconst0 = v) (hq : pc + 1 = q) (g : Go p e below Q (T.setTop (mkF m q Ls (.double v :: st)))) : Go p e below Q (T.setTop (mkF m pc Ls st)) := by
  subst hq; exact Go.of (fun _ r => XS.dconst0 h hx rfl hd hv r) g
theorem Go.dconst1 (h : At T m c below) (hx : p.tables.exec = Jvm.exec) {pc q : Nat} {Ls : Array Slot} {st : List Value} {v : UInt64} (hd : decode c.code pc = .ok (.dconst 1, 1)) (hv : FP.dconst1 = v) (hq : pc + 1 = q) (g : Go p e below Q (T.setTop (mkF m q Ls (.double v :: st)))) : Go p e below Q (T.setTop (mkF m pc Ls st)) := by
  subst hq; exact Go.of (fun _ r => XS.dconst1 h hx rfl hd hv r) g
theorem Go.fconst0 (h : At T m c below) (hx : p.tables.exec = Jvm.exec) {pc q : Nat} {Ls : Array Slot} {st : List Value} {v : UInt32} (hd : decode c.code pc = .ok (.fconst 0, 1)) (hv : FP.fconst0 = v) (hq : pc + 1 = q) (g : Go p e below Q (T.setTop (mkF m q Ls (.float v :: st)))) : Go p e below Q (T.setTop (mkF m pc Ls st)) := by
  subst hq; exact Go.of (fun _ r => XS.fconst0 h hx rfl hd hv r) g
theorem Go.fconst1 (h : At T m c below) (hx : p.tables.exec = Jvm.exec) {pc q : Nat} {Ls : Array Slot} {st : List Value} {v : UInt32} (hd : decode c.code pc = .ok (.fconst 1, 1)) (hv : FP.fconst1 = v) (hq : pc + 1 = q) (g : Go p e below Q (T.setTop (mkF m q Ls (.float v :: st)))) : Go p e below Q (T.setTop (mkF m pc Ls st)) := by
  subst hq; exact Go.of (fun _ r => XS.fconst1 h hx rfl hd hv r) g
theorem Go.iadd (h : At T m c below) (hx : p.tables.exec = Jvm.exec) {pc q : Nat} {Ls : Array Slot} {st : List Value} {x : Int32} {y : Int32} {v : Int32} (hd : decode c.code pc = .ok (.iadd, 1)) (hv : x + y = v) (hq : pc + 1 = q) (g : Go p e below Q (T.setTop (mkF m q Ls (.int v :: st)))) : Go p e below Q (T.setTop (mkF m pc Ls (.int y :: .int x :: st))) := by
  subst hq hv; exact Go.of (fun _ r => XS.iadd h hx rfl hd rfl r) g
theorem Go.isub (h : At T m c below) (hx : p.tables.exec = Jvm.exec) {pc q : Nat} {Ls : Array Slot} {st : List Value} {x : Int32} {y : Int32} {v : Int32} (hd : decode c.code pc = .ok (.isub, 1)) (hv : x - y = v) (hq : pc + 1 = q) (g : Go p e below Q (T.setTop (mkF m q Ls (.int v :: st)))) : Go p e below Q (T.setTop (mkF m pc Ls (.int y :: .int x :: st))) := by
  subst hq hv; exact Go.of (fun _ r => XS.isub h hx rfl hd rfl r) g
theorem Go.iand (h : At T m c below) (hx : p.tables.exec = Jvm.exec) {pc q : Nat} {Ls : Array Slot} {st : List Value} {x : Int32} {y : Int32} {v : Int32} (hd : decode c.code pc = .ok (.iand, 1)) (hv : x &&& y = v) (hq : pc + 1 = q) (g : Go p e below Q (T.setTop (mkF m q Ls (.int v :: st)))) : Go p e below Q (T.setTop (mkF m pc Ls (.int y :: .int x :: st))) := by
  subst hq hv; exact Go.of (fun _ r => XS.iand h hx rfl hd rfl r) g
theorem Go.imul (h : At T m c below) (hx : p.tables.exec = Jvm.exec) {pc q : Nat} {Ls : Array Slot} {st : List Value} {x : Int32} {y : Int32} {v : Int32} (hd : decode c.code pc = .ok (.imul, 1)) (hv : x * y = v) (hq : pc + 1 = q) (g : Go p e below Q (T.setTop (mkF m q Ls (.int v :: st)))) : Go p e below Q (T.setTop (mkF m pc Ls (.int y :: .int x :: st))) := by
  subst hq hv; exact Go.of (fun _ r => XS.imul h hx rfl hd rfl r) g
theorem Go.ixor (h : At T m c below) (hx : p.tables.exec = Jvm.exec) {pc q : Nat} {Ls : Array Slot} {st : List Value} {x : Int32} {y : Int32} {v : Int32} (hd : decode c.code pc = .ok (.ixor, 1)) (hv : x ^^^ y = v) (hq : pc + 1 = q) (g : Go p e below Q (T.setTop (mkF m q Ls (.int v :: st)))) : Go p e below Q (T.setTop (mkF m pc Ls (.int y :: .int x :: st))) := by
  subst hq hv; exact Go.of (fun _ r => XS.ixor h hx rfl hd rfl r) g
theorem Go.ior (h : At T m c below) (hx : p.tables.exec = Jvm.exec) {pc q : Nat} {Ls : Array Slot} {st : List Value} {x : Int32} {y : Int32} {v : Int32} (hd : decode c.code pc = .ok (.ior, 1)) (hv : x ||| y = v) (hq : pc + 1 = q) (g : Go p e below Q (T.setTop (mkF m q Ls (.int v :: st)))) : Go p e below Q (T.setTop (mkF m pc Ls (.int y :: .int x :: st))) := by
  subst hq hv; exact Go.of (fun _ r => XS.ior h hx rfl hd rfl r) g
theorem Go.ishl (h : At T m c below) (hx : p.tables.exec = Jvm.exec) {pc q : Nat} {Ls : Array Slot} {st : List Value} {x : Int32} {y : Int32} {v : Int32} (hd : decode c.code pc = .ok (.ishl, 1)) (hv : x <<< (y &&& 31) = v) (hq : pc + 1 = q) (g : Go p e below Q (T.setTop (mkF m q Ls (.int v :: st)))) : Go p e below Q (T.setTop (mkF m pc Ls (.int y :: .int x :: st))) := by
  subst hq hv; exact Go.of (fun _ r => XS.ishl h hx rfl hd rfl r) g
theorem Go.ishr (h : At T m c below) (hx : p.tables.exec = Jvm.exec) {pc q : Nat} {Ls : Array Slot} {st : List Value} {x : Int32} {y : Int32} {v : Int32} (hd : decode c.code pc = .ok (.ishr, 1)) (hv : x >>> (y &&& 31) = v) (hq : pc + 1 = q) (g : Go p e below Q (T.setTop (mkF m q Ls (.int v :: st)))) : Go p e below Q (T.setTop (mkF m pc Ls (.int y :: .int x :: st))) := by
  subst hq hv; exact Go.of (fun _ r => XS.ishr h hx rfl hd rfl r) g
theorem Go.iushr (h : At T m c below) (hx : p.tables.exec = Jvm.exec) {pc q : Nat} {Ls : Array Slot} {st : List Value} {x : Int32} {y : Int32} {v : Int32} (hd : decode c.code pc = .ok (.iushr, 1)) (hv : (x.toUInt32 >>> (y &&& 31).toUInt32).toInt32 = v) (hq : pc + 1 = q) (g : Go p e below Q (T.setTop (mkF m q Ls (.int v :: st)))) : Go p e below Q (T.setTop (mkF m pc Ls (.int y :: .int x :: st))) := by
  subst hq hv; exact Go.of (fun _ r => XS.iushr h hx rfl hd rfl r) g
theorem Go.idiv (h : At T m c below) (hx : p.tables.exec = Jvm.exec) {pc q : Nat} {Ls : Array Slot} {st : List Value} {x : Int32} {y : Int32} {v : Int32} (hd : decode c.code pc = .ok (.idiv, 1)) (hy : y ≠ 0) (hv : x / y = v) (hq : pc + 1 = q) (g : Go p e below Q (T.setTop (mkF m q Ls (.int v :: st)))) : Go p e below Q (T.setTop (mkF m pc Ls (.int y :: .int x :: st))) := by
  subst hq hv; exact Go.of (fun _ r => XS.idiv h hx rfl hd rfl hy r) g
theorem Go.irem (h : At T m c below) (hx : p.tables.exec = Jvm.exec) {pc q : Nat} {Ls : Array Slot} {st : List Value} {x : Int32} {y : Int32} {v : Int32} (hd : decode c.code pc = .ok (.irem, 1)) (hy : y ≠ 0) (hv : x - (x / y) * y = v) (hq : pc + 1 = q) (g : Go p e below Q (T.setTop (mkF m q Ls (.int v :: st)))) : Go p e below Q (T.setTop (mkF m pc Ls (.int y :: .int x :: st))) := by
  subst hq hv; exact Go.of (fun _ r => XS.irem h hx rfl hd rfl hy r) g
theorem Go.ladd (h : At T m c below) (hx : p.tables.exec = Jvm.exec) {pc q : Nat} {Ls : Array Slot} {st : List Value} {x : Int64} {y : Int64} {v : Int64} (hd : decode c.code pc = .ok (.ladd, 1)) (hv : x + y = v) (hq : pc + 1 = q) (g : Go p e below Q (T.setTop (mkF m q Ls (.long v :: st)))) : Go p e below Q (T.setTop (mkF m pc Ls (.long y :: .long x :: st))) := by
  subst hq hv; exact Go.of (fun _ r => XS.ladd h hx rfl hd rfl r) g
theorem Go.lsub (h : At T m c below) (hx : p.tables.exec = Jvm.exec) {pc q : Nat} {Ls : Array Slot} {st : List Value} {x : Int64} {y : Int64} {v : Int64} (hd : decode c.code pc = .ok (.lsub, 1)) (hv : x - y = v) (hq : pc + 1 = q) (g : Go p e below Q (T.setTop (mkF m q Ls (.long v :: st)))) : Go p e below Q (T.setTop (mkF m pc Ls (.long y :: .long x :: st))) := by
  subst hq hv; exact Go.of (fun _ r => XS.lsub h hx rfl hd rfl r) g
theorem Go.lmul (h : At T m c below) (hx : p.tables.exec = Jvm.exec) {pc q : Nat} {Ls : Array Slot} {st : List Value} {x : Int64} {y : Int64} {v : Int64} (hd : decode c.code pc = .ok (.lmul, 1)) (hv : x * y = v) (hq : pc + 1 = q) (g : Go p e below Q (T.setTop (mkF m q Ls (.long v :: st)))) : Go p e below Q (T.setTop (mkF m pc Ls (.long y :: .long x :: st))) := by
  subst hq hv; exact Go.of (fun _ r => XS.lmul h hx rfl hd rfl r) g
theorem Go.land (h : At T m c below) (hx : p.tables.exec = Jvm.exec) {pc q : Nat} {Ls : Array Slot} {st : List Value} {x : Int64} {y : Int64} {v : Int64} (hd : decode c.code pc = .ok (.land, 1)) (hv : x &&& y = v) (hq : pc + 1 = q) (g : Go p e below Q (T.setTop (mkF m q Ls (.long v :: st)))) : Go p e below Q (T.setTop (mkF m pc Ls (.long y :: .long x :: st))) := by
  subst hq hv; exact Go.of (fun _ r => XS.land h hx rfl hd rfl r) g
theorem Go.lor (h : At T m c below) (hx : p.tables.exec = Jvm.exec) {pc q : Nat} {Ls : Array Slot} {st : List Value} {x : Int64} {y : Int64} {v : Int64} (hd : decode c.code pc = .ok (.lor, 1)) (hv : x ||| y = v) (hq : pc + 1 = q) (g : Go p e below Q (T.setTop (mkF m q Ls (.long v :: st)))) : Go p e below Q (T.setTop (mkF m pc Ls (.long y :: .long x :: st))) := by
  subst hq hv; exact Go.of (fun _ r => XS.lor h hx rfl hd rfl r) g
theorem Go.lxor (h : At T m c below) (hx : p.tables.exec = Jvm.exec) {pc q : Nat} {Ls : Array Slot} {st : List Value} {x : Int64} {y : Int64} {v : Int64} (hd : decode c.code pc = .ok (.lxor, 1)) (hv : x ^^^ y = v) (hq : pc + 1 = q) (g : Go p e below Q (T.setTop (mkF m q Ls (.long v :: st)))) : Go p e below Q (T.setTop (mkF m pc Ls (.long y :: .long x :: st))) := by
  subst hq hv; exact Go.of (fun _ r => XS.lxor h hx rfl hd rfl r) g
theorem Go.lshl (h : At T m c below) (hx : p.tables.exec = Jvm.exec) {pc q : Nat} {Ls : Array Slot} {st : List Value} {x : Int64} {y : Int32} {v : Int64} (hd : decode c.code pc = .ok (.lshl, 1)) (hv : x <<< (y &&& 0x3f).toInt64 = v) (hq : pc + 1 = q) (g : Go p e below Q (T.setTop (mkF m q Ls (.long v :: st)))) : Go p e below Q (T.setTop (mkF m pc Ls (.int y :: .long x :: st))) := by
  subst hq hv; exact Go.of (fun _ r => XS.lshl h hx rfl hd rfl r) g
theorem Go.lshr (h : At T m c below) (hx : p.tables.exec = Jvm.exec) {pc q : Nat} {Ls : Array Slot} {st : List Value} {x : Int64} {y : Int32} {v : Int64} (hd : decode c.code pc = .ok (.lshr, 1)) (hv : x >>> (y &&& 0x3f).toInt64 = v) (hq : pc + 1 = q) (g : Go p e below Q (T.setTop (mkF m q Ls (.long v :: st)))) : Go p e below Q (T.setTop (mkF m pc Ls (.int y :: .long x :: st))) := by
  subst hq hv; exact Go.of (fun _ r => XS.lshr h hx rfl hd rfl r) g
theorem Go.lushr (h : At T m c below) (hx : p.tables.exec = Jvm.exec) {pc q : Nat} {Ls : Array Slot} {st : List Value} {x : Int64} {y : Int32} {v : Int64} (hd : decode c.code pc = .ok (.lushr, 1)) (hv : (x.toUInt64 >>> (y &&& 0x3f).toInt64.toUInt64).toInt64 = v) (hq : pc + 1 = q) (g : Go p e below Q (T.setTop (mkF m q Ls (.long v :: st)))) : Go p e below Q (T.setTop (mkF m pc Ls (.int y :: .long x :: st))) := by
  subst hq hv; exact Go.of (fun _ r => XS.lushr h hx rfl hd rfl r) g
theorem Go.ldiv (h : At T m c below) (hx : p.tables.exec = Jvm.exec) {pc q : Nat} {Ls : Array Slot} {st : List Value} {x : Int64} {y : Int64} {v : Int64} (hd : decode c.code pc = .ok (.ldiv, 1)) (hy : y ≠ 0) (hv : x / y = v) (hq : pc + 1 = q) (g : Go p e below Q (T.setTop (mkF m q Ls (.long v :: st)))) : Go p e below Q (T.setTop (mkF m pc Ls (.long y :: .long x :: st))) := by
  subst hq hv; exact Go.of (fun _ r => XS.ldiv h hx rfl hd rfl hy r) g
theorem Go.lrem (h : At T m c below) (hx : p.tables.exec = Jvm.exec) {pc q : Nat} {Ls : Array Slot} {st : List Value} {x : Int64} {y : Int64} {v : Int64} (hd : decode c.code pc = .ok (.lrem, 1)) (hy : y ≠ 0) (hv : x - (x / y) * y = v) (hq : pc + 1 = q) (g : Go p e below Q (T.setTop (mkF m q Ls (.long v :: st)))) : Go p e below Q (T.setTop (mkF m pc Ls (.long y :: .long x :: st))) := by
  subst hq hv; exact Go.of (fun _ r => XS.lrem h hx rfl hd rfl hy r) g
theorem Go.lcmp (h : At T m c below) (hx : p.tables.exec = Jvm.exec) {pc q : Nat} {Ls : Array Slot} {st : List Value} {x : Int64} {y : Int64} {v : Int32} (hd : decode c.code pc = .ok (.lcmp, 1)) (hv : lcmpW x y = v) (hq : pc + 1 = q) (g : Go p e below Q (T.setTop (mkF m q Ls (.int v :: st)))) : Go p e below Q (T.setTop (mkF m pc Ls (.long y :: .long x :: st))) := by
  subst hq hv; exact Go.of (fun _ r => XS.lcmp h hx rfl hd rfl r) g
theorem Go.ineg (h : At T m c below) (hx : p.tables.exec = Jvm.exec) {pc q : Nat} {Ls : Array Slot} {st : List Value} {x : Int32} {v : Int32} (hd : decode c.code pc = .ok (.ineg, 1)) (hv : -x = v) (hq : pc + 1 = q) (g : Go p e below Q (T.setTop (mkF m q Ls (.int v :: st)))) : Go p e below Q (T.setTop (mkF m pc Ls (.int x :: st))) := by
  subst hq hv; exact Go.of (fun _ r => XS.ineg h hx rfl hd rfl r) g
theorem Go.lneg (h : At T m c below) (hx : p.tables.exec = Jvm.exec) {pc q : Nat} {Ls : Array Slot} {st : List Value} {x : Int64} {v : Int64} (hd : decode c.code pc = .ok (.lneg, 1)) (hv : -x = v) (hq : pc + 1 = q) (g : Go p e below Q (T.setTop (mkF m q Ls (.long v :: st)))) : Go p e below Q (T.setTop (mkF m pc Ls (.long x :: st))) := by
  subst hq hv; exact Go.of (fun _ r => XS.lneg h hx rfl hd rfl r) g
theorem Go.i2l (h : At T m c below) (hx : p.tables.exec = Jvm.exec) {pc q : Nat} {Ls : Array Slot} {st : List Value} {x : Int32} {v : Int64} (hd : decode c.code pc = .ok (.i2l, 1)) (hv : x.toInt64 = v) (hq : pc + 1 = q) (g : Go p e below Q (T.setTop (mkF m q Ls (.long v :: st)))) : Go p e below Q (T.setTop (mkF m pc Ls (.int x :: st))) := by
  subst hq hv; exact Go.of (fun _ r => XS.i2l h hx rfl hd rfl r) g
theorem Go.l2i (h : At T m c below) (hx : p.tables.exec = Jvm.exec) {pc q : Nat} {Ls : Array Slot} {st : List Value} {x : Int64} {v : Int32} (hd : decode c.code pc = .ok (.l2i, 1)) (hv : x.toInt32 = v) (hq : pc + 1 = q) (g : Go p e below Q (T.setTop (mkF m q Ls (.int v :: st)))) : Go p e below Q (T.setTop (mkF m pc Ls (.long x :: st))) := by
  subst hq hv; exact Go.of (fun _ r => XS.l2i h hx rfl hd rfl r) g
theorem Go.i2d (h : At T m c below) (hx : p.tables.exec = Jvm.exec) {pc q : Nat} {Ls : Array Slot} {st : List Value} {x : Int32} {v : UInt64} (hd : decode c.code pc = .ok (.i2d, 1)) (hv : FP.i2d x = v) (hq : pc + 1 = q) (g : Go p e below Q (T.setTop (mkF m q Ls (.double v :: st)))) : Go p e below Q (T.setTop (mkF m pc Ls (.int x :: st))) := by
  subst hq; exact Go.of (fun _ r => XS.i2dS h hx rfl hd rfl hv r) g
theorem Go.l2d (h : At T m c below) (hx : p.tables.exec = Jvm.exec) {pc q : Nat} {Ls : Array Slot} {st : List Value} {x : Int64} {v : UInt64} (hd : decode c.code pc = .ok (.l2d, 1)) (hv : FP.l2d x = v) (hq : pc + 1 = q) (g : Go p e below Q (T.setTop (mkF m q Ls (.double v :: st)))) : Go p e below Q (T.setTop (mkF m pc Ls (.long x :: st))) := by
  subst hq; exact Go.of (fun _ r => XS.l2dS h hx rfl hd rfl hv r) g
theorem Go.d2i (h : At T m c below) (hx : p.tables.exec = Jvm.exec) {pc q : Nat} {Ls : Array Slot} {st : List Value} {x : UInt64} {v : Int32} (hd : decode c.code pc = .ok (.d2i, 1)) (hv : FP.d2i x = v) (hq : pc + 1 = q) (g : Go p e below Q (T.setTop (mkF m q Ls (.int v :: st)))) : Go p e below Q (T.setTop (mkF m pc Ls (.double x :: st))) := by
  subst hq; exact Go.of (fun _ r => XS.d2iS h hx rfl hd rfl hv r) g
theorem Go.d2l (h : At T m c below) (hx : p.tables.exec = Jvm.exec) {pc q : Nat} {Ls : Array Slot} {st : List Value} {x : UInt64} {v : Int64} (hd : decode c.code pc = .ok (.d2l, 1)) (hv : FP.d2l x = v) (hq : pc + 1 = q) (g : Go p e below Q (T.setTop (mkF m q Ls (.long v :: st)))) : Go p e below Q (T.setTop (mkF m pc Ls (.double x :: st))) := by
  subst hq; exact Go.of (fun _ r => XS.d2lS h hx rfl hd rfl hv r) g
theorem Go.dneg (h : At T m c below) (hx : p.tables.exec = Jvm.exec) {pc q : Nat} {Ls : Array Slot} {st : List Value} {x : UInt64} {v : UInt64} (hd : decode c.code pc = .ok (.dneg, 1)) (hv : FP.dneg x = v) (hq : pc + 1 = q) (g : Go p e below Q (T.setTop (mkF m q Ls (.double v :: st)))) : Go p e below Q (T.setTop (mkF m pc Ls (.double x :: st))) := by
  subst hq; exact Go.of (fun _ r => XS.dnegS h hx rfl hd rfl hv r) g
theorem Go.i2f (h : At T m c below) (hx : p.tables.exec = Jvm.exec) {pc q : Nat} {Ls : Array Slot} {st : List Value} {x : Int32} {v : UInt32} (hd : decode c.code pc = .ok (.i2f, 1)) (hv : FP.i2f x = v) (hq : pc + 1 = q) (g : Go p e below Q (T.setTop (mkF m q Ls (.float v :: st)))) : Go p e below Q (T.setTop (mkF m pc Ls (.int x :: st))) := by
  subst hq; exact Go.of (fun _ r => XS.i2fS h hx rfl hd rfl hv r) g
theorem Go.l2f (h : At T m c below) (hx : p.tables.exec = Jvm.exec) {pc q : Nat} {Ls : Array Slot} {st : List Value} {x : Int64} {v : UInt32} (hd : decode c.code pc = .ok (.l2f, 1)) (hv : FP.l2f x = v) (hq : pc + 1 = q) (g : Go p e below Q (T.setTop (mkF m q Ls (.float v :: st)))) : Go p e below Q (T.setTop (mkF m pc Ls (.long x :: st))) := by
  subst hq; exact Go.of (fun _ r => XS.l2fS h hx rfl hd rfl hv r) g
theorem Go.dadd (h : At T m c below) (hx : p.tables.exec = Jvm.exec) {pc q : Nat} {Ls : Array Slot} {st : List Value} {x y v : UInt64} (hd : decode c.code pc = .ok (.dadd, 1)) (hn : NoNaN64 (FP.dadd x y)) (hv : FP.dadd x y = v) (hq : pc + 1 = q) (g : Go p e below Q (T.setTop (mkF m q Ls (.double v :: st)))) : Go p e below Q (T.setTop (mkF m pc Ls (.double y :: .double x :: st))) := by
  subst hq; exact Go.of (fun _ r => XS.daddS h hx rfl hd rfl hn hv r) g
theorem Go.dsub (h : At T m c below) (hx : p.tables.exec = Jvm.exec) {pc q : Nat} {Ls : Array Slot} {st : List Value} {x y v : UInt64} (hd : decode c.code pc = .ok (.dsub, 1)) (hn : NoNaN64 (FP.dsub x y)) (hv : FP.dsub x y = v) (hq : pc + 1 = q) (g : Go p e below Q (T.setTop (mkF m q Ls (.double v :: st)))) : Go p e below Q (T.setTop (mkF m pc Ls (.double y :: .double x :: st))) := by
  subst hq; exact Go.of (fun _ r => XS.dsubS h hx rfl hd rfl hn hv r) g
theorem Go.dmul (h : At T m c below) (hx : p.tables.exec = Jvm.exec) {pc q : Nat} {Ls : Array Slot} {st : List Value} {x y v : UInt64} (hd : decode c.code pc = .ok (.dmul, 1)) (hn : NoNaN64 (FP.dmul x y)) (hv : FP.dmul x y = v) (hq : pc + 1 = q) (g : Go p e below Q (T.setTop (mkF m q Ls (.double v :: st)))) : Go p e below Q (T.setTop (mkF m pc Ls (.double y :: .double x :: st))) := by
  subst hq; exact Go.of (fun _ r => XS.dmulS h hx rfl hd rfl hn hv r) g
theorem Go.ddiv (h : At T m c below) (hx : p.tables.exec = Jvm.exec) {pc q : Nat} {Ls : Array Slot} {st : List Value} {x y v : UInt64} (hd : decode c.code pc = .ok (.ddiv, 1)) (hn : NoNaN64 (FP.ddiv x y)) (hv : FP.ddiv x y = v) (hq : pc + 1 = q) (g : Go p e below Q (T.setTop (mkF m q Ls (.double v :: st)))) : Go p e below Q (T.setTop (mkF m pc Ls (.double y :: .double x :: st))) := by
  subst hq; exact Go.of (fun _ r => XS.ddivS h hx rfl hd rfl hn hv r) g
theorem Go.dcmp (h : At T m c below) (hx : p.tables.exec = Jvm.exec) {pc q : Nat} {Ls : Array Slot} {st : List Value} {o : CmpOp} {x y : UInt64} {v : Int32} (hd : decode c.code pc = .ok (.dcmp o, 1)) (hv : cmpValue (FP.dcmp x y) o = v) (hq : pc + 1 = q) (g : Go p e below Q (T.setTop (mkF m q Ls (.int v :: st)))) : Go p e below Q (T.setTop (mkF m pc Ls (.double y :: .double x :: st))) := by
  subst hq; exact Go.of (fun _ r => XS.dcmpS h hx rfl hd rfl hv r) g
theorem Go.fcmp (h : At T m c below) (hx : p.tables.exec = Jvm.exec) {pc q : Nat} {Ls : Array Slot} {st : List Value} {o : CmpOp} {x y : UInt32} {v : Int32} (hd : decode c.code pc = .ok (.fcmp o, 1)) (hv : cmpValue (FP.fcmp x y) o = v) (hq : pc + 1 = q) (g : Go p e below Q (T.setTop (mkF m q Ls (.int v :: st)))) : Go p e below Q (T.setTop (mkF m pc Ls (.float y :: .float x :: st))) := by
  subst hq; exact Go.of (fun _ r => XS.fcmpS h hx rfl hd rfl hv r) g
theorem Go.dup (h : At T m c below) (hx : p.tables.exec = Jvm.exec) {pc q : Nat} {Ls : Array Slot} {st : List Value} {v : Value} (hd : decode c.code pc = .ok (.dup, 1)) (hc : v.category = 1) (hq : pc + 1 = q) (g : Go p e below Q (T.setTop (mkF m q Ls (v :: v :: st)))) : Go p e below Q (T.setTop (mkF m pc Ls (v :: st))) := by
  subst hq; exact Go.of (fun _ r => XS.dup h hx rfl hd rfl hc r) g
theorem Go.dup2 (h : At T m c below) (hx : p.tables.exec = Jvm.exec) {pc q : Nat} {Ls : Array Slot} {st : List Value} {v w : Value} (hd : decode c.code pc = .ok (.dup2, 1)) (hc : v.category = 1) (hc2 : w.category = 1) (hq : pc + 1 = q) (g : Go p e below Q (T.setTop (mkF m q Ls (v :: w :: v :: w :: st)))) : Go p e below Q (T.setTop (mkF m pc Ls (v :: w :: st))) := by
  subst hq; exact Go.of (fun _ r => Jvm.Free.XT.dup2 h hx rfl hd rfl hc hc2 r) g
theorem Go.pop (h : At T m c below) (hx : p.tables.exec = Jvm.exec) {pc q : Nat} {Ls : Array Slot} {st : List Value} {v : Value} (hd : decode c.code pc = .ok (.pop, 1)) (hc : v.category = 1) (hq : pc + 1 = q) (g : Go p e below Q (T.setTop (mkF m q Ls st))) : Go p e below Q (T.setTop (mkF m pc Ls (v :: st))) := by
  subst hq; exact Go.of (fun _ r => XS.pop h hx rfl hd rfl hc r) g
theorem step_dup2x1 {tb : Tables} [Ours tb] {target : State} {g : JFrame} (h : At T m c below) (hx : tb.exec = Jvm.exec) (hg : g.method = m) {x : Int64} {b : Value} {rest : List Value} (hd : decode c.code g.pc = .ok (.dup2_x1, 1)) (hs : g.stack = .long x :: b :: rest) (hb : b.category = 1)
    (hr : Steps tb e below (T.setTop { g with pc := g.pc + 1, stack := .long x :: b :: .long x :: rest }) target) : Steps tb e below (T.setTop g) target := by
  subst hg
  jvm_step h [h.top, hx, hd, hs, hb, Value.category]
  exact ⟨hb, hr⟩
theorem Go.dup2x1 (h : At T m c below) (hx : p.tables.exec = Jvm.exec) {pc q : Nat} {Ls : Array Slot} {st : List Value} {x : Int64} {b : Value} (hd : decode c.code pc = .ok (.dup2_x1, 1)) (hb : b.category = 1) (hq : pc + 1 = q) (g : Go p e below Q (T.setTop (mkF m q Ls (.long x :: b :: .long x :: st)))) : Go p e below Q (T.setTop (mkF m pc Ls (.long x :: b :: st))) := by
  subst hq; exact Go.of (fun _ r => step_dup2x1 h hx rfl hd rfl hb r) g
theorem Go.iinc (h : At T m c below) (hx : p.tables.exec = Jvm.exec) {pc q : Nat} {Ls : Array Slot} {st : List Value} {k : Nat} {cst : Int} {x v : Int32} {l2 : Array Slot} (hd : decode c.code pc = .ok (.iinc k cst, 3)) (hl : Ls[k]? = some (.val (.int x))) (hv : x + Int32.ofInt cst = v) (hl2 : storeLocals Ls k (.int v) = some l2) (hq : pc + 3 = q) (g : Go p e below Q (T.setTop (mkF m q l2 st))) : Go p e below Q (T.setTop (mkF m pc Ls st)) := by
  subst hq hv; exact Go.of (fun _ r => XS.iinc h hx rfl hd hl hl2 r) g
theorem Go.goto (h : At T m c below) (hx : p.tables.exec = Jvm.exec) {pc q : Nat} {Ls : Array Slot} {st : List Value} {o : Int} (hd : decode c.code pc = .ok (.goto o, 3)) (ho : 0 ≤ (pc : Int) + o) (hq : ((pc : Int) + o).toNat = q) (g : Go p e below Q (T.setTop (mkF m q Ls st))) : Go p e below Q (T.setTop (mkF m pc Ls st)) := Go.of (fun _ r => XS.goto h hx rfl rfl hd ho hq r) g
theorem Go.ifY (h : At T m c below) (hx : p.tables.exec = Jvm.exec) {pc q : Nat} {Ls : Array Slot} {st : List Value} {cd : ClassFile.Cond} {x : Int32} {o : Int} (hd : decode c.code pc = .ok (.ifCond cd o, 3)) (hc : ifCond.holds cd x = true) (ho : 0 ≤ (pc : Int) + o) (hq : ((pc : Int) + o).toNat = q) (g : Go p e below Q (T.setTop (mkF m q Ls st))) : Go p e below Q (T.setTop (mkF m pc Ls (.int x :: st))) := Go.of (fun _ r => XS.ifYes h hx rfl rfl hd rfl hc ho hq r) g
theorem Go.ifN (h : At T m c below) (hx : p.tables.exec = Jvm.exec) {pc q : Nat} {Ls : Array Slot} {st : List Value} {cd : ClassFile.Cond} {x : Int32} {o : Int} (hd : decode c.code pc = .ok (.ifCond cd o, 3)) (hc : ifCond.holds cd x = false) (hq : pc + 3 = q) (g : Go p e below Q (T.setTop (mkF m q Ls st))) : Go p e below Q (T.setTop (mkF m pc Ls (.int x :: st))) := by
  subst hq; exact Go.of (fun _ r => XS.ifNo h hx rfl hd rfl hc r) g
theorem Go.icmpY (h : At T m c below) (hx : p.tables.exec = Jvm.exec) {pc q : Nat} {Ls : Array Slot} {st : List Value} {cd : ClassFile.Cond} {x y : Int32} {o : Int} (hd : decode c.code pc = .ok (.if_icmp cd o, 3)) (hc : if_icmp.holds cd x y = true) (ho : 0 ≤ (pc : Int) + o) (hq : ((pc : Int) + o).toNat = q) (g : Go p e below Q (T.setTop (mkF m q Ls st))) : Go p e below Q (T.setTop (mkF m pc Ls (.int y :: .int x :: st))) := Go.of (fun _ r => XS.icmpYes h hx rfl rfl hd rfl hc ho hq r) g
theorem Go.icmpN (h : At T m c below) (hx : p.tables.exec = Jvm.exec) {pc q : Nat} {Ls : Array Slot} {st : List Value} {cd : ClassFile.Cond} {x y : Int32} {o : Int} (hd : decode c.code pc = .ok (.if_icmp cd o, 3)) (hc : if_icmp.holds cd x y = false) (hq : pc + 3 = q) (g : Go p e below Q (T.setTop (mkF m q Ls st))) : Go p e below Q (T.setTop (mkF m pc Ls (.int y :: .int x :: st))) := by
  subst hq; exact Go.of (fun _ r => XS.icmpNo h hx rfl hd rfl hc r) g
theorem Go.acmpY (h : At T m c below) (hx : p.tables.exec = Jvm.exec) {pc q : Nat} {Ls : Array Slot} {st : List Value} {cd : ClassFile.ACond} {a b : Addr} {o : Int} (hd : decode c.code pc = .ok (.if_acmp cd o, 3)) (hc : if_acmp.holds cd (some a) (some b) = true) (ho : 0 ≤ (pc : Int) + o) (hq : ((pc : Int) + o).toNat = q) (g : Go p e below Q (T.setTop (mkF m q Ls st))) : Go p e below Q (T.setTop (mkF m pc Ls (.ref b :: .ref a :: st))) := Go.of (fun _ r => XS.acmpYes h hx rfl rfl hd rfl hc ho hq r) g
theorem Go.acmpN (h : At T m c below) (hx : p.tables.exec = Jvm.exec) {pc q : Nat} {Ls : Array Slot} {st : List Value} {cd : ClassFile.ACond} {a b : Addr} {o : Int} (hd : decode c.code pc = .ok (.if_acmp cd o, 3)) (hc : if_acmp.holds cd (some a) (some b) = false) (hq : pc + 3 = q) (g : Go p e below Q (T.setTop (mkF m q Ls st))) : Go p e below Q (T.setTop (mkF m pc Ls (.ref b :: .ref a :: st))) := by
  subst hq; exact Go.of (fun _ r => XS.acmpNo h hx rfl hd rfl hc r) g
theorem Go.nullY (h : At T m c below) (hx : p.tables.exec = Jvm.exec) {pc q : Nat} {Ls : Array Slot} {st : List Value} {o : Int} (hd : decode c.code pc = .ok (.ifnull o, 3)) (ho : 0 ≤ (pc : Int) + o) (hq : ((pc : Int) + o).toNat = q) (g : Go p e below Q (T.setTop (mkF m q Ls st))) : Go p e below Q (T.setTop (mkF m pc Ls (.null :: st))) := Go.of (fun _ r => XS.ifnullYes h hx rfl rfl hd rfl ho hq r) g
theorem Go.nullN (h : At T m c below) (hx : p.tables.exec = Jvm.exec) {pc q : Nat} {Ls : Array Slot} {st : List Value} {o : Int} {b : Addr} (hd : decode c.code pc = .ok (.ifnull o, 3)) (hq : pc + 3 = q) (g : Go p e below Q (T.setTop (mkF m q Ls st))) : Go p e below Q (T.setTop (mkF m pc Ls (.ref b :: st))) := by
  subst hq; exact Go.of (fun _ r => XS.ifnullNo h hx rfl hd rfl r) g
theorem Go.nonnullY (h : At T m c below) (hx : p.tables.exec = Jvm.exec) {pc q : Nat} {Ls : Array Slot} {st : List Value} {o : Int} {b : Addr} (hd : decode c.code pc = .ok (.ifnonnull o, 3)) (ho : 0 ≤ (pc : Int) + o) (hq : ((pc : Int) + o).toNat = q) (g : Go p e below Q (T.setTop (mkF m q Ls st))) : Go p e below Q (T.setTop (mkF m pc Ls (.ref b :: st))) := Go.of (fun _ r => XS.ifnonnullYes h hx rfl rfl hd rfl ho hq r) g
theorem Go.nonnullN (h : At T m c below) (hx : p.tables.exec = Jvm.exec) {pc q : Nat} {Ls : Array Slot} {st : List Value} {o : Int} (hd : decode c.code pc = .ok (.ifnonnull o, 3)) (hq : pc + 3 = q) (g : Go p e below Q (T.setTop (mkF m q Ls st))) : Go p e below Q (T.setTop (mkF m pc Ls (.null :: st))) := by
  subst hq; exact Go.of (fun _ r => XS.ifnonnullNo h hx rfl hd rfl r) g
theorem Go.ldcI (X : Stand p l e R s m args below meth c T locs cells slots) (hx : p.tables.exec = Jvm.exec) {own : String} {index : Nat} {v : Int32} (hown : s.vm.findClass own = some m.cls) (w : (Jvm.Cond.constant own index v).before args s = true) {pc q : Nat} {Ls : Array Slot} {st : List Value} (hd : decode c.code pc = .ok (.ldc index, 2)) (hq : pc + 2 = q) (g : Go p e below Q (T.setTop (mkF m q Ls (.int v :: st)))) : Go p e below Q (T.setTop (mkF m pc Ls st)) := by
  subst hq; exact Go.of (fun _ r => X.ldcInt hx hown w (g := mkF m pc Ls st) rfl hd _ r) g
theorem Go.ldc2J (X : Stand p l e R s m args below meth c T locs cells slots) (hx : p.tables.exec = Jvm.exec) {own : String} {index : Nat} {v : Int64} (hown : s.vm.findClass own = some m.cls) (w : (Jvm.Cond.constantLong own index v).before args s = true) {pc q : Nat} {Ls : Array Slot} {st : List Value} (hd : decode c.code pc = .ok (.ldc2_w index, 3)) (hq : pc + 3 = q) (g : Go p e below Q (T.setTop (mkF m q Ls (.long v :: st)))) : Go p e below Q (T.setTop (mkF m pc Ls st)) := by
  subst hq; exact Go.of (fun _ r => X.ldc2Long hx hown w (g := mkF m pc Ls st) rfl hd _ r) g
theorem Go.ldc2D (X : Stand p l e R s m args below meth c T locs cells slots) (hx : p.tables.exec = Jvm.exec) {own : String} {index : Nat} {v : UInt64} (hown : s.vm.findClass own = some m.cls) (w : (Jvm.Cond.constantDouble own index v).before args s = true) {pc q : Nat} {Ls : Array Slot} {st : List Value} (hd : decode c.code pc = .ok (.ldc2_w index, 3)) (hq : pc + 3 = q) (g : Go p e below Q (T.setTop (mkF m q Ls (.double v :: st)))) : Go p e below Q (T.setTop (mkF m pc Ls st)) := by
  subst hq; exact Go.of (fun _ r => X.ldc2DoubleC hx hown w (g := mkF m pc Ls st) rfl hd _ r) g
theorem Go.ldcF (X : Stand p l e R s m args below meth c T locs cells slots) (hx : p.tables.exec = Jvm.exec) {own : String} {index : Nat} {v : UInt32} (hown : s.vm.findClass own = some m.cls) (w : (Jvm.Cond.constantFloat own index v).before args s = true) {pc q : Nat} {Ls : Array Slot} {st : List Value} (hd : decode c.code pc = .ok (.ldc index, 2)) (hq : pc + 2 = q) (g : Go p e below Q (T.setTop (mkF m q Ls (.float v :: st)))) : Go p e below Q (T.setTop (mkF m pc Ls st)) := by
  subst hq; exact Go.of (fun _ r => X.ldcFloatC hx hown w (g := mkF m pc Ls st) rfl hd _ r) g
end OwnGo

/-! own layer 3: steps that touch the heap, and calls by contract, in the same forward form -/
section OwnHeap
variable {p : Program} {l : Launch} {e : Env} {R : Room} {s : State} {m : MethodId} {args : Array Value} {below : List Frame} {meth : Method} {c : Code} {T : State} {locs : List Loc} {cells slots : Nat} {Q : Outcome → State → Prop} {Z : State} {a0 : Array Value} {h : Heap}
/-- a callee's contract at one call -/
abbrev Con (l : Launch) (Z : State) (y : MethodName) (bytes : ByteArray) (maxL : Nat) (ret : Option FieldType) (rm : Room) (as' : Array Value) (h : Heap) (Qv : Option Value → Heap → List Loc → Prop) : Prop :=
  MetFree l y (head1 [Jvm.Cond.code y bytes maxL ret] rm) (fun a U => a = as' ∧ Z.Warmed39 U.vm ∧ U.heap = h) (fun _ _ _ _ _ => True) (fun _ U o U' => ∃ v L, o = .returned v ∧ Qv v U'.heap L ∧ FrameEnd U o U' L rm.cells rm.slots)
theorem Go.new (X : Stand p l e R s m args below meth c T locs cells slots) (hx : p.tables.exec = Jvm.exec) (hZ : Z.Warmed39 s.vm) {own C : String} {index n : Nat} (hown : s.vm.findClass own = some m.cls) (w : (Jvm.Cond.classLink own index C).before a0 Z = true) (wi : (Jvm.Cond.instantiable C n).before a0 Z = true) (wz : (Jvm.Cond.initialized C).before a0 Z = true) (eT : T.heap = h)
    {pc q : Nat} {Ls : Array Slot} {st : List Value} (hd : decode c.code pc = .ok (.new index, 3)) (hc : cells + 1 ≤ R.cells) (hl : slots + n ≤ R.slots) (hq : pc + 3 = q)
    (k : ∀ (T' : State) (h' : Heap) (a : Addr), a = h.size → Stand p l e R s m args below meth c T' locs (cells + 1) (slots + n) → T'.heap = h' → Ext h h' → Exa Z h' a C → (∀ {O nm d : String} {ty : FieldType}, Laid Z a0 C O nm d → parseFieldDescriptor d = some ty → Fld Z h' a O nm d (defaultValue ty)) →
      Go p e below Q (T'.setTop (mkF m q Ls (.ref a :: st)))) : Go p e below Q (T.setTop (mkF m pc Ls st)) := by
  subst hq
  obtain ⟨T', h', X', e', E', A', D', -, st'⟩ := newO X hx hZ hown w wi wz eT (g := mkF m pc Ls st) rfl hd hc hl
  exact Go.of st' (k T' h' _ rfl X' e' E' A' D')
theorem Go.getf (X : Stand p l e R s m args below meth c T locs cells slots) (hx : p.tables.exec = Jvm.exec) (hZ : Z.Warmed39 s.vm) {own O n d : String} {index : Nat} (hown : s.vm.findClass own = some m.cls) (w : (Jvm.Cond.fieldLink own index O n d).before a0 Z = true) (eT : T.heap = h) {a : Addr} {v : Value} (F : Fld Z h a O n d v)
    {pc q : Nat} {Ls : Array Slot} {st : List Value} (hd : decode c.code pc = .ok (.getfield index, 3)) (hq : pc + 3 = q)
    (k : ∀ T' : State, Stand p l e R s m args below meth c T' locs cells slots → T'.heap = h → Go p e below Q (T'.setTop (mkF m q Ls (v :: st)))) : Go p e below Q (T.setTop (mkF m pc Ls (.ref a :: st))) := by
  subst hq
  obtain ⟨T', X', e', st'⟩ := getF X hx hZ hown (host := "") (Or.inl w) Via.refl eT F (g := mkF m pc Ls (.ref a :: st)) rfl rfl hd
  exact Go.of st' (k T' X' e')
theorem Go.gets (X : Stand p l e R s m args below meth c T locs cells slots) (hx : p.tables.exec = Jvm.exec) (hZ : Z.Warmed39 s.vm) {own O n d : String} {index : Nat} (hown : s.vm.findClass own = some m.cls) (w : (Jvm.Cond.fieldLink own index O n d).before a0 Z = true) (eT : T.heap = h) {v : Value} (F : Sta Z h O n d v)
    {pc q : Nat} {Ls : Array Slot} {st : List Value} (hd : decode c.code pc = .ok (.getstatic index, 3)) (hq : pc + 3 = q)
    (k : ∀ T' : State, Stand p l e R s m args below meth c T' locs cells slots → T'.heap = h → Go p e below Q (T'.setTop (mkF m q Ls (v :: st)))) : Go p e below Q (T.setTop (mkF m pc Ls st)) := by
  subst hq
  obtain ⟨T', X', e', st'⟩ := getS X hx hZ hown (host := "") w Via.refl eT F (g := mkF m pc Ls st) rfl hd
  exact Go.of st' (k T' X' e')
theorem Go.putf (X : Stand p l e R s m args below meth c T locs cells slots) (hx : p.tables.exec = Jvm.exec) (hZ : Z.Warmed39 s.vm) {own O n d C : String} {index kk : Nat} {ty : FieldType} (hown : s.vm.findClass own = some m.cls) (w : (Jvm.Cond.fieldLink own index O n d).before a0 Z = true) (eT : T.heap = h) {a : Addr} {v old : Value} (F : Fld Z h a O n d old) (E : Exa Z h a C)
    (L : (Jvm.Cond.lays C O n d).before a0 Z = true ∨ ((Jvm.Cond.laysFinal C O n d).before a0 Z = true ∧ own = O ∧ meth.name = "<init>")) (wi : (Jvm.Cond.instantiable C kk).before a0 Z = true) (hty : parseFieldDescriptor d = some ty) (hn : narrow ty v = v) (hf : fits ty v = true)
    {pc q : Nat} {Ls : Array Slot} {st : List Value} (hd : decode c.code pc = .ok (.putfield index, 3)) (hq : pc + 3 = q)
    (k : ∀ (T' : State) (h' : Heap), Stand p l e R s m args below meth c T' (locs ++ [⟨a, Jvm.RoadKit.slotOf Z O n d⟩]) cells slots → T'.heap = h' → Wr h h' a (Jvm.RoadKit.slotOf Z O n d) v → Go p e below Q (T'.setTop (mkF m q Ls st))) : Go p e below Q (T.setTop (mkF m pc Ls (v :: .ref a :: st))) := by
  subst hq
  obtain ⟨T', h', X', e', W', st'⟩ := putF X hx hZ hown (host := "") (Or.inl w) Via.refl eT F E L wi hty hn hf (g := mkF m pc Ls (v :: .ref a :: st)) rfl rfl hd
  exact Go.of st' (k T' h' X' e' W')
theorem Go.init (X : Stand p l e R s m args below meth c T locs cells slots) (hx : p.tables.exec = Jvm.exec) (hZ : Z.Warmed39 s.vm) {own : String} {index : Nat} (hown : s.vm.findClass own = some m.cls) (w1 : (Jvm.Cond.methodLink own index Lib.objectInit).before a0 Z = true) (w2 : (Jvm.Cond.instanceMethod Lib.objectInit).before a0 Z = true) (w3 : (Jvm.Cond.code Lib.objectInit ⟨#[0xb1]⟩ 1 none).before a0 Z = true) (eT : T.heap = h)
    {pc q : Nat} {Ls : Array Slot} {st : List Value} {a : Addr} {W : Nat} (hd : decode c.code pc = .ok (.invokespecial index, 3)) (hsz : Ls.size = c.maxLocals) (hf : 1 ≤ R.frames) (hW : (st.map fun v => v.category).sum ≤ W) (hl : W + 12 ≤ R.locals) (hq : pc + 3 = q)
    (k : ∀ T' : State, Stand p l e R s m args below meth c T' locs cells slots → T'.heap = h → Go p e below Q (T'.setTop (mkF m q Ls st))) : Go p e below Q (T.setTop (mkF m pc Ls (.ref a :: st))) := by
  subst hq
  obtain ⟨T', X', e', st'⟩ := initO X hx hZ hown w1 w2 w3 eT (g := mkF m pc Ls (.ref a :: st)) rfl hsz rfl hd hf (W := W) (by show 2 * 0 + _ ≤ _; omega) hl
  exact Go.of st' (k T' X' e')
theorem Go.special (X : Stand p l e R s m args below meth c T locs cells slots) (hx : p.tables.exec = Jvm.exec) (hZ : Z.Warmed39 s.vm) {own : String} {index : Nat} {y : MethodName} (hy1 : y.name = "<init>") (hown : s.vm.findClass own = some m.cls) (w1 : (Jvm.Cond.methodLink own index y).before a0 Z = true) (w2 : (Jvm.Cond.instanceMethod y).before a0 Z = true)
    {bytes : ByteArray} {maxL : Nat} (w3 : (Jvm.Cond.code y bytes maxL none).before a0 Z = true) (wz : (Jvm.Cond.initialized y.cls).before a0 Z = true) (hy : y.cls ≠ "java/lang/invoke/MethodHandle" ∧ y.cls ≠ "java/lang/invoke/VarHandle")
    {rm : Room} {as' : Array Value} {Qv : Option Value → Heap → List Loc → Prop} (hM : Con l Z y bytes maxL none rm as' h Qv) (eT : T.heap = h) {pc q : Nat} {Ls : Array Slot} {st : List Value} {a : Addr} {argsL rest : List Value} {W : Nat} (hd : decode c.code pc = .ok (.invokespecial index, 3))
    (hst : st = argsL.reverse ++ .ref a :: rest) (has : as' = (.ref a :: argsL).toArray) (hlen : ∀ sig, parseMethodDescriptor y.desc = some sig → argsL.length = sig.parameters.length) (hsz : Ls.size = c.maxLocals) (hW : (rest.map fun v => v.category).sum ≤ W)
    (hf : rm.frames + 1 ≤ R.frames) (hl : W + (maxL + 11) + rm.locals ≤ R.locals) (hc : cells + rm.cells ≤ R.cells) (hs : slots + rm.slots ≤ R.slots) (hq : pc + 3 = q)
    (k : ∀ (T' : State) (L : List Loc) (v : Option Value), Stand p l e R s m args below meth c T' (locs ++ L) (cells + rm.cells) (slots + rm.slots) → Qv v T'.heap L → Go p e below Q (T'.setTop (mkF m q Ls (v.toList ++ rest)))) : Go p e below Q (T.setTop (mkF m pc Ls st)) := by
  subst hq hst has
  obtain ⟨v, vm₁, ⟨T', L', k', n'⟩, -, X', ⟨Lc, hQ, l1, y1, z1⟩, st'⟩ := X.specialBack hx (y := y) hy1 hown (mvT hZ w1) (mvT hZ w2) (mvT hZ w3) hy (backOf (W := W) hM hZ w3 wz hf hl) (g := mkF m pc Ls (argsL.reverse ++ .ref a :: rest)) rfl hsz (Steps.refl _) (a := a) (argsL := argsL) (rest := rest) hlen rfl (by show 2 * 0 + _ ≤ _; omega) hd (fun _ _ => ⟨rfl, eT, hc, hs⟩)
  dsimp only [Pt.U, Pt.locs, Pt.cells, Pt.slots] at X' l1 y1 z1 st' hQ
  subst l1 y1 z1
  exact Go.tr st' (k T' Lc v X' hQ)
theorem Go.virtual (X : Stand p l e R s m args below meth c T locs cells slots) (hx : p.tables.exec = Jvm.exec) (hZ : Z.Warmed39 s.vm) {own C : String} {index : Nat} {y : MethodName} (hown : s.vm.findClass own = some m.cls) (w1 : (Jvm.Cond.methodLink own index y).before a0 Z = true) (w2 : (Jvm.Cond.declares y).before a0 Z = true) (w3 : (Jvm.Cond.selects C y y).before a0 Z = true) (w4 : (Jvm.Cond.instanceMethod y).before a0 Z = true)
    {bytes : ByteArray} {maxL : Nat} {ret : Option FieldType} (w5 : (Jvm.Cond.code y bytes maxL ret).before a0 Z = true) (wz : (Jvm.Cond.initialized y.cls).before a0 Z = true) (hy : y.cls ≠ "java/lang/invoke/MethodHandle" ∧ y.cls ≠ "java/lang/invoke/VarHandle")
    {rm : Room} {as' : Array Value} {Qv : Option Value → Heap → List Loc → Prop} (hM : Con l Z y bytes maxL ret rm as' h Qv) (eT : T.heap = h) {a : Addr} (E : Exa Z h a C) {pc q : Nat} {Ls : Array Slot} {st : List Value} {argsL rest : List Value} {W : Nat} (hd : decode c.code pc = .ok (.invokevirtual index, 3))
    (hst : st = argsL.reverse ++ .ref a :: rest) (has : as' = (.ref a :: argsL).toArray) (hlen : ∀ sig, parseMethodDescriptor y.desc = some sig → argsL.length = sig.parameters.length) (hsz : Ls.size = c.maxLocals) (hW : (rest.map fun v => v.category).sum ≤ W)
    (hf : rm.frames + 1 ≤ R.frames) (hl : W + (maxL + 11) + rm.locals ≤ R.locals) (hc : cells + rm.cells ≤ R.cells) (hs : slots + rm.slots ≤ R.slots) (hq : pc + 3 = q)
    (k : ∀ (T' : State) (L : List Loc) (v : Option Value), Stand p l e R s m args below meth c T' (locs ++ L) (cells + rm.cells) (slots + rm.slots) → Qv v T'.heap L → Go p e below Q (T'.setTop (mkF m q Ls (v.toList ++ rest)))) : Go p e below Q (T.setTop (mkF m pc Ls st)) := by
  subst hq hst has
  obtain ⟨cq, kq, qa, -, qc⟩ := isOf hZ eT E
  obtain ⟨v, vm₁, ⟨T', L', k', n'⟩, -, X', ⟨Lc, hQ, l1, y1, z1⟩, st'⟩ := X.virtualBack hx (y := y) (z := y) hown (mvT hZ w1) (mvT hZ w2) (notFace_of_selects (args := #[]) (mvT hZ w3)) (mvT hZ w3) (mvT hZ w4) hy (backOf (W := W) hM hZ w5 wz hf hl) qa qc (g := mkF m pc Ls (argsL.reverse ++ .ref a :: rest)) rfl hsz (Steps.refl _) (argsL := argsL) (rest := rest) hlen rfl (by show 2 * 0 + _ ≤ _; omega) hd (fun _ _ => ⟨rfl, eT, hc, hs⟩)
  dsimp only [Pt.U, Pt.locs, Pt.cells, Pt.slots] at X' l1 y1 z1 st' hQ
  subst l1 y1 z1
  exact Go.tr st' (k T' Lc v X' hQ)
theorem Go.static (X : Stand p l e R s m args below meth c T locs cells slots) (hx : p.tables.exec = Jvm.exec) (hZ : Z.Warmed39 s.vm) {own : String} {index : Nat} {y : MethodName} (hown : s.vm.findClass own = some m.cls) (w1 : (Jvm.Cond.methodLink own index y).before a0 Z = true) (w2 : (Jvm.Cond.static y).before a0 Z = true)
    {bytes : ByteArray} {maxL : Nat} {ret : Option FieldType} (w3 : (Jvm.Cond.code y bytes maxL ret).before a0 Z = true) (wz : (Jvm.Cond.initialized y.cls).before a0 Z = true) (hy : y.cls ≠ "java/lang/invoke/MethodHandle" ∧ y.cls ≠ "java/lang/invoke/VarHandle")
    {rm : Room} {as' : Array Value} {Qv : Option Value → Heap → List Loc → Prop} (hM : Con l Z y bytes maxL ret rm as' h Qv) (eT : T.heap = h) {pc q : Nat} {Ls : Array Slot} {st : List Value} {argsL rest : List Value} {W : Nat} (hd : decode c.code pc = .ok (.invokestatic index, 3))
    (hst : st = argsL.reverse ++ rest) (has : as' = argsL.toArray) (hlen : ∀ sig, parseMethodDescriptor y.desc = some sig → argsL.length = sig.parameters.length) (hsz : Ls.size = c.maxLocals) (hW : (rest.map fun v => v.category).sum ≤ W)
    (hf : rm.frames + 1 ≤ R.frames) (hl : W + (maxL + 11) + rm.locals ≤ R.locals) (hc : cells + rm.cells ≤ R.cells) (hs : slots + rm.slots ≤ R.slots) (hq : pc + 3 = q)
    (k : ∀ (T' : State) (L : List Loc) (v : Option Value), Stand p l e R s m args below meth c T' (locs ++ L) (cells + rm.cells) (slots + rm.slots) → Qv v T'.heap L → Go p e below Q (T'.setTop (mkF m q Ls (v.toList ++ rest)))) : Go p e below Q (T.setTop (mkF m pc Ls st)) := by
  subst hq hst has
  obtain ⟨v, vm₁, ⟨T', L', k', n'⟩, -, X', ⟨Lc, hQ, l1, y1, z1⟩, st'⟩ := Jvm.LawKit.callS X hx (y := y) hown (mvT hZ w1) (mvT hZ w2) (mvT hZ wz) (mvT hZ w3) hy (backOf (W := W) hM hZ w3 wz hf hl) (g := mkF m pc Ls (argsL.reverse ++ rest)) rfl hsz (argsL := argsL) (rest := rest) hlen rfl (by show 2 * 0 + _ ≤ _; omega) hd (fun _ _ => ⟨rfl, eT, hc, hs⟩)
  dsimp only [Pt.U, Pt.locs, Pt.cells, Pt.slots] at X' l1 y1 z1 st' hQ
  subst l1 y1 z1
  exact Go.of st' (k T' Lc v X' hQ)
/-- a static call that a payer of the library answers, and that leaves all as it was -/
theorem Go.nat (X : Stand p l e R s m args below meth c T locs cells slots) (hx : p.tables.exec = Jvm.exec) (hZ : Z.Warmed39 s.vm) {own : String} {index : Nat} {y : MethodName} (hown : s.vm.findClass own = some m.cls) (w1 : (Jvm.Cond.methodLink own index y).before a0 Z = true) (w2 : (Jvm.Cond.static y).before a0 Z = true) (w3 : (Jvm.Cond.initialized y.cls).before a0 Z = true)
    {by0 : ByteArray} {ml : Nat} {rt : Option FieldType} (w4 : (Jvm.Cond.code y by0 ml rt).before a0 Z = true) (hy : y.cls ≠ "java/lang/invoke/MethodHandle" ∧ y.cls ≠ "java/lang/invoke/VarHandle") (eT : T.heap = h) {W : Nat} {F : Array Value → Prop} {val : Value}
    (hK : (Jvm.Cond.code y by0 ml rt).before args s = true → Back l R p e below s args y 3 W (fun A a' => A.cells ≤ R.cells ∧ A.slots ≤ R.slots ∧ F a') (fun A _ v B => v = some val ∧ B = A))
    {pc q : Nat} {Ls : Array Slot} {st : List Value} {argsL rest : List Value} (hd : decode c.code pc = .ok (.invokestatic index, 3)) (hst : st = argsL.reverse ++ rest) (hlen : ∀ sig, parseMethodDescriptor y.desc = some sig → argsL.length = sig.parameters.length) (hsz : Ls.size = c.maxLocals) (hW : (rest.map fun v => v.category).sum ≤ W)
    (hc : cells ≤ R.cells) (hs : slots ≤ R.slots) (hF : F argsL.toArray) (hq : pc + 3 = q)
    (k : ∀ T' : State, Stand p l e R s m args below meth c T' locs cells slots → T'.heap = h → Go p e below Q (T'.setTop (mkF m q Ls (val :: rest)))) : Go p e below Q (T.setTop (mkF m pc Ls st)) := by
  subst hq hst
  obtain ⟨T', X', e', st'⟩ := natS X hx hZ hown w1 w2 w3 w4 hy eT hK (g := mkF m pc Ls (argsL.reverse ++ rest)) rfl hsz hlen rfl (by show 2 * 0 + _ ≤ _; omega) hd hc hs hF rfl
  exact Go.of st' (k T' X' e')
/-! words of the sheet by their place -/
theorem word {ts : List Jvm.Cond} (hw : ∀ d ∈ ts, d.before a0 Z = true) {d : Jvm.Cond} (i : Nat) (hi : ts[i]? = some d) : d.before a0 Z = true := hw _ (List.mem_of_getElem? hi)
end OwnHeap

theorem pd0 : parseMethodDescriptor "()V" = some ⟨[], none⟩ := by decide +kernel
theorem pd1 : parseMethodDescriptor "(JJ)J" = some ⟨[.long, .long], some .long⟩ := by decide +kernel
theorem pd2 : parseMethodDescriptor "(JJJJ)V" = some ⟨[.long, .long, .long, .long], none⟩ := by decide +kernel
theorem pd3 : parseMethodDescriptor "()D" = some ⟨[], some .double⟩ := by decide +kernel
/-! the exact error of a sum (whole numbers times a power of two) -/
section OwnTwo
open Jvm.FP Jvm.FP.Core Jvm.Free.Fl
theorem P2_one : P2 1 = 2 := rfl
theorem P2_zero : P2 0 = 1 := rfl
theorem rep_dec {V : Int} (h : Rep V) : ∃ (c : Int) (j : Nat), V = c * P2 j ∧ c.natAbs < 2 ^ 53 ∧ j ≤ 2045 := by
  obtain ⟨x, ⟨s, c, q, hv⟩, rfl⟩ := h
  have f := val64_fits x
  rw [hv] at f
  obtain ⟨f1, f2, f3, -⟩ := f
  rw [qmin_b64] at f2
  rw [own_qmax] at f3
  refine ⟨signed s c, (q - b64.qmin).toNat, ?_, ?_, ?_⟩
  · unfold Zv
    rw [hv]
    show signed s (inUnits c q b64.qmin) = _
    unfold inUnits P2
    rw [signed_mul]
  · rw [natAbs_signed]; exact f1
  · rw [qmin_b64]; omega
end OwnTwo
/-! rounding to the nearest is monotone: whole numbers and quotients, from nought on -/
section OwnMono
open Jvm.FP Jvm.FP.Core Jvm.Free.Fl
theorem fin_zmag {x : UInt64} {s : Bool} {c : Nat} {q : Int} (hv : val64 x = .fin s c q) (h0 : 0 ≤ Zv x) : Zv x = (inUnits c q b64.qmin : Int) := by
  have z : Zv x = signed s (inUnits c q b64.qmin) := by unfold Zv; rw [hv]; rfl
  rw [z] at h0 ⊢
  cases s with
  | false => simp only [signed, Bool.false_eq_true, if_false]
  | true => simp only [signed, if_true] at h0 ⊢; omega
theorem div_near {a b : UInt64} (ha : DFin a) (hb : DFin b) (h0 : 0 ≤ Zv a) (hp : 0 < Zv b) (hr : DFin (FP.ddiv a b)) (hr0 : 0 ≤ Zv (FP.ddiv a b)) {V : Int} (hV : Rep V) (hV0 : 0 ≤ V) :
    (Zv (FP.ddiv a b) * Zv b - Zv a * P2 1074).natAbs ≤ (V * Zv b - Zv a * P2 1074).natAbs := by
  obtain ⟨x, hx, rfl⟩ := hV
  obtain ⟨s, c, q, hva⟩ := ha
  obtain ⟨t, d, r, hvb⟩ := hb
  obtain ⟨s2, c2, q2, hvx⟩ := hx
  obtain ⟨s3, c3, q3, hvr⟩ := hr
  have fa := val64_fits a
  have fb := val64_fits b
  have fx := val64_fits x
  have fr := val64_fits (FP.ddiv a b)
  rw [hva] at fa
  rw [hvb] at fb
  rw [hvx] at fx
  rw [hvr] at fr
  have f1 := fa.2.1
  have f2 := fb.2.1
  have f3 := fx.2.1
  have f4 := fr.2.1
  rw [fin_zmag hva h0, fin_zmag hvb (Int.le_of_lt hp), fin_zmag hvx hV0, fin_zmag hvr hr0]
  have hp' : 0 < inUnits d r b64.qmin := by rw [fin_zmag hvb (Int.le_of_lt hp)] at hp; omega
  have hd : 0 < d := by
    rcases Nat.eq_zero_or_pos d with z | z
    · rw [z] at hp'; have : inUnits 0 r b64.qmin = 0 := Nat.zero_mul _; omega
    · exact z
  have hv : roundRatio b64 (s != t) c d (q - r) = .fin s3 c3 q3 := by
    rw [← hvr, val64_ddiv, hva, hvb]
    show _ = (if d = 0 then _ else roundRatio b64 (s != t) c d (q - r))
    rw [if_neg (by omega)]
  have hn := roundRatio_nearest good_b64 hd hv (c' := c2) (q' := q2) fx.1 f3 (e0 := 2 * b64.qmin - r) (by have := qmin_b64; omega) (by have := qmin_b64; omega)
  unfold distance at hn
  have e1 : inUnits c (q - r) (2 * b64.qmin - r) = inUnits c q b64.qmin * 2 ^ 1074 := by
    unfold inUnits
    rw [Nat.mul_assoc, ← Nat.pow_add]
    rw [qmin_b64] at *
    congr 2; omega
  have e2 : ∀ (cc : Nat) (qq : Int), b64.qmin ≤ qq → inUnits cc qq (2 * b64.qmin - r) * d = inUnits cc qq b64.qmin * inUnits d r b64.qmin := by
    intro cc qq hqq
    unfold inUnits
    rw [show (qq - (2 * b64.qmin - r)).toNat = (qq - b64.qmin).toNat + (r - b64.qmin).toNat by omega, Nat.pow_add]
    ((try generalize P2 1074 = U1); (try generalize P2 1073 = U2); (try generalize P2 1072 = U3); (try generalize P2 (1074 - e) = U4); (try generalize P2 e = U5); (try generalize P2 1021 = U6); (try generalize P2 53 = U7); ac_rfl)
  rw [e1, ← Int.natCast_mul, ← Int.natCast_mul, e2 c3 q3 f4, e2 c2 q2 f3] at hn
  rw [Int.natCast_mul, Int.natCast_mul, Int.natCast_mul] at hn
  have n1 : ∀ u v : Int, (u - v).natAbs = (v - u).natAbs := fun u v => by omega
  unfold P2
  exact Nat.le_trans (Nat.le_of_eq (n1 _ _)) (Nat.le_trans hn (Nat.le_of_eq (n1 _ _)))
theorem l2d_near {n : Int64} (h0 : 0 ≤ n.toInt) (hr0 : 0 ≤ Zv (FP.l2d n)) {V : Int} (hV : Rep V) (hV0 : 0 ≤ V) :
    (Zv (FP.l2d n) - n.toInt * P2 1074).natAbs ≤ (V - n.toInt * P2 1074).natAbs := by
  obtain ⟨x, hx, rfl⟩ := hV
  obtain ⟨s2, c2, q2, hvx⟩ := hx
  obtain ⟨s3, c3, q3, hvr⟩ := l2d_dfin n
  have fx := val64_fits x
  have fr := val64_fits (FP.l2d n)
  rw [hvx] at fx
  rw [hvr] at fr
  rw [fin_zmag hvx hV0, fin_zmag hvr hr0]
  have hv : roundRatio b64 (decide (n.toInt < 0)) n.toInt.natAbs 1 0 = .fin s3 c3 q3 := by
    rw [← hvr, show FP.l2d n = Core.l2d n from rfl, val64_l2d]; rfl
  have hn := roundRatio_nearest good_b64 (by decide) hv (c' := c2) (q' := q2) fx.1 fx.2.1 (e0 := b64.qmin) (Int.le_refl _) (by rw [qmin_b64]; decide)
  unfold distance at hn
  have e1 : (inUnits n.toInt.natAbs 0 b64.qmin : Int) = n.toInt * P2 1074 := by
    unfold inUnits
    rw [show (0 - b64.qmin).toNat = 1074 by rw [qmin_b64]; decide, Int.natCast_mul]
    have : (n.toInt.natAbs : Int) = n.toInt := by omega
    rw [this]; rfl
  rw [e1] at hn
  have one : ((1 : Nat) : Int) = 1 := rfl
  rw [one, Int.mul_one, Int.mul_one] at hn
  omega
theorem own_tie {R1 R2 D1 D2 N1 N2 : Int} (h1 : 0 < D1) (h2 : 0 < D2) (n1 : (R1 * D1 - N1).natAbs ≤ (R2 * D1 - N1).natAbs) (n2 : (R2 * D2 - N2).natAbs ≤ (R1 * D2 - N2).natAbs) (h : N1 * D2 ≤ N2 * D1) (hlt : R2 < R1) : N1 * D2 = N2 * D1 := by
  have a1 : R2 * D1 < R1 * D1 := Int.mul_lt_mul_of_pos_right hlt h1
  have a2 : R2 * D2 < R1 * D2 := Int.mul_lt_mul_of_pos_right hlt h2
  have b1 : R1 * D1 + R2 * D1 ≤ 2 * N1 := by omega
  have b2 : 2 * N2 ≤ R1 * D2 + R2 * D2 := by omega
  have c1 := Int.mul_le_mul_of_nonneg_right b1 (Int.le_of_lt h2)
  have c2 := Int.mul_le_mul_of_nonneg_right b2 (Int.le_of_lt h1)
  have e1 : (R1 * D1 + R2 * D1) * D2 = (R1 * D2 + R2 * D2) * D1 := by rw [Int.add_mul, Int.add_mul]; congr 1 <;> ((try generalize P2 1074 = U1); (try generalize P2 1073 = U2); (try generalize P2 1072 = U3); (try generalize P2 (1074 - e) = U4); (try generalize P2 e = U5); (try generalize P2 1021 = U6); (try generalize P2 53 = U7); ac_rfl)
  have e2 : 2 * N1 * D2 = 2 * (N1 * D2) := Int.mul_assoc _ _ _
  have e3 : 2 * N2 * D1 = 2 * (N2 * D1) := Int.mul_assoc _ _ _
  rw [e2, e1] at c1
  rw [e3] at c2
  omega
theorem l2d_nonneg {n : Int64} (h0 : 0 ≤ n.toInt) : 0 ≤ Zv (FP.l2d n) := by
  have e : (0 : Int) ≤ n.toInt * P2 1074 := Int.mul_nonneg h0 (Int.le_of_lt (P2_pos _))
  obtain ⟨x, hx, hz⟩ := rep_zero
  have := l2d_zval_ge (n := n) (V := x) hx.ne_nan (by show Zv x ≤ _; rw [hz]; exact e)
  have h2 : Zv x ≤ Zv (FP.l2d n) := this
  omega
theorem l2d_mono {n k : Int64} (h0 : 0 ≤ n.toInt) (h : n.toInt ≤ k.toInt) : Zv (FP.l2d n) ≤ Zv (FP.l2d k) := by
  by_cases he : n.toInt = k.toInt
  · rw [Int64.toInt_inj.mp he]; exact Int.le_refl _
  · refine Int.le_of_not_gt fun hlt => ?_
    have p1 := l2d_nonneg h0
    have p2 := l2d_nonneg (n := k) (by omega)
    have n1 := l2d_near h0 p1 (rep_self (l2d_dfin k)) p2
    have n2 := l2d_near (n := k) (by omega) p2 (rep_self (l2d_dfin n)) p1
    have hU := P2_pos 1074
    have := own_tie (D1 := 1) (D2 := 1) (by decide) (by decide) (by rw [Int.mul_one, Int.mul_one]; exact n1) (by rw [Int.mul_one, Int.mul_one]; exact n2) (by rw [Int.mul_one, Int.mul_one]; exact Int.mul_le_mul_of_nonneg_right h (Int.le_of_lt hU)) hlt
    rw [Int.mul_one, Int.mul_one] at this
    exact he (Int.eq_of_mul_eq_mul_right (by omega) this)
/-- a nought-or-more quotient is monotone: greater above, or smaller beneath -/
theorem div_mono {a b c d : UInt64} (ha : DFin a) (hb : DFin b) (hc : DFin c) (hd : DFin d) (ha0 : 0 ≤ Zv a) (hc0 : 0 ≤ Zv c) (hb0 : 0 < Zv b) (hd0 : 0 < Zv d) (r1 : DFin (FP.ddiv a b)) (r2 : DFin (FP.ddiv c d)) (z1 : 0 ≤ Zv (FP.ddiv a b)) (z2 : 0 ≤ Zv (FP.ddiv c d))
    (h : Zv a * Zv d ≤ Zv c * Zv b) (heq : Zv a * Zv d = Zv c * Zv b → Zv (FP.ddiv a b) = Zv (FP.ddiv c d)) : Zv (FP.ddiv a b) ≤ Zv (FP.ddiv c d) := by
  refine Int.le_of_not_gt fun hlt => ?_
  have n1 := div_near ha hb ha0 hb0 r1 z1 (rep_self r2) z2
  have n2 := div_near hc hd hc0 hd0 r2 z2 (rep_self r1) z1
  have hU := P2_pos 1074
  have e1 : Zv a * P2 1074 * Zv d = Zv a * Zv d * P2 1074 := by ((try generalize P2 1074 = U1); (try generalize P2 1073 = U2); (try generalize P2 1072 = U3); (try generalize P2 (1074 - e) = U4); (try generalize P2 e = U5); (try generalize P2 1021 = U6); (try generalize P2 53 = U7); ac_rfl)
  have e2 : Zv c * P2 1074 * Zv b = Zv c * Zv b * P2 1074 := by ((try generalize P2 1074 = U1); (try generalize P2 1073 = U2); (try generalize P2 1072 = U3); (try generalize P2 (1074 - e) = U4); (try generalize P2 e = U5); (try generalize P2 1021 = U6); (try generalize P2 53 = U7); ac_rfl)
  have t := own_tie hb0 hd0 n1 n2 (by rw [e1, e2]; exact Int.mul_le_mul_of_nonneg_right h (Int.le_of_lt hU)) hlt
  rw [e1, e2] at t
  have := heq (Int.eq_of_mul_eq_mul_right (by omega) t)
  omega
theorem bits_eq {a b : UInt64} (ha : DFin a) (hb : DFin b) (h0 : 0 < Zv b) (h : Zv a = Zv b) : a = b :=
  eq_bits (pos_nz h0) (dcmp_eq.mpr ⟨ha.ne_nan, hb.ne_nan, h⟩)
end OwnMono

section OwnLaw
open Jvm.FP Jvm.FP.Core Jvm.Free.Fl
theorem nn_divl {t d : Int64} {x y : UInt64} (hx : FP.l2d t = x) (hy : FP.l2d d = y) (h : ¬ d = 0) : NoNaN64 (FP.ddiv x y) := by
  subst hx hy
  exact noNaN64_no.mpr (Core.ddiv_out (l2d_dfin t).notNaN (l2d_dfin d) (fun z => Core.l2d_ne_zero h ((Core.zero_bits2 _).mp z)))
/-- what bitErrorRate gives -/
def own_rate (e b : Int64) : UInt64 := FP.ddiv (FP.l2d e) (FP.l2d b)
def own_max (x y : Int64) : Int64 := if x < y then y else x
def own_min (x y : Int64) : Int64 := if y < x then y else x
theorem own_max_v (x y : Int64) : x.toInt ≤ (own_max x y).toInt ∧ y.toInt ≤ (own_max x y).toInt ∧ ((own_max x y).toInt = x.toInt ∨ (own_max x y).toInt = y.toInt) := by
  unfold own_max
  split
  · rename_i h; have := Int64.lt_iff_toInt_lt.mp h; omega
  · rename_i h; have := Int.not_lt.mp (fun z => h (Int64.lt_iff_toInt_lt.mpr z)); omega
theorem own_min_v (x y : Int64) : (own_min x y).toInt ≤ x.toInt ∧ (own_min x y).toInt ≤ y.toInt ∧ ((own_min x y).toInt = x.toInt ∨ (own_min x y).toInt = y.toInt) := by
  unfold own_min
  split
  · rename_i h; have := Int64.lt_iff_toInt_lt.mp h; omega
  · rename_i h; have := Int.not_lt.mp (fun z => h (Int64.lt_iff_toInt_lt.mpr z)); omega
theorem own_nz {d : Int64} (h : 1 ≤ d.toInt) : ¬ d = 0 := fun z => by rw [z] at h; exact absurd h (by decide)
theorem own_b {b u v w : Int64} (h1 : b &&& 9223372036854775807 = u) (h2 : u - (u / 9223372036854775807) * 9223372036854775807 = v) (h3 : 1 + v = w) : 1 ≤ w.toInt := by
  have e1 := c_maskL b 9223372036854775807 63 (by decide) (by decide)
  rw [h1] at e1
  have e2 := (c_lrem u 9223372036854775807 9223372036854775807 rfl).1 (by omega)
  rw [h2] at e2
  have e3 := c_ladd 1 v
  rw [h3] at e3
  have r := rng64 w
  have o : (1 : Int64).toInt = 1 := rfl
  omega
theorem own_r {e u b v : Int64} (h1 : e &&& 9223372036854775807 = u) (hb : 1 ≤ b.toInt) (h2 : u - (u / b) * b = v) : 0 ≤ v.toInt ∧ v.toInt < b.toInt := by
  have e1 := c_maskL e 9223372036854775807 63 (by decide) (by decide)
  rw [h1] at e1
  have e2 := (c_lrem u b b.toInt rfl).1 (by omega)
  rw [h2] at e2
  have r0 := Int.emod_nonneg u.toInt (show b.toInt ≠ 0 by omega)
  have r1 := Int.emod_lt_of_pos u.toInt (show 0 < b.toInt by omega)
  omega
theorem own_bits {r : Int32} (h0 : 0 ≤ r.toInt) (h1 : r.toInt < 64) : r.toBitVec.toNat % 64 = r.toInt.toNat := by
  have h2 := r.toBitVec.isLt
  have e : r.toInt = r.toBitVec.toInt := rfl
  rw [BitVec.toInt_eq_toNat_cond] at e
  split at e <;> omega
theorem own_pw {s u kx : Int32} {pw : Int64} (h1 : (Int32.toUInt32 s >>> Int32.toUInt32 ((1 : Int32) &&& 31)).toInt32 = u) (h2 : u - (u / 63) * 63 = kx) (h3 : (1 : Int64) <<< Int32.toInt64 (kx &&& 0x3f) = pw) : ∃ k : Nat, k ≤ 62 ∧ pw.toInt = P2 k ∧ 1 ≤ pw.toInt := by
  have e1 := c_iushr s 1 1 (by decide) (by decide)
  have e1' : u.toInt = (s.toInt % 4294967296) / (2 ^ 1 : Nat) := by rw [← h1]; exact e1
  have e2 := rem_toInt u 63
  rw [h2, Int.tmod_eq_emod_of_nonneg (by omega)] at e2
  have e63 : (63 : Int32).toInt = 63 := rfl
  rw [e63] at e2
  have e3 := c_lshl 1 kx kx.toInt.toNat (own_bits (by omega) (by omega))
  rw [h3] at e3
  have o : (1 : Int64).toInt = 1 := rfl
  rw [o, Int.one_mul] at e3
  have r3 := rng64 pw
  have p62 : ((2 ^ kx.toInt.toNat : Nat) : Int) ≤ 4611686018427387904 := by
    have := Nat.pow_le_pow_right (show 0 < 2 by decide) (show kx.toInt.toNat ≤ 62 by omega)
    omega
  have p0 : 0 < ((2 ^ kx.toInt.toNat : Nat) : Int) := P2_pos _
  refine ⟨kx.toInt.toNat, by omega, ?_, by omega⟩
  show pw.toInt = ((2 ^ kx.toInt.toNat : Nat) : Int)
  omega
theorem own_up (n : Int64) : Zv (FP.l2d n) ≤ P2 63 * P2 1074 := by
  have r := rng64 n
  have p : P2 63 = 9223372036854775808 := by decide
  obtain ⟨x, hx, hz⟩ := rep_of (V := P2 63 * P2 1074) 1 (63 + 1074) (by decide) (by decide) (by rw [P2_add, Int.one_mul])
  have := l2d_zval_le (n := n) (V := x) hx.ne_nan (by show _ ≤ Zv x; rw [hz]; exact Int.mul_le_mul_of_nonneg_right (by omega) (Int.le_of_lt (P2_pos _)))
  have h2 : Zv (FP.l2d n) ≤ Zv x := this
  omega
theorem own_lo {n : Int64} (h : 1 ≤ n.toInt) : P2 1074 ≤ Zv (FP.l2d n) := by
  have hU := P2_pos 1074
  obtain ⟨x, hx, hz⟩ := rep_int 1 (by decide)
  have := l2d_zval_ge (n := n) (V := x) hx.ne_nan (by show Zv x ≤ _; rw [hz]; exact Int.mul_le_mul_of_nonneg_right h (Int.le_of_lt hU))
  have h2 : Zv x ≤ Zv (FP.l2d n) := this
  omega
/-- a rate between nought and one -/
theorem own_rate_in {e b : Int64} (h0 : 0 ≤ e.toInt) (h1 : e.toInt ≤ b.toInt) (hb : 1 ≤ b.toInt) : DFin (own_rate e b) ∧ 0 ≤ Zv (own_rate e b) ∧ Zv (own_rate e b) ≤ P2 1074 := by
  have hU := P2_pos 1074
  have lb := own_lo hb
  have z0 := l2d_nonneg h0
  have m := l2d_mono h0 h1
  have := div_in (l2d_dfin e) (l2d_dfin b) (by omega) rep_zero (rep_of (V := P2 1074) 1 1074 (by decide) (by decide) (by rw [Int.one_mul])) (by rw [Int.zero_mul]; exact Int.mul_nonneg z0 (by omega)) (by rw [Int.mul_comm (P2 1074)]; exact Int.mul_le_mul_of_nonneg_right m (by omega))
  exact this
theorem own_rate_zero {e b : Int64} (h0 : e = 0) (hb : 1 ≤ b.toInt) : Zv (own_rate e b) = 0 := by
  subst h0
  have hU := P2_pos 1074
  have lb := own_lo hb
  have z : Zv (FP.l2d 0) = 0 := by rw [l2d_eq (by decide)]; exact Int.zero_mul _
  exact (div_eq (l2d_dfin 0) (l2d_dfin b) (by omega) rep_zero (by rw [z, Int.zero_mul, Int.zero_mul])).2
theorem own_rate_pos {e b : Int64} (h0 : 1 ≤ e.toInt) (hb : 1 ≤ b.toInt) : 0 < Zv (own_rate e b) := by
  have hU := P2_pos 1074
  have lb := own_lo hb
  have le := own_lo h0
  have ub := own_up b
  have hp := P2_pos 1010
  have g := div_ge (l2d_dfin e) (l2d_dfin b) (by omega) (V := P2 1010) (rep_of 1 1010 (by decide) (by decide) (by rw [Int.one_mul])) (by
    have a1 : P2 1010 * Zv (FP.l2d b) ≤ P2 1010 * (P2 63 * P2 1074) := Int.mul_le_mul_of_nonneg_left ub (by omega)
    have a2 : P2 1010 * (P2 63 * P2 1074) = P2 1073 * P2 1074 := by rw [← Int.mul_assoc, ← P2_add]
    have a3 : P2 1074 = 2 * P2 1073 := by rw [show (1074 : Nat) = 1 + 1073 from rfl, P2_add]; rfl
    have a4 : P2 1074 * P2 1074 ≤ Zv (FP.l2d e) * P2 1074 := Int.mul_le_mul_of_nonneg_right le (by omega)
    have a5 : P2 1073 * P2 1074 ≤ P2 1074 * P2 1074 := Int.mul_le_mul_of_nonneg_right (by have := P2_pos 1073; omega) (by omega)
    omega)
  have : P2 1010 ≤ Zv (own_rate e b) := g
  omega
theorem own_rate_one {b : Int64} (hb : 1 ≤ b.toInt) : Zv (own_rate b b) = 1 * P2 1074 := by
  have lb := own_lo hb
  have hU := P2_pos 1074
  exact (div_eq (l2d_dfin b) (l2d_dfin b) (by omega) (rep_int 1 (by decide)) (by rw [Int.one_mul, Int.mul_comm])).2
theorem own_rate_lo {x y b : Int64} (h0 : 0 ≤ x.toInt) (h1 : x.toInt ≤ y.toInt) (h2 : y.toInt ≤ b.toInt) (hb : 1 ≤ b.toInt) : Zv (own_rate x b) ≤ Zv (own_rate y b) := by
  have hU := P2_pos 1074
  have lb := own_lo hb
  have r1 := own_rate_in h0 (Int.le_trans h1 h2) hb
  have r2 := own_rate_in (Int.le_trans h0 h1) h2 hb
  have m := l2d_mono h0 h1
  by_cases hy : 1 ≤ y.toInt
  · refine div_mono (l2d_dfin x) (l2d_dfin b) (l2d_dfin y) (l2d_dfin b) (l2d_nonneg h0) (l2d_nonneg (by omega)) (by omega) (by omega) r1.1 r2.1 r1.2.1 r2.2.1 (Int.mul_le_mul_of_nonneg_right m (by omega)) (fun q => ?_)
    have e := Int.eq_of_mul_eq_mul_right (by omega) q
    have ly := own_lo hy
    rw [bits_eq (l2d_dfin x) (l2d_dfin y) (by omega) e]
  · have : x = y := Int64.toInt_inj.mp (by omega)
    rw [this]; exact Int.le_refl _
theorem own_rate_big {x b d : Int64} (h0 : 0 ≤ x.toInt) (h1 : x.toInt ≤ b.toInt) (hb : 1 ≤ b.toInt) (hd : b.toInt ≤ d.toInt) : Zv (own_rate x d) ≤ Zv (own_rate x b) := by
  have hU := P2_pos 1074
  have lb := own_lo hb
  have ld := own_lo (n := d) (by omega)
  have r1 := own_rate_in h0 h1 hb
  have r2 := own_rate_in (b := d) h0 (by omega) (by omega)
  have m := l2d_mono (n := b) (k := d) (by omega) hd
  by_cases hx : 1 ≤ x.toInt
  · have lx := own_lo hx
    refine div_mono (l2d_dfin x) (l2d_dfin d) (l2d_dfin x) (l2d_dfin b) (l2d_nonneg h0) (l2d_nonneg h0) (by omega) (by omega) r2.1 r1.1 r2.2.1 r1.2.1 (Int.mul_le_mul_of_nonneg_left m (by omega)) (fun q => ?_)
    have e := Int.eq_of_mul_eq_mul_left (by omega) q
    rw [bits_eq (l2d_dfin b) (l2d_dfin d) (by omega) e]
  · have e : x = 0 := Int64.toInt_inj.mp (by have o : (0 : Int64).toInt = 0 := rfl; omega)
    rw [own_rate_zero e (by omega), own_rate_zero e hb]; exact Int.le_refl _
theorem own_exact {ep pw : Int64} {k : Nat} {x : UInt64} (hk : k ≤ 62) (hp : pw.toInt = P2 k) (h0 : 0 ≤ ep.toInt) (hx : FP.l2d pw = x) : DFin (FP.dmul (own_rate ep pw) x) ∧ Zv (FP.dmul (own_rate ep pw) x) = Zv (FP.l2d ep) := by
  subst hx
  have hU := P2_pos 1074
  have hk0 := P2_pos k
  have zp : Zv (FP.l2d pw) = P2 k * P2 1074 := by
    rw [← hp]; exact l2d_rep (rep_of 1 (k + 1074) (by decide) (by omega) (by rw [hp, P2_add, Int.one_mul]))
  have pp : 0 < Zv (FP.l2d pw) := by rw [zp]; exact Int.mul_pos hk0 hU
  have rE := rep_self (l2d_dfin ep)
  have key : ∃ V, Rep V ∧ Zv (FP.l2d ep) = V * P2 k := by
    by_cases hk0 : k = 0
    · exact ⟨Zv (FP.l2d ep), rE, by rw [hk0, show P2 0 = 1 from rfl, Int.mul_one]⟩
    by_cases he : 1 ≤ ep.toInt
    · obtain ⟨cc, j, hz, hc, hj⟩ := rep_dec rE
      have lo := own_lo he
      have hj2 : k ≤ j := by
        refine Nat.le_of_not_lt fun q => ?_
        have c1 : cc * P2 j ≤ P2 53 * P2 j := Int.mul_le_mul_of_nonneg_right (by have p : P2 53 = 9007199254740992 := by decide
                                                                                 omega) (Int.le_of_lt (P2_pos j))
        have c2 : P2 53 * P2 j ≤ P2 1074 := by
          rw [← P2_add, show (1074 : Nat) = (53 + j) + (1021 - j) by omega, P2_add (53 + j)]
          have := Int.mul_le_mul_of_nonneg_left (show (1 : Int) ≤ P2 (1021 - j) by have := P2_pos (1021 - j); omega) (Int.le_of_lt (P2_pos (53 + j)))
          omega
        have c3 : cc * P2 j < P2 53 * P2 j := Int.mul_lt_mul_of_pos_right (by have p : P2 53 = 9007199254740992 := by decide
                                                                              omega) (P2_pos j)
        omega
      obtain ⟨t, rfl⟩ := Nat.exists_eq_add_of_le hj2
      refine ⟨cc * P2 t, rep_mk cc t (by omega) (by omega), ?_⟩
      rw [hz, P2_add]; ((try generalize P2 1074 = U1); (try generalize P2 1073 = U2); (try generalize P2 1072 = U3); (try generalize P2 (1074 - e) = U4); (try generalize P2 e = U5); (try generalize P2 1021 = U6); (try generalize P2 53 = U7); ac_rfl)
    · have e : ep = 0 := Int64.toInt_inj.mp (by have o : (0 : Int64).toInt = 0 := rfl; omega)
      refine ⟨0, rep_zero, ?_⟩
      rw [e, l2d_eq (by decide), Int.zero_mul]; exact Int.zero_mul _
  obtain ⟨V, rV, hV⟩ := key
  obtain ⟨d1, d2⟩ := div_eq (l2d_dfin ep) (l2d_dfin pw) pp rV (by rw [zp, hV]; ((try generalize P2 1074 = U1); (try generalize P2 1073 = U2); (try generalize P2 1072 = U3); (try generalize P2 (1074 - e) = U4); (try generalize P2 e = U5); (try generalize P2 1021 = U6); (try generalize P2 53 = U7); ac_rfl))
  exact mul_eq d1 (l2d_dfin pw) rE (by
    show Zv (FP.ddiv (FP.l2d ep) (FP.l2d pw)) * _ = _
    rw [d2, zp, hV]; ((try generalize P2 1074 = U1); (try generalize P2 1073 = U2); (try generalize P2 1072 = U3); (try generalize P2 (1074 - e) = U4); (try generalize P2 e = U5); (try generalize P2 1021 = U6); (try generalize P2 53 = U7); ac_rfl))
theorem own_math {bits lo hi big : Int64} {r1 r3 r4 : UInt64} (hb : 1 ≤ bits.toInt) (l0 : 0 ≤ lo.toInt) (lh : lo.toInt ≤ hi.toInt) (hbt : hi.toInt ≤ bits.toInt) (hbig : bits.toInt ≤ big.toInt) (e1 : own_rate hi bits = r1) (e3 : own_rate lo bits = r3) (e4 : own_rate hi big = r4) :
    ¬ (cmpValue (FP.dcmp r1 0) .l < 0) ∧ ¬ (0 < cmpValue (FP.dcmp r1 4607182418800017408) .g) ∧ ¬ (cmpValue (FP.dcmp r3 0) .l < 0) ∧ ¬ (cmpValue (FP.dcmp r4 0) .l < 0) ∧ (hi = 0 → cmpValue (FP.dcmp r1 0) .l = 0) ∧ (¬ hi = 0 → ¬ cmpValue (FP.dcmp r1 0) .l = 0) ∧ (lo = 0 → cmpValue (FP.dcmp r3 0) .l = 0) ∧ (hi = bits → cmpValue (FP.dcmp r1 4607182418800017408) .l = 0) ∧ cmpValue (FP.dcmp r1 r1) .l = 0 ∧ ¬ (0 < cmpValue (FP.dcmp r3 r1) .g) ∧ ¬ (0 < cmpValue (FP.dcmp r4 r1) .g) := by
  subst e1 e3 e4
  obtain ⟨f1, a1, b1⟩ := own_rate_in (e := hi) (b := bits) (by omega) hbt hb
  obtain ⟨f3, a3, b3⟩ := own_rate_in (e := lo) (b := bits) l0 (by omega) hb
  obtain ⟨f4, a4, b4⟩ := own_rate_in (e := hi) (b := big) (by omega) (by omega) (by omega)
  have o1 := own_rate_lo (x := lo) (y := hi) (b := bits) l0 lh hbt hb
  have o2 := own_rate_big (x := hi) (b := bits) (d := big) (by omega) hbt hb hbig
  have ge0 : ∀ {x : UInt64} (o : CmpOp), DFin x → 0 ≤ Zv x → ¬ (cmpValue (FP.dcmp x 0) o < 0) := by
    intro x o f z
    rcases Int.lt_or_eq_of_le z with z | z
    · rw [cmp_gt f zero_fin o (by rw [zero_z]; exact z)]; decide
    · rw [cmp_eq f zero_fin o (by rw [zero_z]; exact z.symm)]; decide
  have le : ∀ {x y : UInt64} (o : CmpOp), DFin x → DFin y → Zv x ≤ Zv y → ¬ (0 < cmpValue (FP.dcmp x y) o) := by
    intro x y o f g z
    rcases Int.lt_or_eq_of_le z with z | z
    · rw [cmp_lt f g o z]; decide
    · rw [cmp_eq f g o z]; decide
  refine ⟨ge0 _ f1 a1, le _ f1 one_fin (by rw [one_z, Int.one_mul]; exact b1), ge0 _ f3 a3, ge0 _ f4 a4, ?_, ?_, ?_, ?_, cmp_eq f1 f1 _ rfl, le _ f3 f1 o1, le _ f4 f1 o2⟩
  · intro z; exact cmp_eq f1 zero_fin _ (by rw [zero_z]; exact own_rate_zero z hb)
  · intro z
    have z1 := Core.int64_ne z
    rw [cmp_gt f1 zero_fin _ (by rw [zero_z]; exact own_rate_pos (by omega) hb)]; decide
  · intro z; exact cmp_eq f3 zero_fin _ (by rw [zero_z]; exact own_rate_zero z hb)
  · intro z; subst z; exact cmp_eq f1 one_fin _ (by rw [one_z]; exact own_rate_one hb)
end OwnLaw

theorem d1_0 : decode jdk_29_method_66_code 0 = .ok (.lload_n 0, 1) := by decide +kernel
theorem d1_1 : decode jdk_29_method_66_code 1 = .ok (.lload_n 2, 1) := by decide +kernel
theorem d1_2 : decode jdk_29_method_66_code 2 = .ok (.lcmp, 1) := by decide +kernel
theorem d1_3 : decode jdk_29_method_66_code 3 = .ok (.ifCond .lt 7, 3) := by decide +kernel
theorem d1_6 : decode jdk_29_method_66_code 6 = .ok (.lload_n 0, 1) := by decide +kernel
theorem d1_7 : decode jdk_29_method_66_code 7 = .ok (.goto 4, 3) := by decide +kernel
theorem d1_10 : decode jdk_29_method_66_code 10 = .ok (.lload_n 2, 1) := by decide +kernel
theorem d1_11 : decode jdk_29_method_66_code 11 = .ok (.lreturn, 1) := by decide +kernel
set_option maxRecDepth 65536 in
set_option maxHeartbeats 40000000 in
theorem rm_max (l : Launch) (Z : State) (a0 : Array Value) (hw : ∀ d ∈ tables_1, d.before a0 Z = true) (x : Int64) (y : Int64) (h0 : Heap) (n0 : Nat) (Z0 : n0 ≤ h0.size)  :
    Con l Z (⟨"java/lang/Math", "max", "(JJ)J"⟩ : MethodName) jdk_29_method_66_code 4 (some .long) ({ frames := 0, cells := 0, slots := 0, locals := 0 } : Room) #[(.long x), (.long y)] h0 (fun v h L => v = some (.long (own_max x y)) ∧ Fr n0 L ∧ h = h0) := by
  refine enter (l := l) (Z := Z) (y := (⟨"java/lang/Math", "max", "(JJ)J"⟩ : MethodName)) (bytes := jdk_29_method_66_code) (maxL := 4) (ret := (some .long)) (ws := []) (rm := ({ frames := 0, cells := 0, slots := 0, locals := 0 } : Room)) (as' := #[(.long x), (.long y)]) (h0 := h0) (Qv := (fun v h L => v = some (.long (own_max x y)) ∧ Fr n0 L ∧ h = h0)) (kc := 0) (ks := 0) (by first | exact plainFor_of_name (by first | (simp [plainName, overriddenIn]; done) | decide +kernel) | decide +kernel) (Ls := #[.val (.long x), .second, .val (.long y), .second]) (fun m => by first | (simp [entryFrame, mkF, argsToLocals, Value.category]; done) | rfl) ?_
  intro p e s m below meth c s₁ hx hby hml hown hnm hret hlk hZ X0 e0
  have hown : s.vm.findClass "java/lang/Math" = some m.cls := hown
  have hml : c.maxLocals = 4 := hml
  have N0 := Fr.nil n0
  refine Go.lloadN X0.here hx (Jvm.hb hby d1_0) rfl (q := 1) rfl ?_
  refine Go.lloadN X0.here hx (Jvm.hb hby d1_1) rfl (q := 2) rfl ?_
  obtain ⟨u2, hu2⟩ : ∃ zq, lcmpW x y = zq := ⟨_, rfl⟩
  refine Go.lcmp X0.here hx (Jvm.hb hby d1_2) hu2 (q := 3) rfl ?_
  by_cases hc3 : x < y
  · -- pc 3: x < y
    refine Go.ifY X0.here hx (Jvm.hb hby d1_3) ((if0 _ _).trans (tlt (hu2 ▸ (lw_lt _ _).mpr hc3)).1) (by decide) (q := 10) rfl ?_
    refine Go.lloadN X0.here hx (Jvm.hb hby d1_10) rfl (q := 11) rfl ?_
    refine Go.retL X0 hx hret hlk (Jvm.hb hby d1_11) (by decide) (by decide) ?_
    exact ⟨by rw [own_max, if_pos hc3], N0, e0⟩
  · -- pc 3: not x < y
    refine Go.ifN X0.here hx (Jvm.hb hby d1_3) ((if0 _ _).trans (flt (fun z => hc3 ((lw_lt _ _).mp (hu2.symm ▸ z)))).1) (q := 6) rfl ?_
    refine Go.lloadN X0.here hx (Jvm.hb hby d1_6) rfl (q := 7) rfl ?_
    refine Go.goto X0.here hx (Jvm.hb hby d1_7) (by decide) (q := 11) rfl ?_
    refine Go.retL X0 hx hret hlk (Jvm.hb hby d1_11) (by decide) (by decide) ?_
    exact ⟨by rw [own_max, if_neg hc3], N0, e0⟩
theorem d2_0 : decode jdk_29_method_70_code 0 = .ok (.lload_n 0, 1) := by decide +kernel
theorem d2_1 : decode jdk_29_method_70_code 1 = .ok (.lload_n 2, 1) := by decide +kernel
theorem d2_2 : decode jdk_29_method_70_code 2 = .ok (.lcmp, 1) := by decide +kernel
theorem d2_3 : decode jdk_29_method_70_code 3 = .ok (.ifCond .gt 7, 3) := by decide +kernel
theorem d2_6 : decode jdk_29_method_70_code 6 = .ok (.lload_n 0, 1) := by decide +kernel
theorem d2_7 : decode jdk_29_method_70_code 7 = .ok (.goto 4, 3) := by decide +kernel
theorem d2_10 : decode jdk_29_method_70_code 10 = .ok (.lload_n 2, 1) := by decide +kernel
theorem d2_11 : decode jdk_29_method_70_code 11 = .ok (.lreturn, 1) := by decide +kernel
set_option maxRecDepth 65536 in
set_option maxHeartbeats 40000000 in
theorem rm_min (l : Launch) (Z : State) (a0 : Array Value) (hw : ∀ d ∈ tables_1, d.before a0 Z = true) (x : Int64) (y : Int64) (h0 : Heap) (n0 : Nat) (Z0 : n0 ≤ h0.size)  :
    Con l Z (⟨"java/lang/Math", "min", "(JJ)J"⟩ : MethodName) jdk_29_method_70_code 4 (some .long) ({ frames := 0, cells := 0, slots := 0, locals := 0 } : Room) #[(.long x), (.long y)] h0 (fun v h L => v = some (.long (own_min x y)) ∧ Fr n0 L ∧ h = h0) := by
  refine enter (l := l) (Z := Z) (y := (⟨"java/lang/Math", "min", "(JJ)J"⟩ : MethodName)) (bytes := jdk_29_method_70_code) (maxL := 4) (ret := (some .long)) (ws := []) (rm := ({ frames := 0, cells := 0, slots := 0, locals := 0 } : Room)) (as' := #[(.long x), (.long y)]) (h0 := h0) (Qv := (fun v h L => v = some (.long (own_min x y)) ∧ Fr n0 L ∧ h = h0)) (kc := 0) (ks := 0) (by first | exact plainFor_of_name (by first | (simp [plainName, overriddenIn]; done) | decide +kernel) | decide +kernel) (Ls := #[.val (.long x), .second, .val (.long y), .second]) (fun m => by first | (simp [entryFrame, mkF, argsToLocals, Value.category]; done) | rfl) ?_
  intro p e s m below meth c s₁ hx hby hml hown hnm hret hlk hZ X0 e0
  have hown : s.vm.findClass "java/lang/Math" = some m.cls := hown
  have hml : c.maxLocals = 4 := hml
  have N0 := Fr.nil n0
  refine Go.lloadN X0.here hx (Jvm.hb hby d2_0) rfl (q := 1) rfl ?_
  refine Go.lloadN X0.here hx (Jvm.hb hby d2_1) rfl (q := 2) rfl ?_
  obtain ⟨u2, hu2⟩ : ∃ zq, lcmpW x y = zq := ⟨_, rfl⟩
  refine Go.lcmp X0.here hx (Jvm.hb hby d2_2) hu2 (q := 3) rfl ?_
  by_cases hc3 : y < x
  · -- pc 3: y < x
    refine Go.ifY X0.here hx (Jvm.hb hby d2_3) ((if0 _ _).trans (tlt (hu2 ▸ (lw_gt _ _).mpr hc3)).2.2.1) (by decide) (q := 10) rfl ?_
    refine Go.lloadN X0.here hx (Jvm.hb hby d2_10) rfl (q := 11) rfl ?_
    refine Go.retL X0 hx hret hlk (Jvm.hb hby d2_11) (by decide) (by decide) ?_
    exact ⟨by rw [own_min, if_pos hc3], N0, e0⟩
  · -- pc 3: not y < x
    refine Go.ifN X0.here hx (Jvm.hb hby d2_3) ((if0 _ _).trans (flt (fun z => hc3 ((lw_gt _ _).mp (hu2.symm ▸ z)))).2.2.1) (q := 6) rfl ?_
    refine Go.lloadN X0.here hx (Jvm.hb hby d2_6) rfl (q := 7) rfl ?_
    refine Go.goto X0.here hx (Jvm.hb hby d2_7) (by decide) (q := 11) rfl ?_
    refine Go.retL X0 hx hret hlk (Jvm.hb hby d2_11) (by decide) (by decide) ?_
    exact ⟨by rw [own_min, if_neg hc3], N0, e0⟩
theorem d4_0 : decode jdk_30_method_1_code 0 = .ok (.aload_n 0, 1) := by decide +kernel
theorem d4_1 : decode jdk_30_method_1_code 1 = .ok (.invokespecial 1, 3) := by decide +kernel
theorem d4_4 : decode jdk_30_method_1_code 4 = .ok (.return_, 1) := by decide +kernel
set_option maxRecDepth 65536 in
set_option maxHeartbeats 40000000 in
theorem rm_rec (l : Launch) (Z : State) (a0 : Array Value) (hw : ∀ d ∈ tables_1, d.before a0 Z = true) (a1 : Addr) (h0 : Heap) (n0 : Nat) (Z0 : n0 ≤ h0.size)  :
    Con l Z (⟨"java/lang/Record", "<init>", "()V"⟩ : MethodName) jdk_30_method_1_code 1 none ({ frames := 1, cells := 0, slots := 0, locals := 12 } : Room) #[(.ref a1)] h0 (fun v h L => v = none ∧ Fr n0 L ∧ h = h0) := by
  refine enter (l := l) (Z := Z) (y := (⟨"java/lang/Record", "<init>", "()V"⟩ : MethodName)) (bytes := jdk_30_method_1_code) (maxL := 1) (ret := none) (ws := []) (rm := ({ frames := 1, cells := 0, slots := 0, locals := 12 } : Room)) (as' := #[(.ref a1)]) (h0 := h0) (Qv := (fun v h L => v = none ∧ Fr n0 L ∧ h = h0)) (kc := 0) (ks := 0) (by first | exact plainFor_of_name (by first | (simp [plainName, overriddenIn]; done) | decide +kernel) | decide +kernel) (Ls := #[.val (.ref a1)]) (fun m => by first | (simp [entryFrame, mkF, argsToLocals, Value.category]; done) | rfl) ?_
  intro p e s m below meth c s₁ hx hby hml hown hnm hret hlk hZ X0 e0
  have hown : s.vm.findClass "java/lang/Record" = some m.cls := hown
  have hml : c.maxLocals = 1 := hml
  have N0 := Fr.nil n0
  refine Go.aloadN X0.here hx (Jvm.hb hby d4_0) rfl rfl (q := 1) rfl ?_
  refine Go.init X0 hx hZ hown (word hw 20 rfl) (word hw 21 rfl) (word hw 22 rfl) e0 (Jvm.hb hby d4_1) (by rw [hml]; rfl) (by decide) (W := 0) (Nat.le_of_eq rfl) (by decide) (q := 4) rfl ?_
  intro T101 X101 e101
  refine Go.retV X101 hx hret hlk (Jvm.hb hby d4_4) (by decide) (by decide) ?_
  exact ⟨rfl, N0, e101⟩
theorem d3_0 : decode prog_66_method_1_code 0 = .ok (.aload_n 0, 1) := by decide +kernel
theorem d3_1 : decode prog_66_method_1_code 1 = .ok (.invokespecial 1, 3) := by decide +kernel
theorem d3_4 : decode prog_66_method_1_code 4 = .ok (.aload_n 0, 1) := by decide +kernel
theorem d3_5 : decode prog_66_method_1_code 5 = .ok (.lload_n 1, 1) := by decide +kernel
theorem d3_6 : decode prog_66_method_1_code 6 = .ok (.putfield 7, 3) := by decide +kernel
theorem d3_9 : decode prog_66_method_1_code 9 = .ok (.aload_n 0, 1) := by decide +kernel
theorem d3_10 : decode prog_66_method_1_code 10 = .ok (.lload_n 3, 1) := by decide +kernel
theorem d3_11 : decode prog_66_method_1_code 11 = .ok (.putfield 13, 3) := by decide +kernel
theorem d3_14 : decode prog_66_method_1_code 14 = .ok (.aload_n 0, 1) := by decide +kernel
theorem d3_15 : decode prog_66_method_1_code 15 = .ok (.lload 5, 2) := by decide +kernel
theorem d3_17 : decode prog_66_method_1_code 17 = .ok (.putfield 16, 3) := by decide +kernel
theorem d3_20 : decode prog_66_method_1_code 20 = .ok (.aload_n 0, 1) := by decide +kernel
theorem d3_21 : decode prog_66_method_1_code 21 = .ok (.lload 7, 2) := by decide +kernel
theorem d3_23 : decode prog_66_method_1_code 23 = .ok (.putfield 19, 3) := by decide +kernel
theorem d3_26 : decode prog_66_method_1_code 26 = .ok (.return_, 1) := by decide +kernel
set_option maxRecDepth 65536 in
set_option maxHeartbeats 40000000 in
theorem rm_init (l : Launch) (Z : State) (a0 : Array Value) (hw : ∀ d ∈ tables_1, d.before a0 Z = true) (a1 : Addr) (q2 : Int64) (q3 : Int64) (q4 : Int64) (q5 : Int64) (o1 : Value) (o2 : Value) (o3 : Value) (o4 : Value) (h0 : Heap) (n0 : Nat) (Z0 : n0 ≤ h0.size) (E1 : Exa Z h0 a1 "com/example/syndrome/syndrome/simulate/Simulator$Result") (F1 : Fld Z h0 a1 "com/example/syndrome/syndrome/simulate/Simulator$Result" "bits" "J" o1) (F2 : Fld Z h0 a1 "com/example/syndrome/syndrome/simulate/Simulator$Result" "bitErrors" "J" o2) (F3 : Fld Z h0 a1 "com/example/syndrome/syndrome/simulate/Simulator$Result" "frames" "J" o3) (F4 : Fld Z h0 a1 "com/example/syndrome/syndrome/simulate/Simulator$Result" "frameErrors" "J" o4) (g1 : n0 ≤ a1) :
    Con l Z (⟨"com/example/syndrome/syndrome/simulate/Simulator$Result", "<init>", "(JJJJ)V"⟩ : MethodName) prog_66_method_1_code 9 none ({ frames := 2, cells := 0, slots := 0, locals := 24 } : Room) #[(.ref a1), (.long q2), (.long q3), (.long q4), (.long q5)] h0 (fun v h L => v = none ∧ Fr n0 L ∧ Keep h0 h [a1] ∧ Exa Z h a1 "com/example/syndrome/syndrome/simulate/Simulator$Result" ∧ Fld Z h a1 "com/example/syndrome/syndrome/simulate/Simulator$Result" "bits" "J" (.long q2) ∧ Fld Z h a1 "com/example/syndrome/syndrome/simulate/Simulator$Result" "bitErrors" "J" (.long q3)) := by
  refine enter (l := l) (Z := Z) (y := (⟨"com/example/syndrome/syndrome/simulate/Simulator$Result", "<init>", "(JJJJ)V"⟩ : MethodName)) (bytes := prog_66_method_1_code) (maxL := 9) (ret := none) (ws := []) (rm := ({ frames := 2, cells := 0, slots := 0, locals := 24 } : Room)) (as' := #[(.ref a1), (.long q2), (.long q3), (.long q4), (.long q5)]) (h0 := h0) (Qv := (fun v h L => v = none ∧ Fr n0 L ∧ Keep h0 h [a1] ∧ Exa Z h a1 "com/example/syndrome/syndrome/simulate/Simulator$Result" ∧ Fld Z h a1 "com/example/syndrome/syndrome/simulate/Simulator$Result" "bits" "J" (.long q2) ∧ Fld Z h a1 "com/example/syndrome/syndrome/simulate/Simulator$Result" "bitErrors" "J" (.long q3))) (kc := 0) (ks := 0) (by first | exact plainFor_of_name (by first | (simp [plainName, overriddenIn]; done) | decide +kernel) | decide +kernel) (Ls := #[.val (.ref a1), .val (.long q2), .second, .val (.long q3), .second, .val (.long q4), .second, .val (.long q5), .second]) (fun m => by first | (simp [entryFrame, mkF, argsToLocals, Value.category]; done) | rfl) ?_
  intro p e s m below meth c s₁ hx hby hml hown hnm hret hlk hZ X0 e0
  have hown : s.vm.findClass "com/example/syndrome/syndrome/simulate/Simulator$Result" = some m.cls := hown
  have hml : c.maxLocals = 9 := hml
  have N0 := Fr.nil n0
  refine Go.aloadN X0.here hx (Jvm.hb hby d3_0) rfl rfl (q := 1) rfl ?_
  refine Go.special X0 hx hZ (y := (⟨"java/lang/Record", "<init>", "()V"⟩ : MethodName)) rfl hown (word hw 15 rfl) (word hw 16 rfl) (word hw 19 rfl) (word hw 18 rfl) (by decide) (rm_rec l Z a0 hw a1 h0 n0 Z0 ) e0 (a := a1) (argsL := []) (rest := []) (W := 0) (Jvm.hb hby d3_1) rfl rfl (lenOf (pd0) rfl) (by rw [hml]; rfl) (Nat.le_of_eq rfl) (by decide) (by decide) (by decide) (by decide) (q := 4) rfl ?_
  intro T101 L101 w101 X101 hQ101
  obtain ⟨rfl, M101, q101⟩ := hQ101
  have N101 := Fr.app N0 M101
  show Go p e below _ (T101.setTop (mkF m 4 #[.val (.ref a1), .val (.long q2), .second, .val (.long q3), .second, .val (.long q4), .second, .val (.long q5), .second] []))
  refine Go.aloadN X101.here hx (Jvm.hb hby d3_4) rfl rfl (q := 5) rfl ?_
  refine Go.lloadN X101.here hx (Jvm.hb hby d3_5) rfl (q := 6) rfl ?_
  refine Go.putf X101 hx hZ hown (word hw 23 rfl) q101 F1 E1 (Or.inr ⟨(word hw 24 rfl), rfl, hnm⟩) (word hw 9 rfl) (ty := .long) (by decide) rfl rfl (Jvm.hb hby d3_6) (q := 9) rfl ?_
  intro T102 h102 X102 e102 W102
  have N102 := Fr.snoc X102 N101 g1
  have F102 := F1.same W102
  refine Go.aloadN X102.here hx (Jvm.hb hby d3_9) rfl rfl (q := 10) rfl ?_
  refine Go.lloadN X102.here hx (Jvm.hb hby d3_10) rfl (q := 11) rfl ?_
  have f104 := F2.other W102 (Or.inr (Jvm.RoadKit.slot_ne (Or.inr (word hw 26 rfl)) (Or.inr (word hw 24 rfl)) (by decide) (t := .long) (t' := .long) (by decide) (by decide)))
  have f105 := E1.wr W102
  refine Go.putf X102 hx hZ hown (word hw 25 rfl) e102 f104 f105 (Or.inr ⟨(word hw 26 rfl), rfl, hnm⟩) (word hw 9 rfl) (ty := .long) (by decide) rfl rfl (Jvm.hb hby d3_11) (q := 14) rfl ?_
  intro T103 h103 X103 e103 W103
  have N103 := Fr.snoc X103 N102 g1
  have F103 := f104.same W103
  refine Go.aloadN X103.here hx (Jvm.hb hby d3_14) rfl rfl (q := 15) rfl ?_
  refine Go.lload X103.here hx (Jvm.hb hby d3_15) rfl (q := 17) rfl ?_
  have f107 := F3.other W102 (Or.inr (Jvm.RoadKit.slot_ne (Or.inr (word hw 28 rfl)) (Or.inr (word hw 24 rfl)) (by decide) (t := .long) (t' := .long) (by decide) (by decide)))
  have f108 := f107.other W103 (Or.inr (Jvm.RoadKit.slot_ne (Or.inr (word hw 28 rfl)) (Or.inr (word hw 26 rfl)) (by decide) (t := .long) (t' := .long) (by decide) (by decide)))
  have f109 := f105.wr W103
  refine Go.putf X103 hx hZ hown (word hw 27 rfl) e103 f108 f109 (Or.inr ⟨(word hw 28 rfl), rfl, hnm⟩) (word hw 9 rfl) (ty := .long) (by decide) rfl rfl (Jvm.hb hby d3_17) (q := 20) rfl ?_
  intro T106 h106 X106 e106 W106
  have N106 := Fr.snoc X106 N103 g1
  have F106 := f108.same W106
  refine Go.aloadN X106.here hx (Jvm.hb hby d3_20) rfl rfl (q := 21) rfl ?_
  refine Go.lload X106.here hx (Jvm.hb hby d3_21) rfl (q := 23) rfl ?_
  have f111 := F4.other W102 (Or.inr (Jvm.RoadKit.slot_ne (Or.inr (word hw 30 rfl)) (Or.inr (word hw 24 rfl)) (by decide) (t := .long) (t' := .long) (by decide) (by decide)))
  have f112 := f111.other W103 (Or.inr (Jvm.RoadKit.slot_ne (Or.inr (word hw 30 rfl)) (Or.inr (word hw 26 rfl)) (by decide) (t := .long) (t' := .long) (by decide) (by decide)))
  have f113 := f112.other W106 (Or.inr (Jvm.RoadKit.slot_ne (Or.inr (word hw 30 rfl)) (Or.inr (word hw 28 rfl)) (by decide) (t := .long) (t' := .long) (by decide) (by decide)))
  have f114 := f109.wr W106
  refine Go.putf X106 hx hZ hown (word hw 29 rfl) e106 f113 f114 (Or.inr ⟨(word hw 30 rfl), rfl, hnm⟩) (word hw 9 rfl) (ty := .long) (by decide) rfl rfl (Jvm.hb hby d3_23) (q := 26) rfl ?_
  intro T110 h110 X110 e110 W110
  have N110 := Fr.snoc X110 N106 g1
  have F110 := f113.same W110
  have k115 : Keep h0 h102 [a1] := (Keep.refl h0 [a1]).wr W102 (Or.inl (List.mem_of_getElem? (i := 0) rfl))
  have k116 : Keep h0 h103 [a1] := k115.wr W103 (Or.inl (List.mem_of_getElem? (i := 0) rfl))
  have k117 : Keep h0 h106 [a1] := k116.wr W106 (Or.inl (List.mem_of_getElem? (i := 0) rfl))
  have k118 : Keep h0 h110 [a1] := k117.wr W110 (Or.inl (List.mem_of_getElem? (i := 0) rfl))
  have f119 := f114.wr W110
  have f120 := F102.other W103 (Or.inr (Jvm.RoadKit.slot_ne (Or.inr (word hw 24 rfl)) (Or.inr (word hw 26 rfl)) (by decide) (t := .long) (t' := .long) (by decide) (by decide)))
  have f121 := f120.other W106 (Or.inr (Jvm.RoadKit.slot_ne (Or.inr (word hw 24 rfl)) (Or.inr (word hw 28 rfl)) (by decide) (t := .long) (t' := .long) (by decide) (by decide)))
  have f122 := f121.other W110 (Or.inr (Jvm.RoadKit.slot_ne (Or.inr (word hw 24 rfl)) (Or.inr (word hw 30 rfl)) (by decide) (t := .long) (t' := .long) (by decide) (by decide)))
  have f123 := F103.other W106 (Or.inr (Jvm.RoadKit.slot_ne (Or.inr (word hw 26 rfl)) (Or.inr (word hw 28 rfl)) (by decide) (t := .long) (t' := .long) (by decide) (by decide)))
  have f124 := f123.other W110 (Or.inr (Jvm.RoadKit.slot_ne (Or.inr (word hw 26 rfl)) (Or.inr (word hw 30 rfl)) (by decide) (t := .long) (t' := .long) (by decide) (by decide)))
  refine Go.retV X110 hx hret hlk (Jvm.hb hby d3_26) (by decide) (by decide) ?_
  rw [e110]
  exact ⟨rfl, N110, k118, f119, f122, f124⟩
theorem d6_0 : decode prog_66_method_2_code 0 = .ok (.aload_n 0, 1) := by decide +kernel
theorem d6_1 : decode prog_66_method_2_code 1 = .ok (.getfield 13, 3) := by decide +kernel
theorem d6_4 : decode prog_66_method_2_code 4 = .ok (.l2d, 1) := by decide +kernel
theorem d6_5 : decode prog_66_method_2_code 5 = .ok (.aload_n 0, 1) := by decide +kernel
theorem d6_6 : decode prog_66_method_2_code 6 = .ok (.getfield 7, 3) := by decide +kernel
theorem d6_9 : decode prog_66_method_2_code 9 = .ok (.l2d, 1) := by decide +kernel
theorem d6_10 : decode prog_66_method_2_code 10 = .ok (.ddiv, 1) := by decide +kernel
theorem d6_11 : decode prog_66_method_2_code 11 = .ok (.dreturn, 1) := by decide +kernel
set_option maxRecDepth 65536 in
set_option maxHeartbeats 40000000 in
theorem rm_rate (l : Launch) (Z : State) (a0 : Array Value) (hw : ∀ d ∈ tables_1, d.before a0 Z = true) (a1 : Addr) (w1 : Int64) (w2 : Int64) (h0 : Heap) (n0 : Nat) (Z0 : n0 ≤ h0.size) (F1 : Fld Z h0 a1 "com/example/syndrome/syndrome/simulate/Simulator$Result" "bits" "J" (.long w1)) (F2 : Fld Z h0 a1 "com/example/syndrome/syndrome/simulate/Simulator$Result" "bitErrors" "J" (.long w2)) (hb : ¬ w1 = 0) :
    Con l Z (⟨"com/example/syndrome/syndrome/simulate/Simulator$Result", "bitErrorRate", "()D"⟩ : MethodName) prog_66_method_2_code 1 (some .double) ({ frames := 0, cells := 0, slots := 0, locals := 0 } : Room) #[(.ref a1)] h0 (fun v h L => v = some (.double (own_rate w2 w1)) ∧ Fr n0 L ∧ h = h0) := by
  refine enter (l := l) (Z := Z) (y := (⟨"com/example/syndrome/syndrome/simulate/Simulator$Result", "bitErrorRate", "()D"⟩ : MethodName)) (bytes := prog_66_method_2_code) (maxL := 1) (ret := (some .double)) (ws := []) (rm := ({ frames := 0, cells := 0, slots := 0, locals := 0 } : Room)) (as' := #[(.ref a1)]) (h0 := h0) (Qv := (fun v h L => v = some (.double (own_rate w2 w1)) ∧ Fr n0 L ∧ h = h0)) (kc := 0) (ks := 0) (by first | exact plainFor_of_name (by first | (simp [plainName, overriddenIn]; done) | decide +kernel) | decide +kernel) (Ls := #[.val (.ref a1)]) (fun m => by first | (simp [entryFrame, mkF, argsToLocals, Value.category]; done) | rfl) ?_
  intro p e s m below meth c s₁ hx hby hml hown hnm hret hlk hZ X0 e0
  have hown : s.vm.findClass "com/example/syndrome/syndrome/simulate/Simulator$Result" = some m.cls := hown
  have hml : c.maxLocals = 1 := hml
  have N0 := Fr.nil n0
  refine Go.aloadN X0.here hx (Jvm.hb hby d6_0) rfl rfl (q := 1) rfl ?_
  refine Go.getf X0 hx hZ hown (word hw 25 rfl) e0 F2 (Jvm.hb hby d6_1) (q := 4) rfl ?_
  intro T101 X101 e101
  obtain ⟨u4, hu4⟩ : ∃ zq, FP.l2d w2 = zq := ⟨_, rfl⟩
  refine Go.l2d X101.here hx (Jvm.hb hby d6_4) hu4 (q := 5) rfl ?_
  refine Go.aloadN X101.here hx (Jvm.hb hby d6_5) rfl rfl (q := 6) rfl ?_
  refine Go.getf X101 hx hZ hown (word hw 23 rfl) e101 F1 (Jvm.hb hby d6_6) (q := 9) rfl ?_
  intro T102 X102 e102
  obtain ⟨u9, hu9⟩ : ∃ zq, FP.l2d w1 = zq := ⟨_, rfl⟩
  refine Go.l2d X102.here hx (Jvm.hb hby d6_9) hu9 (q := 10) rfl ?_
  obtain ⟨u10, hu10⟩ : ∃ zq, FP.ddiv u4 u9 = zq := ⟨_, rfl⟩
  refine Go.ddiv X102.here hx (Jvm.hb hby d6_10) (nn_divl hu4 hu9 hb) hu10 (q := 11) rfl ?_
  refine Go.retD X102 hx hret hlk (Jvm.hb hby d6_11) (by decide) (by decide) ?_
  exact ⟨by rw [own_rate, hu4, hu9, hu10], N0, e102⟩
set_option maxRecDepth 65536 in
set_option maxHeartbeats 40000000 in
theorem rm_law (l : Launch) (Z : State) (a0 : Array Value) (hw : ∀ d ∈ tables_1, d.before a0 Z = true) (ws : List Jvm.Cond) (q1 : Int64) (q2 : Int64) (q3 : Int64) (q4 : Int64) (q5 : Int64) (q6 : Int32) (h0 : Heap) (n0 : Nat) (Z0 : n0 ≤ h0.size)  :
    MetFree l x (head1 (Jvm.Cond.code x code maxLocals ret :: ws) room_1) (fun a U => a = #[(.long q1), (.long q2), (.long q3), (.long q4), (.long q5), (.int q6)] ∧ Z.Warmed39 U.vm ∧ U.heap = h0) (fun _ _ _ _ _ => True) (fun _ U o U' => ∃ v L, o = .returned v ∧ (fun v h L => v = some (.int (1 : Int32)) ∧ Fr n0 L) v U'.heap L ∧ FrameEnd U o U' L 24 128) := by
  refine enter (l := l) (Z := Z) (y := x) (bytes := code) (maxL := maxLocals) (ret := ret) (ws := ws) (rm := room_1) (as' := #[(.long q1), (.long q2), (.long q3), (.long q4), (.long q5), (.int q6)]) (h0 := h0) (Qv := (fun v h L => v = some (.int (1 : Int32)) ∧ Fr n0 L)) (kc := 24) (ks := 128) (by first | exact plainFor_of_name (by first | (simp [plainName, overriddenIn]; done) | decide +kernel) | decide +kernel) (Ls := #[.val (.long q1), .second, .val (.long q2), .second, .val (.long q3), .second, .val (.long q4), .second, .val (.long q5), .second, .val (.int q6), .unset, .unset, .unset, .unset, .unset, .unset, .unset, .unset, .unset, .unset, .unset, .unset, .unset, .unset, .unset, .unset, .unset, .unset, .unset, .unset, .unset, .unset, .unset, .unset, .unset, .unset, .unset, .unset, .unset, .unset, .unset, .unset, .unset, .unset, .unset]) (fun m => by first | (simp [entryFrame, mkF, argsToLocals, Value.category, maxLocals]; done) | rfl) ?_
  intro p e s m below meth c s₁ hx hby hml hown hnm hret hlk hZ X0 e0
  have hown : s.vm.findClass "com/example/syndrome/syndrome/simulate/ResultBitErrorRatePinLaw" = some m.cls := hown
  have hml : c.maxLocals = 46 := hml
  have N0 := Fr.nil n0
  refine Go.ldc2J X0 hx hown (mvT hZ (word hw 0 rfl)) (Jvm.hb hby at_0) (q := 3) rfl ?_
  refine Go.lstore X0.here hx (Jvm.hb hby at_3) (l2 := #[.val (.long q1), .second, .val (.long q2), .second, .val (.long q3), .second, .val (.long q4), .second, .val (.long q5), .second, .val (.int q6), .val (.long (9223372036854775807 : Int64)), .second, .unset, .unset, .unset, .unset, .unset, .unset, .unset, .unset, .unset, .unset, .unset, .unset, .unset, .unset, .unset, .unset, .unset, .unset, .unset, .unset, .unset, .unset, .unset, .unset, .unset, .unset, .unset, .unset, .unset, .unset, .unset, .unset, .unset]) rfl (q := 5) rfl ?_
  refine Go.lconst X0.here hx (Jvm.hb hby at_5) (v := (1 : Int64)) rfl (q := 6) rfl ?_
  refine Go.lload X0.here hx (Jvm.hb hby at_6) rfl (q := 8) rfl ?_
  refine Go.lload X0.here hx (Jvm.hb hby at_8) rfl (q := 10) rfl ?_
  obtain ⟨u10, hu10⟩ : ∃ zq, q3 &&& (9223372036854775807 : Int64) = zq := ⟨_, rfl⟩
  refine Go.land X0.here hx (Jvm.hb hby at_10) hu10 (q := 11) rfl ?_
  refine Go.lload X0.here hx (Jvm.hb hby at_11) rfl (q := 13) rfl ?_
  obtain ⟨u13, hu13⟩ : ∃ zq, u10 - (u10 / (9223372036854775807 : Int64)) * (9223372036854775807 : Int64) = zq := ⟨_, rfl⟩
  refine Go.lrem X0.here hx (Jvm.hb hby at_13) (by decide) hu13 (q := 14) rfl ?_
  obtain ⟨bits, hbits⟩ : ∃ zq, (1 : Int64) + u13 = zq := ⟨_, rfl⟩
  refine Go.ladd X0.here hx (Jvm.hb hby at_14) hbits (q := 15) rfl ?_
  have hB := own_b hu10 hu13 hbits
  refine Go.lstore X0.here hx (Jvm.hb hby at_15) (l2 := #[.val (.long q1), .second, .val (.long q2), .second, .val (.long q3), .second, .val (.long q4), .second, .val (.long q5), .second, .val (.int q6), .val (.long (9223372036854775807 : Int64)), .second, .val (.long bits), .second, .unset, .unset, .unset, .unset, .unset, .unset, .unset, .unset, .unset, .unset, .unset, .unset, .unset, .unset, .unset, .unset, .unset, .unset, .unset, .unset, .unset, .unset, .unset, .unset, .unset, .unset, .unset, .unset, .unset, .unset, .unset]) rfl (q := 17) rfl ?_
  refine Go.lload X0.here hx (Jvm.hb hby at_17) rfl (q := 19) rfl ?_
  refine Go.lconst X0.here hx (Jvm.hb hby at_19) (v := (1 : Int64)) rfl (q := 20) rfl ?_
  refine Go.lload X0.here hx (Jvm.hb hby at_20) rfl (q := 22) rfl ?_
  refine Go.lload X0.here hx (Jvm.hb hby at_22) rfl (q := 24) rfl ?_
  obtain ⟨u24, hu24⟩ : ∃ zq, q4 &&& (9223372036854775807 : Int64) = zq := ⟨_, rfl⟩
  refine Go.land X0.here hx (Jvm.hb hby at_24) hu24 (q := 25) rfl ?_
  refine Go.lload X0.here hx (Jvm.hb hby at_25) rfl (q := 27) rfl ?_
  obtain ⟨u27, hu27⟩ : ∃ zq, u24 - (u24 / (9223372036854775807 : Int64)) * (9223372036854775807 : Int64) = zq := ⟨_, rfl⟩
  refine Go.lrem X0.here hx (Jvm.hb hby at_27) (by decide) hu27 (q := 28) rfl ?_
  obtain ⟨u28, hu28⟩ : ∃ zq, (1 : Int64) + u27 = zq := ⟨_, rfl⟩
  refine Go.ladd X0.here hx (Jvm.hb hby at_28) hu28 (q := 29) rfl ?_
  refine Go.static X0 hx hZ (y := (⟨"java/lang/Math", "max", "(JJ)J"⟩ : MethodName)) hown (word hw 1 rfl) (word hw 2 rfl) (word hw 4 rfl) (word hw 3 rfl) (by decide) (rm_max l Z a0 hw bits u28 h0 n0 Z0 ) e0  (argsL := [(.long bits), (.long u28)]) (rest := []) (W := 0) (Jvm.hb hby at_29) rfl rfl (lenOf (pd1) rfl) (by rw [hml]; rfl) (Nat.le_of_eq rfl) (by decide) (by decide) (by decide) (by decide) (q := 32) rfl ?_
  intro T101 L101 w101 X101 hQ101
  obtain ⟨rfl, M101, q101⟩ := hQ101
  have N101 := Fr.app N0 M101
  show Go p e below _ (T101.setTop (mkF m 32 #[.val (.long q1), .second, .val (.long q2), .second, .val (.long q3), .second, .val (.long q4), .second, .val (.long q5), .second, .val (.int q6), .val (.long (9223372036854775807 : Int64)), .second, .val (.long bits), .second, .unset, .unset, .unset, .unset, .unset, .unset, .unset, .unset, .unset, .unset, .unset, .unset, .unset, .unset, .unset, .unset, .unset, .unset, .unset, .unset, .unset, .unset, .unset, .unset, .unset, .unset, .unset, .unset, .unset, .unset, .unset] [(.long (own_max bits u28))]))
  obtain ⟨big, hbig⟩ : ∃ zq, (own_max bits u28) = zq := ⟨_, rfl⟩
  rw [hbig]
  have hBig : bits.toInt ≤ big.toInt := hbig ▸ (own_max_v _ _).1
  refine Go.lstore X101.here hx (Jvm.hb hby at_32) (l2 := #[.val (.long q1), .second, .val (.long q2), .second, .val (.long q3), .second, .val (.long q4), .second, .val (.long q5), .second, .val (.int q6), .val (.long (9223372036854775807 : Int64)), .second, .val (.long bits), .second, .val (.long big), .second, .unset, .unset, .unset, .unset, .unset, .unset, .unset, .unset, .unset, .unset, .unset, .unset, .unset, .unset, .unset, .unset, .unset, .unset, .unset, .unset, .unset, .unset, .unset, .unset, .unset, .unset, .unset, .unset, .unset]) rfl (q := 34) rfl ?_
  refine Go.lloadN X101.here hx (Jvm.hb hby at_34) rfl (q := 35) rfl ?_
  refine Go.lload X101.here hx (Jvm.hb hby at_35) rfl (q := 37) rfl ?_
  obtain ⟨u37, hu37⟩ : ∃ zq, q1 &&& (9223372036854775807 : Int64) = zq := ⟨_, rfl⟩
  refine Go.land X101.here hx (Jvm.hb hby at_37) hu37 (q := 38) rfl ?_
  refine Go.lload X101.here hx (Jvm.hb hby at_38) rfl (q := 40) rfl ?_
  obtain ⟨av, hav⟩ : ∃ zq, u37 - (u37 / bits) * bits = zq := ⟨_, rfl⟩
  refine Go.lrem X101.here hx (Jvm.hb hby at_40) (own_nz hB) hav (q := 41) rfl ?_
  have hA := own_r hu37 hB hav
  refine Go.lstore X101.here hx (Jvm.hb hby at_41) (l2 := #[.val (.long q1), .second, .val (.long q2), .second, .val (.long q3), .second, .val (.long q4), .second, .val (.long q5), .second, .val (.int q6), .val (.long (9223372036854775807 : Int64)), .second, .val (.long bits), .second, .val (.long big), .second, .val (.long av), .second, .unset, .unset, .unset, .unset, .unset, .unset, .unset, .unset, .unset, .unset, .unset, .unset, .unset, .unset, .unset, .unset, .unset, .unset, .unset, .unset, .unset, .unset, .unset, .unset, .unset, .unset, .unset]) rfl (q := 43) rfl ?_
  refine Go.lloadN X101.here hx (Jvm.hb hby at_43) rfl (q := 44) rfl ?_
  refine Go.lload X101.here hx (Jvm.hb hby at_44) rfl (q := 46) rfl ?_
  obtain ⟨u46, hu46⟩ : ∃ zq, q2 &&& (9223372036854775807 : Int64) = zq := ⟨_, rfl⟩
  refine Go.land X101.here hx (Jvm.hb hby at_46) hu46 (q := 47) rfl ?_
  refine Go.lload X101.here hx (Jvm.hb hby at_47) rfl (q := 49) rfl ?_
  obtain ⟨u49, hu49⟩ : ∃ zq, u46 - (u46 / bits) * bits = zq := ⟨_, rfl⟩
  refine Go.lrem X101.here hx (Jvm.hb hby at_49) (own_nz hB) hu49 (q := 50) rfl ?_
  have hC := own_r hu46 hB hu49
  refine Go.lstore X101.here hx (Jvm.hb hby at_50) (l2 := #[.val (.long q1), .second, .val (.long q2), .second, .val (.long q3), .second, .val (.long q4), .second, .val (.long q5), .second, .val (.int q6), .val (.long (9223372036854775807 : Int64)), .second, .val (.long bits), .second, .val (.long big), .second, .val (.long av), .second, .val (.long u49), .second, .unset, .unset, .unset, .unset, .unset, .unset, .unset, .unset, .unset, .unset, .unset, .unset, .unset, .unset, .unset, .unset, .unset, .unset, .unset, .unset, .unset, .unset, .unset, .unset, .unset]) rfl (q := 52) rfl ?_
  refine Go.iload X101.here hx (Jvm.hb hby at_52) rfl (q := 54) rfl ?_
  refine Go.iconst X101.here hx (Jvm.hb hby at_54) (v := (1 : Int32)) rfl (q := 55) rfl ?_
  obtain ⟨u55, hu55⟩ : ∃ zq, q6 &&& (1 : Int32) = zq := ⟨_, rfl⟩
  refine Go.iand X101.here hx (Jvm.hb hby at_55) hu55 (q := 56) rfl ?_
  have J63 : ∀ (cc : Int64), (0 ≤ cc.toInt ∧ cc.toInt ≤ bits.toInt) → Go p e below (Ret s (fun v h L => v = some (.int (1 : Int32)) ∧ Fr n0 L) 24 128) (T101.setTop (mkF m 63 #[.val (.long q1), .second, .val (.long q2), .second, .val (.long q3), .second, .val (.long q4), .second, .val (.long q5), .second, .val (.int q6), .val (.long (9223372036854775807 : Int64)), .second, .val (.long bits), .second, .val (.long big), .second, .val (.long av), .second, .val (.long cc), .second, .unset, .unset, .unset, .unset, .unset, .unset, .unset, .unset, .unset, .unset, .unset, .unset, .unset, .unset, .unset, .unset, .unset, .unset, .unset, .unset, .unset, .unset, .unset, .unset, .unset] [])) := by
    intro cc hcc
    refine Go.lload X101.here hx (Jvm.hb hby at_63) rfl (q := 65) rfl ?_
    refine Go.lload X101.here hx (Jvm.hb hby at_65) rfl (q := 67) rfl ?_
    refine Go.static X101 hx hZ (y := (⟨"java/lang/Math", "min", "(JJ)J"⟩ : MethodName)) hown (word hw 5 rfl) (word hw 6 rfl) (word hw 7 rfl) (word hw 3 rfl) (by decide) (rm_min l Z a0 hw av cc h0 n0 Z0 ) q101  (argsL := [(.long av), (.long cc)]) (rest := []) (W := 0) (Jvm.hb hby at_67) rfl rfl (lenOf (pd1) rfl) (by rw [hml]; rfl) (Nat.le_of_eq rfl) (by decide) (by decide) (by decide) (by decide) (q := 70) rfl ?_
    intro T102 L102 w102 X102 hQ102
    obtain ⟨rfl, M102, q102⟩ := hQ102
    have N102 := Fr.app N101 M102
    show Go p e below _ (T102.setTop (mkF m 70 #[.val (.long q1), .second, .val (.long q2), .second, .val (.long q3), .second, .val (.long q4), .second, .val (.long q5), .second, .val (.int q6), .val (.long (9223372036854775807 : Int64)), .second, .val (.long bits), .second, .val (.long big), .second, .val (.long av), .second, .val (.long cc), .second, .unset, .unset, .unset, .unset, .unset, .unset, .unset, .unset, .unset, .unset, .unset, .unset, .unset, .unset, .unset, .unset, .unset, .unset, .unset, .unset, .unset, .unset, .unset, .unset, .unset] [(.long (own_min av cc))]))
    obtain ⟨lo, hlo⟩ : ∃ zq, (own_min av cc) = zq := ⟨_, rfl⟩
    rw [hlo]
    refine Go.lstore X102.here hx (Jvm.hb hby at_70) (l2 := #[.val (.long q1), .second, .val (.long q2), .second, .val (.long q3), .second, .val (.long q4), .second, .val (.long q5), .second, .val (.int q6), .val (.long (9223372036854775807 : Int64)), .second, .val (.long bits), .second, .val (.long big), .second, .val (.long av), .second, .val (.long cc), .second, .val (.long lo), .second, .unset, .unset, .unset, .unset, .unset, .unset, .unset, .unset, .unset, .unset, .unset, .unset, .unset, .unset, .unset, .unset, .unset, .unset, .unset, .unset, .unset, .unset, .unset]) rfl (q := 72) rfl ?_
    refine Go.lload X102.here hx (Jvm.hb hby at_72) rfl (q := 74) rfl ?_
    refine Go.lload X102.here hx (Jvm.hb hby at_74) rfl (q := 76) rfl ?_
    refine Go.static X102 hx hZ (y := (⟨"java/lang/Math", "max", "(JJ)J"⟩ : MethodName)) hown (word hw 1 rfl) (word hw 2 rfl) (word hw 4 rfl) (word hw 3 rfl) (by decide) (rm_max l Z a0 hw av cc h0 n0 Z0 ) q102  (argsL := [(.long av), (.long cc)]) (rest := []) (W := 0) (Jvm.hb hby at_76) rfl rfl (lenOf (pd1) rfl) (by rw [hml]; rfl) (Nat.le_of_eq rfl) (by decide) (by decide) (by decide) (by decide) (q := 79) rfl ?_
    intro T103 L103 w103 X103 hQ103
    obtain ⟨rfl, M103, q103⟩ := hQ103
    have N103 := Fr.app N102 M103
    show Go p e below _ (T103.setTop (mkF m 79 #[.val (.long q1), .second, .val (.long q2), .second, .val (.long q3), .second, .val (.long q4), .second, .val (.long q5), .second, .val (.int q6), .val (.long (9223372036854775807 : Int64)), .second, .val (.long bits), .second, .val (.long big), .second, .val (.long av), .second, .val (.long cc), .second, .val (.long lo), .second, .unset, .unset, .unset, .unset, .unset, .unset, .unset, .unset, .unset, .unset, .unset, .unset, .unset, .unset, .unset, .unset, .unset, .unset, .unset, .unset, .unset, .unset, .unset] [(.long (own_max av cc))]))
    obtain ⟨hi, hhi⟩ : ∃ zq, (own_max av cc) = zq := ⟨_, rfl⟩
    rw [hhi]
    have v1 := own_min_v av cc
    rw [hlo] at v1
    have v2 := own_max_v av cc
    rw [hhi] at v2
    refine Go.lstore X103.here hx (Jvm.hb hby at_79) (l2 := #[.val (.long q1), .second, .val (.long q2), .second, .val (.long q3), .second, .val (.long q4), .second, .val (.long q5), .second, .val (.int q6), .val (.long (9223372036854775807 : Int64)), .second, .val (.long bits), .second, .val (.long big), .second, .val (.long av), .second, .val (.long cc), .second, .val (.long lo), .second, .val (.long hi), .second, .unset, .unset, .unset, .unset, .unset, .unset, .unset, .unset, .unset, .unset, .unset, .unset, .unset, .unset, .unset, .unset, .unset, .unset, .unset, .unset, .unset]) rfl (q := 81) rfl ?_
    refine Go.iload X103.here hx (Jvm.hb hby at_81) rfl (q := 83) rfl ?_
    refine Go.iconst X103.here hx (Jvm.hb hby at_83) (v := (1 : Int32)) rfl (q := 84) rfl ?_
    obtain ⟨u84, hu84⟩ : ∃ zq, (Int32.toUInt32 q6 >>> Int32.toUInt32 ((1 : Int32) &&& 31)).toInt32 = zq := ⟨_, rfl⟩
    refine Go.iushr X103.here hx (Jvm.hb hby at_84) hu84 (q := 85) rfl ?_
    refine Go.bipush X103.here hx (Jvm.hb hby at_85) (v := (63 : Int32)) rfl (q := 87) rfl ?_
    obtain ⟨kx, hkx⟩ : ∃ zq, u84 - (u84 / (63 : Int32)) * (63 : Int32) = zq := ⟨_, rfl⟩
    refine Go.irem X103.here hx (Jvm.hb hby at_87) (by decide) hkx (q := 88) rfl ?_
    refine Go.istore X103.here hx (Jvm.hb hby at_88) (l2 := #[.val (.long q1), .second, .val (.long q2), .second, .val (.long q3), .second, .val (.long q4), .second, .val (.long q5), .second, .val (.int q6), .val (.long (9223372036854775807 : Int64)), .second, .val (.long bits), .second, .val (.long big), .second, .val (.long av), .second, .val (.long cc), .second, .val (.long lo), .second, .val (.long hi), .second, .val (.int kx), .unset, .unset, .unset, .unset, .unset, .unset, .unset, .unset, .unset, .unset, .unset, .unset, .unset, .unset, .unset, .unset, .unset, .unset, .unset, .unset]) rfl (q := 90) rfl ?_
    refine Go.lconst X103.here hx (Jvm.hb hby at_90) (v := (1 : Int64)) rfl (q := 91) rfl ?_
    refine Go.iload X103.here hx (Jvm.hb hby at_91) rfl (q := 93) rfl ?_
    obtain ⟨pw, hpw⟩ : ∃ zq, (1 : Int64) <<< Int32.toInt64 (kx &&& 0x3f) = zq := ⟨_, rfl⟩
    refine Go.lshl X103.here hx (Jvm.hb hby at_93) hpw (q := 94) rfl ?_
    obtain ⟨k, hk, hpk, hp1⟩ := own_pw hu84 hkx hpw
    refine Go.lstore X103.here hx (Jvm.hb hby at_94) (l2 := #[.val (.long q1), .second, .val (.long q2), .second, .val (.long q3), .second, .val (.long q4), .second, .val (.long q5), .second, .val (.int q6), .val (.long (9223372036854775807 : Int64)), .second, .val (.long bits), .second, .val (.long big), .second, .val (.long av), .second, .val (.long cc), .second, .val (.long lo), .second, .val (.long hi), .second, .val (.int kx), .val (.long pw), .second, .unset, .unset, .unset, .unset, .unset, .unset, .unset, .unset, .unset, .unset, .unset, .unset, .unset, .unset, .unset, .unset, .unset, .unset]) rfl (q := 96) rfl ?_
    refine Go.lloadN X103.here hx (Jvm.hb hby at_96) rfl (q := 97) rfl ?_
    refine Go.lload X103.here hx (Jvm.hb hby at_97) rfl (q := 99) rfl ?_
    obtain ⟨u99, hu99⟩ : ∃ zq, q1 &&& (9223372036854775807 : Int64) = zq := ⟨_, rfl⟩
    refine Go.land X103.here hx (Jvm.hb hby at_99) hu99 (q := 100) rfl ?_
    refine Go.lload X103.here hx (Jvm.hb hby at_100) rfl (q := 102) rfl ?_
    obtain ⟨ep, hep⟩ : ∃ zq, u99 - (u99 / pw) * pw = zq := ⟨_, rfl⟩
    refine Go.lrem X103.here hx (Jvm.hb hby at_102) (own_nz hp1) hep (q := 103) rfl ?_
    have hE := own_r hu99 hp1 hep
    refine Go.lstore X103.here hx (Jvm.hb hby at_103) (l2 := #[.val (.long q1), .second, .val (.long q2), .second, .val (.long q3), .second, .val (.long q4), .second, .val (.long q5), .second, .val (.int q6), .val (.long (9223372036854775807 : Int64)), .second, .val (.long bits), .second, .val (.long big), .second, .val (.long av), .second, .val (.long cc), .second, .val (.long lo), .second, .val (.long hi), .second, .val (.int kx), .val (.long pw), .second, .val (.long ep), .second, .unset, .unset, .unset, .unset, .unset, .unset, .unset, .unset, .unset, .unset, .unset, .unset, .unset, .unset, .unset, .unset]) rfl (q := 105) rfl ?_
    refine Go.new X103 hx hZ hown (word hw 8 rfl) (word hw 9 rfl) (word hw 10 rfl) q103 (Jvm.hb hby at_105) (by decide) (by decide) (q := 108) rfl ?_
    intro T104 h104 a104 g104 X104 e104 E104 A104 D104
    have r105 : n0 ≤ a104 := Nat.le_trans Z0 (Nat.le_of_eq g104.symm)
    have F106 : Fld Z h104 a104 "com/example/syndrome/syndrome/simulate/Simulator$Result" "bits" "J" (.long (0 : Int64)) := D104 (Or.inr (word hw 24 rfl)) (ty := .long) (by decide)
    have F107 : Fld Z h104 a104 "com/example/syndrome/syndrome/simulate/Simulator$Result" "bitErrors" "J" (.long (0 : Int64)) := D104 (Or.inr (word hw 26 rfl)) (ty := .long) (by decide)
    have F108 : Fld Z h104 a104 "com/example/syndrome/syndrome/simulate/Simulator$Result" "frames" "J" (.long (0 : Int64)) := D104 (Or.inr (word hw 28 rfl)) (ty := .long) (by decide)
    have F109 : Fld Z h104 a104 "com/example/syndrome/syndrome/simulate/Simulator$Result" "frameErrors" "J" (.long (0 : Int64)) := D104 (Or.inr (word hw 30 rfl)) (ty := .long) (by decide)
    refine Go.dup X104.here hx (Jvm.hb hby at_108) rfl (q := 109) rfl ?_
    refine Go.lload X104.here hx (Jvm.hb hby at_109) rfl (q := 111) rfl ?_
    refine Go.lload X104.here hx (Jvm.hb hby at_111) rfl (q := 113) rfl ?_
    refine Go.lload X104.here hx (Jvm.hb hby at_113) rfl (q := 115) rfl ?_
    refine Go.lload X104.here hx (Jvm.hb hby at_115) rfl (q := 117) rfl ?_
    refine Go.ldc2J X104 hx hown (mvT hZ (word hw 11 rfl)) (Jvm.hb hby at_117) (q := 120) rfl ?_
    obtain ⟨u120, hu120⟩ : ∃ zq, q5 ^^^ (-1 : Int64) = zq := ⟨_, rfl⟩
    refine Go.lxor X104.here hx (Jvm.hb hby at_120) hu120 (q := 121) rfl ?_
    have z111 : n0 ≤ h104.size := Nat.le_trans Z0 E104.1
    refine Go.special X104 hx hZ (y := (⟨"com/example/syndrome/syndrome/simulate/Simulator$Result", "<init>", "(JJJJ)V"⟩ : MethodName)) rfl hown (word hw 12 rfl) (word hw 13 rfl) (word hw 14 rfl) (word hw 10 rfl) (by decide) (rm_init l Z a0 hw a104 bits hi q5 u120 (.long (0 : Int64)) (.long (0 : Int64)) (.long (0 : Int64)) (.long (0 : Int64)) h104 n0 z111 A104 F106 F107 F108 F109 r105) e104 (a := a104) (argsL := [(.long bits), (.long hi), (.long q5), (.long u120)]) (rest := [(.ref a104)]) (W := 1) (Jvm.hb hby at_121) rfl rfl (lenOf (pd2) rfl) (by rw [hml]; rfl) (Nat.le_of_eq rfl) (by decide) (by decide) (by decide) (by decide) (q := 124) rfl ?_
    intro T110 L110 w110 X110 hQ110
    obtain ⟨rfl, M110, K110, P110_0, P110_1, P110_2⟩ := hQ110
    have N110 := Fr.app N103 M110
    show Go p e below _ (T110.setTop (mkF m 124 #[.val (.long q1), .second, .val (.long q2), .second, .val (.long q3), .second, .val (.long q4), .second, .val (.long q5), .second, .val (.int q6), .val (.long (9223372036854775807 : Int64)), .second, .val (.long bits), .second, .val (.long big), .second, .val (.long av), .second, .val (.long cc), .second, .val (.long lo), .second, .val (.long hi), .second, .val (.int kx), .val (.long pw), .second, .val (.long ep), .second, .unset, .unset, .unset, .unset, .unset, .unset, .unset, .unset, .unset, .unset, .unset, .unset, .unset, .unset, .unset, .unset] [(.ref a104)]))
    have z113 : n0 ≤ T110.heap.size := Nat.le_trans z111 K110.1
    refine Go.virtual X110 hx hZ (y := (⟨"com/example/syndrome/syndrome/simulate/Simulator$Result", "bitErrorRate", "()D"⟩ : MethodName)) hown (word hw 31 rfl) (word hw 32 rfl) (word hw 34 rfl) (word hw 33 rfl) (word hw 35 rfl) (word hw 10 rfl) (by decide) (rm_rate l Z a0 hw a104 bits hi T110.heap n0 z113 P110_1 P110_2 (own_nz hB)) rfl P110_0  (argsL := []) (rest := []) (W := 0) (Jvm.hb hby at_124) rfl rfl (lenOf (pd3) rfl) (by rw [hml]; rfl) (Nat.le_of_eq rfl) (by decide) (by decide) (by decide) (by decide) (q := 127) rfl ?_
    intro T112 L112 w112 X112 hQ112
    obtain ⟨rfl, M112, q112⟩ := hQ112
    have N112 := Fr.app N110 M112
    show Go p e below _ (T112.setTop (mkF m 127 #[.val (.long q1), .second, .val (.long q2), .second, .val (.long q3), .second, .val (.long q4), .second, .val (.long q5), .second, .val (.int q6), .val (.long (9223372036854775807 : Int64)), .second, .val (.long bits), .second, .val (.long big), .second, .val (.long av), .second, .val (.long cc), .second, .val (.long lo), .second, .val (.long hi), .second, .val (.int kx), .val (.long pw), .second, .val (.long ep), .second, .unset, .unset, .unset, .unset, .unset, .unset, .unset, .unset, .unset, .unset, .unset, .unset, .unset, .unset, .unset, .unset] [(.double (own_rate hi bits))]))
    obtain ⟨r1, hr1⟩ : ∃ zq, (own_rate hi bits) = zq := ⟨_, rfl⟩
    rw [hr1]
    refine Go.dstore X112.here hx (Jvm.hb hby at_127) (l2 := #[.val (.long q1), .second, .val (.long q2), .second, .val (.long q3), .second, .val (.long q4), .second, .val (.long q5), .second, .val (.int q6), .val (.long (9223372036854775807 : Int64)), .second, .val (.long bits), .second, .val (.long big), .second, .val (.long av), .second, .val (.long cc), .second, .val (.long lo), .second, .val (.long hi), .second, .val (.int kx), .val (.long pw), .second, .val (.long ep), .second, .val (.double r1), .second, .unset, .unset, .unset, .unset, .unset, .unset, .unset, .unset, .unset, .unset, .unset, .unset, .unset, .unset]) rfl (q := 129) rfl ?_
    refine Go.new X112 hx hZ hown (word hw 8 rfl) (word hw 9 rfl) (word hw 10 rfl) q112 (Jvm.hb hby at_129) (by decide) (by decide) (q := 132) rfl ?_
    intro T114 h114 a114 g114 X114 e114 E114 A114 D114
    have r115 : n0 ≤ a114 := Nat.le_trans z113 (Nat.le_of_eq g114.symm)
    have F116 : Fld Z h114 a114 "com/example/syndrome/syndrome/simulate/Simulator$Result" "bits" "J" (.long (0 : Int64)) := D114 (Or.inr (word hw 24 rfl)) (ty := .long) (by decide)
    have F117 : Fld Z h114 a114 "com/example/syndrome/syndrome/simulate/Simulator$Result" "bitErrors" "J" (.long (0 : Int64)) := D114 (Or.inr (word hw 26 rfl)) (ty := .long) (by decide)
    have F118 : Fld Z h114 a114 "com/example/syndrome/syndrome/simulate/Simulator$Result" "frames" "J" (.long (0 : Int64)) := D114 (Or.inr (word hw 28 rfl)) (ty := .long) (by decide)
    have F119 : Fld Z h114 a114 "com/example/syndrome/syndrome/simulate/Simulator$Result" "frameErrors" "J" (.long (0 : Int64)) := D114 (Or.inr (word hw 30 rfl)) (ty := .long) (by decide)
    refine Go.dup X114.here hx (Jvm.hb hby at_132) rfl (q := 133) rfl ?_
    refine Go.lload X114.here hx (Jvm.hb hby at_133) rfl (q := 135) rfl ?_
    refine Go.lload X114.here hx (Jvm.hb hby at_135) rfl (q := 137) rfl ?_
    refine Go.lload X114.here hx (Jvm.hb hby at_137) rfl (q := 139) rfl ?_
    refine Go.ldc2J X114 hx hown (mvT hZ (word hw 11 rfl)) (Jvm.hb hby at_139) (q := 142) rfl ?_
    obtain ⟨u142, hu142⟩ : ∃ zq, q5 ^^^ (-1 : Int64) = zq := ⟨_, rfl⟩
    refine Go.lxor X114.here hx (Jvm.hb hby at_142) hu142 (q := 143) rfl ?_
    refine Go.lload X114.here hx (Jvm.hb hby at_143) rfl (q := 145) rfl ?_
    have z121 : n0 ≤ h114.size := Nat.le_trans z113 E114.1
    refine Go.special X114 hx hZ (y := (⟨"com/example/syndrome/syndrome/simulate/Simulator$Result", "<init>", "(JJJJ)V"⟩ : MethodName)) rfl hown (word hw 12 rfl) (word hw 13 rfl) (word hw 14 rfl) (word hw 10 rfl) (by decide) (rm_init l Z a0 hw a114 bits hi u142 q5 (.long (0 : Int64)) (.long (0 : Int64)) (.long (0 : Int64)) (.long (0 : Int64)) h114 n0 z121 A114 F116 F117 F118 F119 r115) e114 (a := a114) (argsL := [(.long bits), (.long hi), (.long u142), (.long q5)]) (rest := [(.ref a114)]) (W := 1) (Jvm.hb hby at_145) rfl rfl (lenOf (pd2) rfl) (by rw [hml]; rfl) (Nat.le_of_eq rfl) (by decide) (by decide) (by decide) (by decide) (q := 148) rfl ?_
    intro T120 L120 w120 X120 hQ120
    obtain ⟨rfl, M120, K120, P120_0, P120_1, P120_2⟩ := hQ120
    have N120 := Fr.app N112 M120
    show Go p e below _ (T120.setTop (mkF m 148 #[.val (.long q1), .second, .val (.long q2), .second, .val (.long q3), .second, .val (.long q4), .second, .val (.long q5), .second, .val (.int q6), .val (.long (9223372036854775807 : Int64)), .second, .val (.long bits), .second, .val (.long big), .second, .val (.long av), .second, .val (.long cc), .second, .val (.long lo), .second, .val (.long hi), .second, .val (.int kx), .val (.long pw), .second, .val (.long ep), .second, .val (.double r1), .second, .unset, .unset, .unset, .unset, .unset, .unset, .unset, .unset, .unset, .unset, .unset, .unset, .unset, .unset] [(.ref a114)]))
    have z123 : n0 ≤ T120.heap.size := Nat.le_trans z121 K120.1
    refine Go.virtual X120 hx hZ (y := (⟨"com/example/syndrome/syndrome/simulate/Simulator$Result", "bitErrorRate", "()D"⟩ : MethodName)) hown (word hw 31 rfl) (word hw 32 rfl) (word hw 34 rfl) (word hw 33 rfl) (word hw 35 rfl) (word hw 10 rfl) (by decide) (rm_rate l Z a0 hw a114 bits hi T120.heap n0 z123 P120_1 P120_2 (own_nz hB)) rfl P120_0  (argsL := []) (rest := []) (W := 0) (Jvm.hb hby at_148) rfl rfl (lenOf (pd3) rfl) (by rw [hml]; rfl) (Nat.le_of_eq rfl) (by decide) (by decide) (by decide) (by decide) (q := 151) rfl ?_
    intro T122 L122 w122 X122 hQ122
    obtain ⟨rfl, M122, q122⟩ := hQ122
    have N122 := Fr.app N120 M122
    show Go p e below _ (T122.setTop (mkF m 151 #[.val (.long q1), .second, .val (.long q2), .second, .val (.long q3), .second, .val (.long q4), .second, .val (.long q5), .second, .val (.int q6), .val (.long (9223372036854775807 : Int64)), .second, .val (.long bits), .second, .val (.long big), .second, .val (.long av), .second, .val (.long cc), .second, .val (.long lo), .second, .val (.long hi), .second, .val (.int kx), .val (.long pw), .second, .val (.long ep), .second, .val (.double r1), .second, .unset, .unset, .unset, .unset, .unset, .unset, .unset, .unset, .unset, .unset, .unset, .unset, .unset, .unset] [(.double (own_rate hi bits))]))
    obtain ⟨r2, hr2⟩ : ∃ zq, (own_rate hi bits) = zq := ⟨_, rfl⟩
    rw [hr2]
    refine Go.dstore X122.here hx (Jvm.hb hby at_151) (l2 := #[.val (.long q1), .second, .val (.long q2), .second, .val (.long q3), .second, .val (.long q4), .second, .val (.long q5), .second, .val (.int q6), .val (.long (9223372036854775807 : Int64)), .second, .val (.long bits), .second, .val (.long big), .second, .val (.long av), .second, .val (.long cc), .second, .val (.long lo), .second, .val (.long hi), .second, .val (.int kx), .val (.long pw), .second, .val (.long ep), .second, .val (.double r1), .second, .val (.double r2), .second, .unset, .unset, .unset, .unset, .unset, .unset, .unset, .unset, .unset, .unset, .unset, .unset]) rfl (q := 153) rfl ?_
    refine Go.new X122 hx hZ hown (word hw 8 rfl) (word hw 9 rfl) (word hw 10 rfl) q122 (Jvm.hb hby at_153) (by decide) (by decide) (q := 156) rfl ?_
    intro T124 h124 a124 g124 X124 e124 E124 A124 D124
    have r125 : n0 ≤ a124 := Nat.le_trans z123 (Nat.le_of_eq g124.symm)
    have F126 : Fld Z h124 a124 "com/example/syndrome/syndrome/simulate/Simulator$Result" "bits" "J" (.long (0 : Int64)) := D124 (Or.inr (word hw 24 rfl)) (ty := .long) (by decide)
    have F127 : Fld Z h124 a124 "com/example/syndrome/syndrome/simulate/Simulator$Result" "bitErrors" "J" (.long (0 : Int64)) := D124 (Or.inr (word hw 26 rfl)) (ty := .long) (by decide)
    have F128 : Fld Z h124 a124 "com/example/syndrome/syndrome/simulate/Simulator$Result" "frames" "J" (.long (0 : Int64)) := D124 (Or.inr (word hw 28 rfl)) (ty := .long) (by decide)
    have F129 : Fld Z h124 a124 "com/example/syndrome/syndrome/simulate/Simulator$Result" "frameErrors" "J" (.long (0 : Int64)) := D124 (Or.inr (word hw 30 rfl)) (ty := .long) (by decide)
    refine Go.dup X124.here hx (Jvm.hb hby at_156) rfl (q := 157) rfl ?_
    refine Go.lload X124.here hx (Jvm.hb hby at_157) rfl (q := 159) rfl ?_
    refine Go.lload X124.here hx (Jvm.hb hby at_159) rfl (q := 161) rfl ?_
    refine Go.lconst X124.here hx (Jvm.hb hby at_161) (v := (0 : Int64)) rfl (q := 162) rfl ?_
    refine Go.lconst X124.here hx (Jvm.hb hby at_162) (v := (0 : Int64)) rfl (q := 163) rfl ?_
    have z131 : n0 ≤ h124.size := Nat.le_trans z123 E124.1
    refine Go.special X124 hx hZ (y := (⟨"com/example/syndrome/syndrome/simulate/Simulator$Result", "<init>", "(JJJJ)V"⟩ : MethodName)) rfl hown (word hw 12 rfl) (word hw 13 rfl) (word hw 14 rfl) (word hw 10 rfl) (by decide) (rm_init l Z a0 hw a124 bits lo (0 : Int64) (0 : Int64) (.long (0 : Int64)) (.long (0 : Int64)) (.long (0 : Int64)) (.long (0 : Int64)) h124 n0 z131 A124 F126 F127 F128 F129 r125) e124 (a := a124) (argsL := [(.long bits), (.long lo), (.long (0 : Int64)), (.long (0 : Int64))]) (rest := [(.ref a124)]) (W := 1) (Jvm.hb hby at_163) rfl rfl (lenOf (pd2) rfl) (by rw [hml]; rfl) (Nat.le_of_eq rfl) (by decide) (by decide) (by decide) (by decide) (q := 166) rfl ?_
    intro T130 L130 w130 X130 hQ130
    obtain ⟨rfl, M130, K130, P130_0, P130_1, P130_2⟩ := hQ130
    have N130 := Fr.app N122 M130
    show Go p e below _ (T130.setTop (mkF m 166 #[.val (.long q1), .second, .val (.long q2), .second, .val (.long q3), .second, .val (.long q4), .second, .val (.long q5), .second, .val (.int q6), .val (.long (9223372036854775807 : Int64)), .second, .val (.long bits), .second, .val (.long big), .second, .val (.long av), .second, .val (.long cc), .second, .val (.long lo), .second, .val (.long hi), .second, .val (.int kx), .val (.long pw), .second, .val (.long ep), .second, .val (.double r1), .second, .val (.double r2), .second, .unset, .unset, .unset, .unset, .unset, .unset, .unset, .unset, .unset, .unset, .unset, .unset] [(.ref a124)]))
    have z133 : n0 ≤ T130.heap.size := Nat.le_trans z131 K130.1
    refine Go.virtual X130 hx hZ (y := (⟨"com/example/syndrome/syndrome/simulate/Simulator$Result", "bitErrorRate", "()D"⟩ : MethodName)) hown (word hw 31 rfl) (word hw 32 rfl) (word hw 34 rfl) (word hw 33 rfl) (word hw 35 rfl) (word hw 10 rfl) (by decide) (rm_rate l Z a0 hw a124 bits lo T130.heap n0 z133 P130_1 P130_2 (own_nz hB)) rfl P130_0  (argsL := []) (rest := []) (W := 0) (Jvm.hb hby at_166) rfl rfl (lenOf (pd3) rfl) (by rw [hml]; rfl) (Nat.le_of_eq rfl) (by decide) (by decide) (by decide) (by decide) (q := 169) rfl ?_
    intro T132 L132 w132 X132 hQ132
    obtain ⟨rfl, M132, q132⟩ := hQ132
    have N132 := Fr.app N130 M132
    show Go p e below _ (T132.setTop (mkF m 169 #[.val (.long q1), .second, .val (.long q2), .second, .val (.long q3), .second, .val (.long q4), .second, .val (.long q5), .second, .val (.int q6), .val (.long (9223372036854775807 : Int64)), .second, .val (.long bits), .second, .val (.long big), .second, .val (.long av), .second, .val (.long cc), .second, .val (.long lo), .second, .val (.long hi), .second, .val (.int kx), .val (.long pw), .second, .val (.long ep), .second, .val (.double r1), .second, .val (.double r2), .second, .unset, .unset, .unset, .unset, .unset, .unset, .unset, .unset, .unset, .unset, .unset, .unset] [(.double (own_rate lo bits))]))
    obtain ⟨r3, hr3⟩ : ∃ zq, (own_rate lo bits) = zq := ⟨_, rfl⟩
    rw [hr3]
    refine Go.dstore X132.here hx (Jvm.hb hby at_169) (l2 := #[.val (.long q1), .second, .val (.long q2), .second, .val (.long q3), .second, .val (.long q4), .second, .val (.long q5), .second, .val (.int q6), .val (.long (9223372036854775807 : Int64)), .second, .val (.long bits), .second, .val (.long big), .second, .val (.long av), .second, .val (.long cc), .second, .val (.long lo), .second, .val (.long hi), .second, .val (.int kx), .val (.long pw), .second, .val (.long ep), .second, .val (.double r1), .second, .val (.double r2), .second, .val (.double r3), .second, .unset, .unset, .unset, .unset, .unset, .unset, .unset, .unset, .unset, .unset]) rfl (q := 171) rfl ?_
    refine Go.new X132 hx hZ hown (word hw 8 rfl) (word hw 9 rfl) (word hw 10 rfl) q132 (Jvm.hb hby at_171) (by decide) (by decide) (q := 174) rfl ?_
    intro T134 h134 a134 g134 X134 e134 E134 A134 D134
    have r135 : n0 ≤ a134 := Nat.le_trans z133 (Nat.le_of_eq g134.symm)
    have F136 : Fld Z h134 a134 "com/example/syndrome/syndrome/simulate/Simulator$Result" "bits" "J" (.long (0 : Int64)) := D134 (Or.inr (word hw 24 rfl)) (ty := .long) (by decide)
    have F137 : Fld Z h134 a134 "com/example/syndrome/syndrome/simulate/Simulator$Result" "bitErrors" "J" (.long (0 : Int64)) := D134 (Or.inr (word hw 26 rfl)) (ty := .long) (by decide)
    have F138 : Fld Z h134 a134 "com/example/syndrome/syndrome/simulate/Simulator$Result" "frames" "J" (.long (0 : Int64)) := D134 (Or.inr (word hw 28 rfl)) (ty := .long) (by decide)
    have F139 : Fld Z h134 a134 "com/example/syndrome/syndrome/simulate/Simulator$Result" "frameErrors" "J" (.long (0 : Int64)) := D134 (Or.inr (word hw 30 rfl)) (ty := .long) (by decide)
    refine Go.dup X134.here hx (Jvm.hb hby at_174) rfl (q := 175) rfl ?_
    refine Go.lload X134.here hx (Jvm.hb hby at_175) rfl (q := 177) rfl ?_
    refine Go.lload X134.here hx (Jvm.hb hby at_177) rfl (q := 179) rfl ?_
    refine Go.lconst X134.here hx (Jvm.hb hby at_179) (v := (1 : Int64)) rfl (q := 180) rfl ?_
    refine Go.lconst X134.here hx (Jvm.hb hby at_180) (v := (0 : Int64)) rfl (q := 181) rfl ?_
    have z141 : n0 ≤ h134.size := Nat.le_trans z133 E134.1
    refine Go.special X134 hx hZ (y := (⟨"com/example/syndrome/syndrome/simulate/Simulator$Result", "<init>", "(JJJJ)V"⟩ : MethodName)) rfl hown (word hw 12 rfl) (word hw 13 rfl) (word hw 14 rfl) (word hw 10 rfl) (by decide) (rm_init l Z a0 hw a134 big hi (1 : Int64) (0 : Int64) (.long (0 : Int64)) (.long (0 : Int64)) (.long (0 : Int64)) (.long (0 : Int64)) h134 n0 z141 A134 F136 F137 F138 F139 r135) e134 (a := a134) (argsL := [(.long big), (.long hi), (.long (1 : Int64)), (.long (0 : Int64))]) (rest := [(.ref a134)]) (W := 1) (Jvm.hb hby at_181) rfl rfl (lenOf (pd2) rfl) (by rw [hml]; rfl) (Nat.le_of_eq rfl) (by decide) (by decide) (by decide) (by decide) (q := 184) rfl ?_
    intro T140 L140 w140 X140 hQ140
    obtain ⟨rfl, M140, K140, P140_0, P140_1, P140_2⟩ := hQ140
    have N140 := Fr.app N132 M140
    show Go p e below _ (T140.setTop (mkF m 184 #[.val (.long q1), .second, .val (.long q2), .second, .val (.long q3), .second, .val (.long q4), .second, .val (.long q5), .second, .val (.int q6), .val (.long (9223372036854775807 : Int64)), .second, .val (.long bits), .second, .val (.long big), .second, .val (.long av), .second, .val (.long cc), .second, .val (.long lo), .second, .val (.long hi), .second, .val (.int kx), .val (.long pw), .second, .val (.long ep), .second, .val (.double r1), .second, .val (.double r2), .second, .val (.double r3), .second, .unset, .unset, .unset, .unset, .unset, .unset, .unset, .unset, .unset, .unset] [(.ref a134)]))
    have z143 : n0 ≤ T140.heap.size := Nat.le_trans z141 K140.1
    refine Go.virtual X140 hx hZ (y := (⟨"com/example/syndrome/syndrome/simulate/Simulator$Result", "bitErrorRate", "()D"⟩ : MethodName)) hown (word hw 31 rfl) (word hw 32 rfl) (word hw 34 rfl) (word hw 33 rfl) (word hw 35 rfl) (word hw 10 rfl) (by decide) (rm_rate l Z a0 hw a134 big hi T140.heap n0 z143 P140_1 P140_2 (own_nz (Int.le_trans hB hBig))) rfl P140_0  (argsL := []) (rest := []) (W := 0) (Jvm.hb hby at_184) rfl rfl (lenOf (pd3) rfl) (by rw [hml]; rfl) (Nat.le_of_eq rfl) (by decide) (by decide) (by decide) (by decide) (q := 187) rfl ?_
    intro T142 L142 w142 X142 hQ142
    obtain ⟨rfl, M142, q142⟩ := hQ142
    have N142 := Fr.app N140 M142
    show Go p e below _ (T142.setTop (mkF m 187 #[.val (.long q1), .second, .val (.long q2), .second, .val (.long q3), .second, .val (.long q4), .second, .val (.long q5), .second, .val (.int q6), .val (.long (9223372036854775807 : Int64)), .second, .val (.long bits), .second, .val (.long big), .second, .val (.long av), .second, .val (.long cc), .second, .val (.long lo), .second, .val (.long hi), .second, .val (.int kx), .val (.long pw), .second, .val (.long ep), .second, .val (.double r1), .second, .val (.double r2), .second, .val (.double r3), .second, .unset, .unset, .unset, .unset, .unset, .unset, .unset, .unset, .unset, .unset] [(.double (own_rate hi big))]))
    obtain ⟨r4, hr4⟩ : ∃ zq, (own_rate hi big) = zq := ⟨_, rfl⟩
    rw [hr4]
    refine Go.dstore X142.here hx (Jvm.hb hby at_187) (l2 := #[.val (.long q1), .second, .val (.long q2), .second, .val (.long q3), .second, .val (.long q4), .second, .val (.long q5), .second, .val (.int q6), .val (.long (9223372036854775807 : Int64)), .second, .val (.long bits), .second, .val (.long big), .second, .val (.long av), .second, .val (.long cc), .second, .val (.long lo), .second, .val (.long hi), .second, .val (.int kx), .val (.long pw), .second, .val (.long ep), .second, .val (.double r1), .second, .val (.double r2), .second, .val (.double r3), .second, .val (.double r4), .second, .unset, .unset, .unset, .unset, .unset, .unset, .unset, .unset]) rfl (q := 189) rfl ?_
    refine Go.new X142 hx hZ hown (word hw 8 rfl) (word hw 9 rfl) (word hw 10 rfl) q142 (Jvm.hb hby at_189) (by decide) (by decide) (q := 192) rfl ?_
    intro T144 h144 a144 g144 X144 e144 E144 A144 D144
    have r145 : n0 ≤ a144 := Nat.le_trans z143 (Nat.le_of_eq g144.symm)
    have F146 : Fld Z h144 a144 "com/example/syndrome/syndrome/simulate/Simulator$Result" "bits" "J" (.long (0 : Int64)) := D144 (Or.inr (word hw 24 rfl)) (ty := .long) (by decide)
    have F147 : Fld Z h144 a144 "com/example/syndrome/syndrome/simulate/Simulator$Result" "bitErrors" "J" (.long (0 : Int64)) := D144 (Or.inr (word hw 26 rfl)) (ty := .long) (by decide)
    have F148 : Fld Z h144 a144 "com/example/syndrome/syndrome/simulate/Simulator$Result" "frames" "J" (.long (0 : Int64)) := D144 (Or.inr (word hw 28 rfl)) (ty := .long) (by decide)
    have F149 : Fld Z h144 a144 "com/example/syndrome/syndrome/simulate/Simulator$Result" "frameErrors" "J" (.long (0 : Int64)) := D144 (Or.inr (word hw 30 rfl)) (ty := .long) (by decide)
    refine Go.dup X144.here hx (Jvm.hb hby at_192) rfl (q := 193) rfl ?_
    refine Go.lload X144.here hx (Jvm.hb hby at_193) rfl (q := 195) rfl ?_
    refine Go.lload X144.here hx (Jvm.hb hby at_195) rfl (q := 197) rfl ?_
    refine Go.lconst X144.here hx (Jvm.hb hby at_197) (v := (1 : Int64)) rfl (q := 198) rfl ?_
    refine Go.lconst X144.here hx (Jvm.hb hby at_198) (v := (0 : Int64)) rfl (q := 199) rfl ?_
    have z151 : n0 ≤ h144.size := Nat.le_trans z143 E144.1
    refine Go.special X144 hx hZ (y := (⟨"com/example/syndrome/syndrome/simulate/Simulator$Result", "<init>", "(JJJJ)V"⟩ : MethodName)) rfl hown (word hw 12 rfl) (word hw 13 rfl) (word hw 14 rfl) (word hw 10 rfl) (by decide) (rm_init l Z a0 hw a144 pw ep (1 : Int64) (0 : Int64) (.long (0 : Int64)) (.long (0 : Int64)) (.long (0 : Int64)) (.long (0 : Int64)) h144 n0 z151 A144 F146 F147 F148 F149 r145) e144 (a := a144) (argsL := [(.long pw), (.long ep), (.long (1 : Int64)), (.long (0 : Int64))]) (rest := [(.ref a144)]) (W := 1) (Jvm.hb hby at_199) rfl rfl (lenOf (pd2) rfl) (by rw [hml]; rfl) (Nat.le_of_eq rfl) (by decide) (by decide) (by decide) (by decide) (q := 202) rfl ?_
    intro T150 L150 w150 X150 hQ150
    obtain ⟨rfl, M150, K150, P150_0, P150_1, P150_2⟩ := hQ150
    have N150 := Fr.app N142 M150
    show Go p e below _ (T150.setTop (mkF m 202 #[.val (.long q1), .second, .val (.long q2), .second, .val (.long q3), .second, .val (.long q4), .second, .val (.long q5), .second, .val (.int q6), .val (.long (9223372036854775807 : Int64)), .second, .val (.long bits), .second, .val (.long big), .second, .val (.long av), .second, .val (.long cc), .second, .val (.long lo), .second, .val (.long hi), .second, .val (.int kx), .val (.long pw), .second, .val (.long ep), .second, .val (.double r1), .second, .val (.double r2), .second, .val (.double r3), .second, .val (.double r4), .second, .unset, .unset, .unset, .unset, .unset, .unset, .unset, .unset] [(.ref a144)]))
    have z153 : n0 ≤ T150.heap.size := Nat.le_trans z151 K150.1
    refine Go.virtual X150 hx hZ (y := (⟨"com/example/syndrome/syndrome/simulate/Simulator$Result", "bitErrorRate", "()D"⟩ : MethodName)) hown (word hw 31 rfl) (word hw 32 rfl) (word hw 34 rfl) (word hw 33 rfl) (word hw 35 rfl) (word hw 10 rfl) (by decide) (rm_rate l Z a0 hw a144 pw ep T150.heap n0 z153 P150_1 P150_2 (own_nz hp1)) rfl P150_0  (argsL := []) (rest := []) (W := 0) (Jvm.hb hby at_202) rfl rfl (lenOf (pd3) rfl) (by rw [hml]; rfl) (Nat.le_of_eq rfl) (by decide) (by decide) (by decide) (by decide) (q := 205) rfl ?_
    intro T152 L152 w152 X152 hQ152
    obtain ⟨rfl, M152, q152⟩ := hQ152
    have N152 := Fr.app N150 M152
    show Go p e below _ (T152.setTop (mkF m 205 #[.val (.long q1), .second, .val (.long q2), .second, .val (.long q3), .second, .val (.long q4), .second, .val (.long q5), .second, .val (.int q6), .val (.long (9223372036854775807 : Int64)), .second, .val (.long bits), .second, .val (.long big), .second, .val (.long av), .second, .val (.long cc), .second, .val (.long lo), .second, .val (.long hi), .second, .val (.int kx), .val (.long pw), .second, .val (.long ep), .second, .val (.double r1), .second, .val (.double r2), .second, .val (.double r3), .second, .val (.double r4), .second, .unset, .unset, .unset, .unset, .unset, .unset, .unset, .unset] [(.double (own_rate ep pw))]))
    obtain ⟨r5, hr5⟩ : ∃ zq, (own_rate ep pw) = zq := ⟨_, rfl⟩
    rw [hr5]
    have M := own_math hB (by omega) (by omega) (by omega) hBig hr1 hr3 hr4
    refine Go.dstore X152.here hx (Jvm.hb hby at_205) (l2 := #[.val (.long q1), .second, .val (.long q2), .second, .val (.long q3), .second, .val (.long q4), .second, .val (.long q5), .second, .val (.int q6), .val (.long (9223372036854775807 : Int64)), .second, .val (.long bits), .second, .val (.long big), .second, .val (.long av), .second, .val (.long cc), .second, .val (.long lo), .second, .val (.long hi), .second, .val (.int kx), .val (.long pw), .second, .val (.long ep), .second, .val (.double r1), .second, .val (.double r2), .second, .val (.double r3), .second, .val (.double r4), .second, .val (.double r5), .second, .unset, .unset, .unset, .unset, .unset, .unset]) rfl (q := 207) rfl ?_
    refine Go.dload X152.here hx (Jvm.hb hby at_207) rfl (q := 209) rfl ?_
    refine Go.dconst0 X152.here hx (Jvm.hb hby at_209) (v := (0 : UInt64)) rfl (q := 210) rfl ?_
    obtain ⟨u210, hu210⟩ : ∃ zq, cmpValue (FP.dcmp r1 (0 : UInt64)) .l = zq := ⟨_, rfl⟩
    refine Go.dcmp X152.here hx (Jvm.hb hby at_210) hu210 (q := 211) rfl ?_
    have hc211 : ¬ (u210 < (0 : Int32)) := by rw [← hu210]; exact M.1
    refine Go.ifN X152.here hx (Jvm.hb hby at_211) ((if0 _ _).trans (flt hc211).1) (q := 214) rfl ?_
    refine Go.dload X152.here hx (Jvm.hb hby at_214) rfl (q := 216) rfl ?_
    refine Go.dconst1 X152.here hx (Jvm.hb hby at_216) (v := (4607182418800017408 : UInt64)) rfl (q := 217) rfl ?_
    obtain ⟨u217, hu217⟩ : ∃ zq, cmpValue (FP.dcmp r1 (4607182418800017408 : UInt64)) .g = zq := ⟨_, rfl⟩
    refine Go.dcmp X152.here hx (Jvm.hb hby at_217) hu217 (q := 218) rfl ?_
    have hc218 : ¬ ((0 : Int32) < u217) := by rw [← hu217]; exact M.2.1
    refine Go.ifN X152.here hx (Jvm.hb hby at_218) ((if0 _ _).trans (flt hc218).2.2.1) (q := 221) rfl ?_
    refine Go.dload X152.here hx (Jvm.hb hby at_221) rfl (q := 223) rfl ?_
    refine Go.dconst0 X152.here hx (Jvm.hb hby at_223) (v := (0 : UInt64)) rfl (q := 224) rfl ?_
    obtain ⟨u224, hu224⟩ : ∃ zq, cmpValue (FP.dcmp r3 (0 : UInt64)) .l = zq := ⟨_, rfl⟩
    refine Go.dcmp X152.here hx (Jvm.hb hby at_224) hu224 (q := 225) rfl ?_
    have hc225 : ¬ (u224 < (0 : Int32)) := by rw [← hu224]; exact M.2.2.1
    refine Go.ifN X152.here hx (Jvm.hb hby at_225) ((if0 _ _).trans (flt hc225).1) (q := 228) rfl ?_
    refine Go.dload X152.here hx (Jvm.hb hby at_228) rfl (q := 230) rfl ?_
    refine Go.dconst0 X152.here hx (Jvm.hb hby at_230) (v := (0 : UInt64)) rfl (q := 231) rfl ?_
    obtain ⟨u231, hu231⟩ : ∃ zq, cmpValue (FP.dcmp r4 (0 : UInt64)) .l = zq := ⟨_, rfl⟩
    refine Go.dcmp X152.here hx (Jvm.hb hby at_231) hu231 (q := 232) rfl ?_
    have hc232 : ¬ (u231 < (0 : Int32)) := by rw [← hu231]; exact M.2.2.2.1
    refine Go.ifN X152.here hx (Jvm.hb hby at_232) ((if0 _ _).trans (flt hc232).1) (q := 235) rfl ?_
    refine Go.iconst X152.here hx (Jvm.hb hby at_235) (v := (1 : Int32)) rfl (q := 236) rfl ?_
    refine Go.goto X152.here hx (Jvm.hb hby at_236) (by decide) (q := 240) rfl ?_
    refine Go.istore X152.here hx (Jvm.hb hby at_240) (l2 := #[.val (.long q1), .second, .val (.long q2), .second, .val (.long q3), .second, .val (.long q4), .second, .val (.long q5), .second, .val (.int q6), .val (.long (9223372036854775807 : Int64)), .second, .val (.long bits), .second, .val (.long big), .second, .val (.long av), .second, .val (.long cc), .second, .val (.long lo), .second, .val (.long hi), .second, .val (.int kx), .val (.long pw), .second, .val (.long ep), .second, .val (.double r1), .second, .val (.double r2), .second, .val (.double r3), .second, .val (.double r4), .second, .val (.double r5), .second, .val (.int (1 : Int32)), .unset, .unset, .unset, .unset, .unset]) rfl (q := 242) rfl ?_
    refine Go.lload X152.here hx (Jvm.hb hby at_242) rfl (q := 244) rfl ?_
    refine Go.lconst X152.here hx (Jvm.hb hby at_244) (v := (0 : Int64)) rfl (q := 245) rfl ?_
    obtain ⟨u245, hu245⟩ : ∃ zq, lcmpW hi (0 : Int64) = zq := ⟨_, rfl⟩
    refine Go.lcmp X152.here hx (Jvm.hb hby at_245) hu245 (q := 246) rfl ?_
    have J269 : Go p e below (Ret s (fun v h L => v = some (.int (1 : Int32)) ∧ Fr n0 L) 24 128) (T152.setTop (mkF m 269 #[.val (.long q1), .second, .val (.long q2), .second, .val (.long q3), .second, .val (.long q4), .second, .val (.long q5), .second, .val (.int q6), .val (.long (9223372036854775807 : Int64)), .second, .val (.long bits), .second, .val (.long big), .second, .val (.long av), .second, .val (.long cc), .second, .val (.long lo), .second, .val (.long hi), .second, .val (.int kx), .val (.long pw), .second, .val (.long ep), .second, .val (.double r1), .second, .val (.double r2), .second, .val (.double r3), .second, .val (.double r4), .second, .val (.double r5), .second, .val (.int (1 : Int32)), .unset, .unset, .unset, .unset, .unset] [])) := by
      refine Go.lload X152.here hx (Jvm.hb hby at_269) rfl (q := 271) rfl ?_
      refine Go.lconst X152.here hx (Jvm.hb hby at_271) (v := (0 : Int64)) rfl (q := 272) rfl ?_
      obtain ⟨u272, hu272⟩ : ∃ zq, lcmpW lo (0 : Int64) = zq := ⟨_, rfl⟩
      refine Go.lcmp X152.here hx (Jvm.hb hby at_272) hu272 (q := 273) rfl ?_
      have J283 : Go p e below (Ret s (fun v h L => v = some (.int (1 : Int32)) ∧ Fr n0 L) 24 128) (T152.setTop (mkF m 283 #[.val (.long q1), .second, .val (.long q2), .second, .val (.long q3), .second, .val (.long q4), .second, .val (.long q5), .second, .val (.int q6), .val (.long (9223372036854775807 : Int64)), .second, .val (.long bits), .second, .val (.long big), .second, .val (.long av), .second, .val (.long cc), .second, .val (.long lo), .second, .val (.long hi), .second, .val (.int kx), .val (.long pw), .second, .val (.long ep), .second, .val (.double r1), .second, .val (.double r2), .second, .val (.double r3), .second, .val (.double r4), .second, .val (.double r5), .second, .val (.int (1 : Int32)), .unset, .unset, .unset, .unset, .unset] [])) := by
        refine Go.iconst X152.here hx (Jvm.hb hby at_283) (v := (1 : Int32)) rfl (q := 284) rfl ?_
        refine Go.goto X152.here hx (Jvm.hb hby at_284) (by decide) (q := 288) rfl ?_
        refine Go.istore X152.here hx (Jvm.hb hby at_288) (l2 := #[.val (.long q1), .second, .val (.long q2), .second, .val (.long q3), .second, .val (.long q4), .second, .val (.long q5), .second, .val (.int q6), .val (.long (9223372036854775807 : Int64)), .second, .val (.long bits), .second, .val (.long big), .second, .val (.long av), .second, .val (.long cc), .second, .val (.long lo), .second, .val (.long hi), .second, .val (.int kx), .val (.long pw), .second, .val (.long ep), .second, .val (.double r1), .second, .val (.double r2), .second, .val (.double r3), .second, .val (.double r4), .second, .val (.double r5), .second, .val (.int (1 : Int32)), .val (.int (1 : Int32)), .unset, .unset, .unset, .unset]) rfl (q := 290) rfl ?_
        refine Go.lload X152.here hx (Jvm.hb hby at_290) rfl (q := 292) rfl ?_
        refine Go.lload X152.here hx (Jvm.hb hby at_292) rfl (q := 294) rfl ?_
        obtain ⟨u294, hu294⟩ : ∃ zq, lcmpW hi bits = zq := ⟨_, rfl⟩
        refine Go.lcmp X152.here hx (Jvm.hb hby at_294) hu294 (q := 295) rfl ?_
        have J305 : Go p e below (Ret s (fun v h L => v = some (.int (1 : Int32)) ∧ Fr n0 L) 24 128) (T152.setTop (mkF m 305 #[.val (.long q1), .second, .val (.long q2), .second, .val (.long q3), .second, .val (.long q4), .second, .val (.long q5), .second, .val (.int q6), .val (.long (9223372036854775807 : Int64)), .second, .val (.long bits), .second, .val (.long big), .second, .val (.long av), .second, .val (.long cc), .second, .val (.long lo), .second, .val (.long hi), .second, .val (.int kx), .val (.long pw), .second, .val (.long ep), .second, .val (.double r1), .second, .val (.double r2), .second, .val (.double r3), .second, .val (.double r4), .second, .val (.double r5), .second, .val (.int (1 : Int32)), .val (.int (1 : Int32)), .unset, .unset, .unset, .unset] [])) := by
          refine Go.iconst X152.here hx (Jvm.hb hby at_305) (v := (1 : Int32)) rfl (q := 306) rfl ?_
          refine Go.goto X152.here hx (Jvm.hb hby at_306) (by decide) (q := 310) rfl ?_
          refine Go.istore X152.here hx (Jvm.hb hby at_310) (l2 := #[.val (.long q1), .second, .val (.long q2), .second, .val (.long q3), .second, .val (.long q4), .second, .val (.long q5), .second, .val (.int q6), .val (.long (9223372036854775807 : Int64)), .second, .val (.long bits), .second, .val (.long big), .second, .val (.long av), .second, .val (.long cc), .second, .val (.long lo), .second, .val (.long hi), .second, .val (.int kx), .val (.long pw), .second, .val (.long ep), .second, .val (.double r1), .second, .val (.double r2), .second, .val (.double r3), .second, .val (.double r4), .second, .val (.double r5), .second, .val (.int (1 : Int32)), .val (.int (1 : Int32)), .val (.int (1 : Int32)), .unset, .unset, .unset]) rfl (q := 312) rfl ?_
          refine Go.dload X152.here hx (Jvm.hb hby at_312) rfl (q := 314) rfl ?_
          refine Go.dload X152.here hx (Jvm.hb hby at_314) rfl (q := 316) rfl ?_
          obtain ⟨u316, hu316⟩ : ∃ zq, cmpValue (FP.dcmp r2 r1) .l = zq := ⟨_, rfl⟩
          refine Go.dcmp X152.here hx (Jvm.hb hby at_316) hu316 (q := 317) rfl ?_
          have hc317 : u316 = (0 : Int32) := by rw [← hu316, ← hr2, hr1]; exact M.2.2.2.2.2.2.2.2.1
          refine Go.ifN X152.here hx (Jvm.hb hby at_317) ((if0 _ _).trans (teq hc317).2) (q := 320) rfl ?_
          refine Go.iconst X152.here hx (Jvm.hb hby at_320) (v := (1 : Int32)) rfl (q := 321) rfl ?_
          refine Go.goto X152.here hx (Jvm.hb hby at_321) (by decide) (q := 325) rfl ?_
          refine Go.istore X152.here hx (Jvm.hb hby at_325) (l2 := #[.val (.long q1), .second, .val (.long q2), .second, .val (.long q3), .second, .val (.long q4), .second, .val (.long q5), .second, .val (.int q6), .val (.long (9223372036854775807 : Int64)), .second, .val (.long bits), .second, .val (.long big), .second, .val (.long av), .second, .val (.long cc), .second, .val (.long lo), .second, .val (.long hi), .second, .val (.int kx), .val (.long pw), .second, .val (.long ep), .second, .val (.double r1), .second, .val (.double r2), .second, .val (.double r3), .second, .val (.double r4), .second, .val (.double r5), .second, .val (.int (1 : Int32)), .val (.int (1 : Int32)), .val (.int (1 : Int32)), .val (.int (1 : Int32)), .unset, .unset]) rfl (q := 327) rfl ?_
          refine Go.dload X152.here hx (Jvm.hb hby at_327) rfl (q := 329) rfl ?_
          refine Go.dload X152.here hx (Jvm.hb hby at_329) rfl (q := 331) rfl ?_
          obtain ⟨u331, hu331⟩ : ∃ zq, cmpValue (FP.dcmp r3 r1) .g = zq := ⟨_, rfl⟩
          refine Go.dcmp X152.here hx (Jvm.hb hby at_331) hu331 (q := 332) rfl ?_
          have hc332 : ¬ ((0 : Int32) < u331) := by rw [← hu331]; exact M.2.2.2.2.2.2.2.2.2.1
          refine Go.ifN X152.here hx (Jvm.hb hby at_332) ((if0 _ _).trans (flt hc332).2.2.1) (q := 335) rfl ?_
          refine Go.dload X152.here hx (Jvm.hb hby at_335) rfl (q := 337) rfl ?_
          refine Go.dload X152.here hx (Jvm.hb hby at_337) rfl (q := 339) rfl ?_
          obtain ⟨u339, hu339⟩ : ∃ zq, cmpValue (FP.dcmp r4 r1) .g = zq := ⟨_, rfl⟩
          refine Go.dcmp X152.here hx (Jvm.hb hby at_339) hu339 (q := 340) rfl ?_
          have hc340 : ¬ ((0 : Int32) < u339) := by rw [← hu339]; exact M.2.2.2.2.2.2.2.2.2.2
          refine Go.ifN X152.here hx (Jvm.hb hby at_340) ((if0 _ _).trans (flt hc340).2.2.1) (q := 343) rfl ?_
          refine Go.iconst X152.here hx (Jvm.hb hby at_343) (v := (1 : Int32)) rfl (q := 344) rfl ?_
          refine Go.goto X152.here hx (Jvm.hb hby at_344) (by decide) (q := 348) rfl ?_
          refine Go.istore X152.here hx (Jvm.hb hby at_348) (l2 := #[.val (.long q1), .second, .val (.long q2), .second, .val (.long q3), .second, .val (.long q4), .second, .val (.long q5), .second, .val (.int q6), .val (.long (9223372036854775807 : Int64)), .second, .val (.long bits), .second, .val (.long big), .second, .val (.long av), .second, .val (.long cc), .second, .val (.long lo), .second, .val (.long hi), .second, .val (.int kx), .val (.long pw), .second, .val (.long ep), .second, .val (.double r1), .second, .val (.double r2), .second, .val (.double r3), .second, .val (.double r4), .second, .val (.double r5), .second, .val (.int (1 : Int32)), .val (.int (1 : Int32)), .val (.int (1 : Int32)), .val (.int (1 : Int32)), .val (.int (1 : Int32)), .unset]) rfl (q := 350) rfl ?_
          refine Go.dload X152.here hx (Jvm.hb hby at_350) rfl (q := 352) rfl ?_
          refine Go.lload X152.here hx (Jvm.hb hby at_352) rfl (q := 354) rfl ?_
          obtain ⟨u354, hu354⟩ : ∃ zq, FP.l2d pw = zq := ⟨_, rfl⟩
          refine Go.l2d X152.here hx (Jvm.hb hby at_354) hu354 (q := 355) rfl ?_
          obtain ⟨u355, hu355⟩ : ∃ zq, FP.dmul r5 u354 = zq := ⟨_, rfl⟩
          have W := own_exact hk hpk hE.1 hu354
          rw [hr5] at W
          refine Go.dmul X152.here hx (Jvm.hb hby at_355) (nn_of W.1) hu355 (q := 356) rfl ?_
          rw [hu355] at W
          refine Go.lload X152.here hx (Jvm.hb hby at_356) rfl (q := 358) rfl ?_
          obtain ⟨u358, hu358⟩ : ∃ zq, FP.l2d ep = zq := ⟨_, rfl⟩
          refine Go.l2d X152.here hx (Jvm.hb hby at_358) hu358 (q := 359) rfl ?_
          obtain ⟨u359, hu359⟩ : ∃ zq, cmpValue (FP.dcmp u355 u358) .l = zq := ⟨_, rfl⟩
          refine Go.dcmp X152.here hx (Jvm.hb hby at_359) hu359 (q := 360) rfl ?_
          have hc360 : u359 = (0 : Int32) := by rw [← hu359, ← hu358]; exact cmp_eq W.1 (l2d_dfin _) _ W.2
          refine Go.ifN X152.here hx (Jvm.hb hby at_360) ((if0 _ _).trans (teq hc360).2) (q := 363) rfl ?_
          refine Go.iconst X152.here hx (Jvm.hb hby at_363) (v := (1 : Int32)) rfl (q := 364) rfl ?_
          refine Go.goto X152.here hx (Jvm.hb hby at_364) (by decide) (q := 368) rfl ?_
          refine Go.istore X152.here hx (Jvm.hb hby at_368) (l2 := #[.val (.long q1), .second, .val (.long q2), .second, .val (.long q3), .second, .val (.long q4), .second, .val (.long q5), .second, .val (.int q6), .val (.long (9223372036854775807 : Int64)), .second, .val (.long bits), .second, .val (.long big), .second, .val (.long av), .second, .val (.long cc), .second, .val (.long lo), .second, .val (.long hi), .second, .val (.int kx), .val (.long pw), .second, .val (.long ep), .second, .val (.double r1), .second, .val (.double r2), .second, .val (.double r3), .second, .val (.double r4), .second, .val (.double r5), .second, .val (.int (1 : Int32)), .val (.int (1 : Int32)), .val (.int (1 : Int32)), .val (.int (1 : Int32)), .val (.int (1 : Int32)), .val (.int (1 : Int32))]) rfl (q := 370) rfl ?_
          refine Go.iload X152.here hx (Jvm.hb hby at_370) rfl (q := 372) rfl ?_
          have hc372_163 : ¬ ((1 : Int32) = (0 : Int32)) := by decide
          refine Go.ifN X152.here hx (Jvm.hb hby at_372) ((if0 _ _).trans (feq hc372_163).1) (q := 375) rfl ?_
          refine Go.iload X152.here hx (Jvm.hb hby at_375) rfl (q := 377) rfl ?_
          have hc377_165 : ¬ ((1 : Int32) = (0 : Int32)) := by decide
          refine Go.ifN X152.here hx (Jvm.hb hby at_377) ((if0 _ _).trans (feq hc377_165).1) (q := 380) rfl ?_
          refine Go.iload X152.here hx (Jvm.hb hby at_380) rfl (q := 382) rfl ?_
          have hc382_167 : ¬ ((1 : Int32) = (0 : Int32)) := by decide
          refine Go.ifN X152.here hx (Jvm.hb hby at_382) ((if0 _ _).trans (feq hc382_167).1) (q := 385) rfl ?_
          refine Go.iload X152.here hx (Jvm.hb hby at_385) rfl (q := 387) rfl ?_
          have hc387_169 : ¬ ((1 : Int32) = (0 : Int32)) := by decide
          refine Go.ifN X152.here hx (Jvm.hb hby at_387) ((if0 _ _).trans (feq hc387_169).1) (q := 390) rfl ?_
          refine Go.iload X152.here hx (Jvm.hb hby at_390) rfl (q := 392) rfl ?_
          have hc392_171 : ¬ ((1 : Int32) = (0 : Int32)) := by decide
          refine Go.ifN X152.here hx (Jvm.hb hby at_392) ((if0 _ _).trans (feq hc392_171).1) (q := 395) rfl ?_
          refine Go.iload X152.here hx (Jvm.hb hby at_395) rfl (q := 397) rfl ?_
          have hc397_173 : ¬ ((1 : Int32) = (0 : Int32)) := by decide
          refine Go.ifN X152.here hx (Jvm.hb hby at_397) ((if0 _ _).trans (feq hc397_173).1) (q := 400) rfl ?_
          refine Go.iconst X152.here hx (Jvm.hb hby at_400) (v := (1 : Int32)) rfl (q := 401) rfl ?_
          refine Go.goto X152.here hx (Jvm.hb hby at_401) (by decide) (q := 405) rfl ?_
          refine Go.retZ X152 hx hret hlk (Jvm.hb hby at_405) (Or.inr rfl) (by decide) (by decide) ?_
          exact ⟨rfl, N152⟩
        by_cases hc295 : hi = bits
        · -- pc 295: hi = bits
          refine Go.ifN X152.here hx (Jvm.hb hby at_295) ((if0 _ _).trans (teq (hu294 ▸ (lw_eq _ _).mpr hc295)).2) (q := 298) rfl ?_
          refine Go.dload X152.here hx (Jvm.hb hby at_298) rfl (q := 300) rfl ?_
          refine Go.dconst1 X152.here hx (Jvm.hb hby at_300) (v := (4607182418800017408 : UInt64)) rfl (q := 301) rfl ?_
          obtain ⟨u301, hu301⟩ : ∃ zq, cmpValue (FP.dcmp r1 (4607182418800017408 : UInt64)) .l = zq := ⟨_, rfl⟩
          refine Go.dcmp X152.here hx (Jvm.hb hby at_301) hu301 (q := 302) rfl ?_
          have hc302 : u301 = (0 : Int32) := by rw [← hu301]; exact M.2.2.2.2.2.2.2.1 hc295
          refine Go.ifN X152.here hx (Jvm.hb hby at_302) ((if0 _ _).trans (teq hc302).2) (q := 305) rfl ?_
          exact J305  
        · -- pc 295: not hi = bits
          refine Go.ifY X152.here hx (Jvm.hb hby at_295) ((if0 _ _).trans (feq (fun z => hc295 ((lw_eq _ _).mp (hu294.symm ▸ z)))).2) (by decide) (q := 305) rfl ?_
          exact J305  
      by_cases hc273 : lo = (0 : Int64)
      · -- pc 273: lo = (0 : Int64)
        refine Go.ifN X152.here hx (Jvm.hb hby at_273) ((if0 _ _).trans (teq (hu272 ▸ (lw_eq _ _).mpr hc273)).2) (q := 276) rfl ?_
        refine Go.dload X152.here hx (Jvm.hb hby at_276) rfl (q := 278) rfl ?_
        refine Go.dconst0 X152.here hx (Jvm.hb hby at_278) (v := (0 : UInt64)) rfl (q := 279) rfl ?_
        obtain ⟨u279, hu279⟩ : ∃ zq, cmpValue (FP.dcmp r3 (0 : UInt64)) .l = zq := ⟨_, rfl⟩
        refine Go.dcmp X152.here hx (Jvm.hb hby at_279) hu279 (q := 280) rfl ?_
        have hc280 : u279 = (0 : Int32) := by rw [← hu279]; exact M.2.2.2.2.2.2.1 hc273
        refine Go.ifN X152.here hx (Jvm.hb hby at_280) ((if0 _ _).trans (teq hc280).2) (q := 283) rfl ?_
        exact J283  
      · -- pc 273: not lo = (0 : Int64)
        refine Go.ifY X152.here hx (Jvm.hb hby at_273) ((if0 _ _).trans (feq (fun z => hc273 ((lw_eq _ _).mp (hu272.symm ▸ z)))).2) (by decide) (q := 283) rfl ?_
        exact J283  
    by_cases hc246 : hi = (0 : Int64)
    · -- pc 246: hi = (0 : Int64)
      refine Go.ifN X152.here hx (Jvm.hb hby at_246) ((if0 _ _).trans (teq (hu245 ▸ (lw_eq _ _).mpr hc246)).2) (q := 249) rfl ?_
      refine Go.iconst X152.here hx (Jvm.hb hby at_249) (v := (1 : Int32)) rfl (q := 250) rfl ?_
      refine Go.goto X152.here hx (Jvm.hb hby at_250) (by decide) (q := 254) rfl ?_
      refine Go.dload X152.here hx (Jvm.hb hby at_254) rfl (q := 256) rfl ?_
      refine Go.dconst0 X152.here hx (Jvm.hb hby at_256) (v := (0 : UInt64)) rfl (q := 257) rfl ?_
      obtain ⟨u257, hu257⟩ : ∃ zq, cmpValue (FP.dcmp r1 (0 : UInt64)) .l = zq := ⟨_, rfl⟩
      refine Go.dcmp X152.here hx (Jvm.hb hby at_257) hu257 (q := 258) rfl ?_
      have hc258 : u257 = (0 : Int32) := by rw [← hu257]; exact M.2.2.2.2.1 hc246
      refine Go.ifN X152.here hx (Jvm.hb hby at_258) ((if0 _ _).trans (teq hc258).2) (q := 261) rfl ?_
      refine Go.iconst X152.here hx (Jvm.hb hby at_261) (v := (1 : Int32)) rfl (q := 262) rfl ?_
      refine Go.goto X152.here hx (Jvm.hb hby at_262) (by decide) (q := 266) rfl ?_
      have hc266_181 : (1 : Int32) = (1 : Int32) := by decide
      refine Go.icmpN X152.here hx (Jvm.hb hby at_266) (teq hc266_181).2 (q := 269) rfl ?_
      exact J269  
    · -- pc 246: not hi = (0 : Int64)
      refine Go.ifY X152.here hx (Jvm.hb hby at_246) ((if0 _ _).trans (feq (fun z => hc246 ((lw_eq _ _).mp (hu245.symm ▸ z)))).2) (by decide) (q := 253) rfl ?_
      refine Go.iconst X152.here hx (Jvm.hb hby at_253) (v := (0 : Int32)) rfl (q := 254) rfl ?_
      refine Go.dload X152.here hx (Jvm.hb hby at_254) rfl (q := 256) rfl ?_
      refine Go.dconst0 X152.here hx (Jvm.hb hby at_256) (v := (0 : UInt64)) rfl (q := 257) rfl ?_
      obtain ⟨u257, hu257⟩ : ∃ zq, cmpValue (FP.dcmp r1 (0 : UInt64)) .l = zq := ⟨_, rfl⟩
      refine Go.dcmp X152.here hx (Jvm.hb hby at_257) hu257 (q := 258) rfl ?_
      have hc258 : ¬ (u257 = (0 : Int32)) := by rw [← hu257]; exact M.2.2.2.2.2.1 hc246
      refine Go.ifY X152.here hx (Jvm.hb hby at_258) ((if0 _ _).trans (feq hc258).2) (by decide) (q := 265) rfl ?_
      refine Go.iconst X152.here hx (Jvm.hb hby at_265) (v := (0 : Int32)) rfl (q := 266) rfl ?_
      have hc266_184 : (0 : Int32) = (0 : Int32) := by decide
      refine Go.icmpN X152.here hx (Jvm.hb hby at_266) (teq hc266_184).2 (q := 269) rfl ?_
      exact J269  
  by_cases hc56 : u55 = (0 : Int32)
  · -- pc 56: u55 = (0 : Int32)
    refine Go.ifY X101.here hx (Jvm.hb hby at_56) ((if0 _ _).trans (teq hc56).1) (by decide) (q := 63) rfl ?_
    exact J63 u49 (⟨hC.1, Int.le_of_lt hC.2⟩)
  · -- pc 56: not u55 = (0 : Int32)
    refine Go.ifN X101.here hx (Jvm.hb hby at_56) ((if0 _ _).trans (feq hc56).1) (q := 59) rfl ?_
    refine Go.lload X101.here hx (Jvm.hb hby at_59) rfl (q := 61) rfl ?_
    refine Go.lstore X101.here hx (Jvm.hb hby at_61) (l2 := #[.val (.long q1), .second, .val (.long q2), .second, .val (.long q3), .second, .val (.long q4), .second, .val (.long q5), .second, .val (.int q6), .val (.long (9223372036854775807 : Int64)), .second, .val (.long bits), .second, .val (.long big), .second, .val (.long av), .second, .val (.long bits), .second, .unset, .unset, .unset, .unset, .unset, .unset, .unset, .unset, .unset, .unset, .unset, .unset, .unset, .unset, .unset, .unset, .unset, .unset, .unset, .unset, .unset, .unset, .unset, .unset, .unset]) rfl (q := 63) rfl ?_
    exact J63 bits (⟨by omega, Int.le_refl _⟩)
set_option maxRecDepth 65536 in
set_option maxHeartbeats 40000000 in
theorem comes_1 {Post : Tables → Env → Array Value → State → Outcome → State → Prop} (hpost : ∀ tb e args s v u, (limb_1_1.after args s (.returned v) u = true ∧ limb_1_2.after args s (.returned v) u = true ∧ True) → FrameEnd s (.returned v) u (Jvm.fieldLocs frame_1_writes args s ++ Jvm.arrayLocs frame_1_arrays args s ++ Jvm.staticLocs frame_1_statics s) 24 128 → Post tb e args s (.returned v) u) :
    ArmFor flags0 classFile x code maxLocals ret World_1 tables_1 room_1 Calls_1 rest_1 Pre_1 Post := by
  intro l hfl _ _ p e ha hc hk s m args below hf hA hF happ hP
  obtain ⟨hcalls, hrest, hpre⟩ := hP
  obtain ⟨-, -, -, hnamed, -, -, -, hat⟩ := (Spec.applies_iff hf).mp happ
  obtain ⟨hg, hn⟩ := and_e (Cond.before_iff.mp (show (Jvm.Cond.and given_1 narrow_1).before args s = true from hpre))
  obtain ⟨g0, hg⟩ := and_e hg
  obtain ⟨w0, w1, w2, w3, w4, w5, rfl⟩ : ∃ w0 w1 w2 w3 w4 w5 : Value, args = #[w0, w1, w2, w3, w4, w5] := by
    have hs : args.size = 6 := by simpa [Cond.value, given_1] using g0
    obtain ⟨L⟩ := args
    match L, hs with
    | [w0, w1, w2, w3, w4, w5], _ => exact ⟨w0, w1, w2, w3, w4, w5, rfl⟩
  have hw := fun d (hd : d ∈ tables_1) => atoms_spec (ws := Jvm.Cond.code x code maxLocals ret :: tables_1) hat d (List.mem_cons_of_mem _ hd)
  obtain ⟨g1, hg⟩ := and_e hg
  obtain ⟨i0, e0⟩ := isL_v g1
  obtain rfl : w0 = (.long i0) := Option.some.inj e0
  obtain ⟨g2, hg⟩ := and_e hg
  obtain ⟨i1, e1⟩ := isL_v g2
  obtain rfl : w1 = (.long i1) := Option.some.inj e1
  obtain ⟨g3, hg⟩ := and_e hg
  obtain ⟨i2, e2⟩ := isL_v g3
  obtain rfl : w2 = (.long i2) := Option.some.inj e2
  obtain ⟨g4, hg⟩ := and_e hg
  obtain ⟨i3, e3⟩ := isL_v g4
  obtain rfl : w3 = (.long i3) := Option.some.inj e3
  obtain ⟨g5, hg⟩ := and_e hg
  obtain ⟨i4, e4⟩ := isL_v g5
  obtain rfl : w4 = (.long i4) := Option.some.inj e4
  obtain ⟨i5, e5⟩ := is_v hg
  obtain rfl : w5 = (.int i5) := Option.some.inj e5
  obtain ⟨n, o, h1, h2, h3, _, L, rfl, ⟨rfl, N⟩, hq⟩ := rm_law l s _ hw tables_1 i0 i1 i2 i3 i4 i5  s.heap s.heap.size (Nat.le_refl _)  p e ha hc hk s m _ below hf ((Spec.applies_iff_loose hf).mp happ).1 ⟨rfl, State.Warmed39.refl s, rfl⟩ trivial
  refine ⟨n, _, h1, h2, h3, hpost _ _ _ _ _ _ ⟨Cond.after_iff.mpr rfl, Cond.after_iff.mpr (eq_i res_at (Term.int_eval (1)) rfl), trivial⟩ ⟨hq.1, hq.2.1, (hq.2.2.sift fun y hy => Or.inr (N y hy)).mono (by decide) (by decide)⟩⟩
theorem main_1_1 : Claimed_1_1 := comes_1 fun _ _ _ _ _ _ h hF => ⟨h.1, hF⟩
theorem main_1_2 : Claimed_1_2 := comes_1 fun _ _ _ _ _ _ h hF => ⟨h.2.1, hF⟩
end Jvm.Pilot.@@N@@
namespace Jvm.Pilot.@@N@@
open Jvm Jvm.ClassFile Sem Op Lib Jvm.Free Jvm.Stand Jvm.Pilot.@@N@@.Jvm.D
/-! MADE BY PROGRAM (witnessworld.py) out of the Statement's table words and the real class files: 11 classes; the members and pool entries that the words name. The judged class is class 1, her method 1. -/
namespace start1
open Jvm.ClassFile
def u (s : String) : CpInfo := .utf8 (stringToUtf16 s)
/-- a pool by its gaps: so many unusable entries, then the entry; so many at the end -/
def gap : Nat → List CpInfo → List CpInfo
  | 0, r => r
  | n + 1, r => .unusable :: gap n r
def poolList (es : List (Nat × CpInfo)) (last : Nat) : List CpInfo := es.foldr (fun e r => gap e.1 (e.2 :: r)) (gap last [])
def pool (es : List (Nat × CpInfo)) (last : Nat) : Array CpInfo := ⟨poolList es last⟩
def fileOf (pool : Array CpInfo) (this : Nat) (attrs : Array Attribute := #[]) (ms : Array MethodInfo := #[]) (fl : Nat := 33) (sup : Nat := 0) (ifs : Array Nat := #[]) (fds : Array FieldInfo := #[]) : ClassFile where
  minorVersion := 0
  majorVersion := 65
  constantPool := pool
  accessFlags := fl
  thisClass := this
  superClass := sup
  interfaces := ifs
  fields := fds
  methods := ms
  attributes := attrs
def plain (name : String) (sup : Option ClassId) : Class where
  name := name
  kind := .ordinary
  loader := none
  accessFlags := 33
  super := sup
  interfaces := #[]
  cf := none
  fields := #[]
  methods := #[]
  instanceTypes := #[]
  staticTypes := #[]
  resolved := #[]
  callSites := []
  init := .initialized
  statics := none
  mirror := none

def pool0 : Array CpInfo := pool [(5, u "<init>"), (0, u "()V"), (1, .class_ 10), (1, u "java/lang/Object")] 113

def k0c0 : Code := { maxStack := 0, maxLocals := 1, code := object_method_1_code, exceptionTable := #[], attributes := #[] }
def k0m0 : Method := { name := "<init>", desc := "()V", sig := { parameters := [], returnType := none }, accessFlags := 1, code := some k0c0 }
/-- java/lang/Object -/
def k0 : Class := { plain "java/lang/Object" none with
  accessFlags := 33
  interfaces := #[]
  cf := some (fileOf pool0 8 #[] #[{ accessFlags := 1, nameIndex := 5, descriptorIndex := 6, attributes := #[] }] 33 0 #[] #[])
  fields := #[]
  methods := #[k0m0]
  instanceTypes := #[]
  staticTypes := #[]
  resolved := Array.replicate 124 none
  statics := none }

def pool1 : Array CpInfo := pool [(2, .class_ 4), (1, u "java/lang/Object"), (0, u "<init>"), (0, u "()V"), (2, .long 9223372036854775807), (1, .methodref 12 13), (0, .class_ 14), (0, .nameAndType 15 16), (0, u "java/lang/Math"), (0, u "max"), (0, u "(JJ)J"), (0, .methodref 12 18), (0, .nameAndType 19 16), (0, u "min"), (0, .class_ 21), (0, u "com/example/syndrome/syndrome/simulate/Simulator$Result"), (0, .long 18446744073709551615), (1, .methodref 20 25), (0, .nameAndType 5 26), (0, u "(JJJJ)V"), (0, .methodref 20 28), (0, .nameAndType 29 30), (0, u "bitErrorRate"), (0, u "()D"), (0, .class_ 32), (0, u "com/example/syndrome/syndrome/simulate/ResultBitErrorRatePinLaw"), (2, u "law"), (0, u "(JJJJJI)Z")] 7

def k1m0 : Method := { name := "<init>", desc := "()V", sig := { parameters := [], returnType := none }, accessFlags := 2, code := none }
def k1c1 : Code := { maxStack := 12, maxLocals := 46, code := code, exceptionTable := #[], attributes := #[] }
def k1m1 : Method := { name := "law", desc := "(JJJJJI)Z", sig := { parameters := [.long, .long, .long, .long, .long, .int], returnType := some .boolean }, accessFlags := 9, code := some k1c1 }
/-- com/example/syndrome/syndrome/simulate/ResultBitErrorRatePinLaw -/
def k1 : Class := { plain "com/example/syndrome/syndrome/simulate/ResultBitErrorRatePinLaw" (some 0) with
  accessFlags := 49
  interfaces := #[]
  cf := some (fileOf pool1 31 #[] #[{ accessFlags := 2, nameIndex := 5, descriptorIndex := 6, attributes := #[] }, { accessFlags := 9, nameIndex := 35, descriptorIndex := 36, attributes := #[] }] 49 2 #[] #[])
  fields := #[]
  methods := #[k1m0, k1m1]
  instanceTypes := #[]
  staticTypes := #[]
  resolved := Array.replicate 44 none
  statics := none }

def pool2 : Array CpInfo := pool [(1, .class_ 2), (0, u "java/lang/Math"), (1, .class_ 6), (1, u "java/lang/Object"), (0, u "<init>"), (0, u "()V"), (89, .class_ 100), (1, u "java/lang/Math$RandomNumberGeneratorHolder"), (20, u "(JJ)J"), (50, u "negativeZeroFloatBits"), (0, u "J"), (2, u "negativeZeroDoubleBits"), (21, u "max"), (2, u "min"), (43, u "$assertionsDisabled"), (0, u "Z"), (91, u "twoToTheDoubleScaleDown"), (0, u "D"), (4, u "twoToTheDoubleScaleUp"), (9, u "E"), (3, u "PI"), (2, u "TAU"), (2, u "DEGREES_TO_RADIANS"), (0, u "RADIANS_TO_DEGREES")] 94

def k2m0 : Method := { name := "<init>", desc := "()V", sig := { parameters := [], returnType := none }, accessFlags := 2, code := none }
def k2c1 : Code := { maxStack := 4, maxLocals := 4, code := jdk_29_method_66_code, exceptionTable := #[], attributes := #[] }
def k2m1 : Method := { name := "max", desc := "(JJ)J", sig := { parameters := [.long, .long], returnType := some .long }, accessFlags := 9, code := some k2c1 }
def k2c2 : Code := { maxStack := 4, maxLocals := 4, code := jdk_29_method_70_code, exceptionTable := #[], attributes := #[] }
def k2m2 : Method := { name := "min", desc := "(JJ)J", sig := { parameters := [.long, .long], returnType := some .long }, accessFlags := 9, code := some k2c2 }
/-- java/lang/Math -/
def k2 : Class := { plain "java/lang/Math" (some 0) with
  accessFlags := 49
  interfaces := #[]
  cf := some (fileOf pool2 1 #[.nestMembers #[98]] #[{ accessFlags := 2, nameIndex := 7, descriptorIndex := 8, attributes := #[] }, { accessFlags := 9, nameIndex := 198, descriptorIndex := 121, attributes := #[] }, { accessFlags := 9, nameIndex := 201, descriptorIndex := 121, attributes := #[] }] 49 4 #[] #[{ accessFlags := 25, nameIndex := 354, descriptorIndex := 339, attributes := #[] }, { accessFlags := 25, nameIndex := 358, descriptorIndex := 339, attributes := #[] }, { accessFlags := 25, nameIndex := 361, descriptorIndex := 339, attributes := #[] }, { accessFlags := 26, nameIndex := 364, descriptorIndex := 339, attributes := #[] }, { accessFlags := 26, nameIndex := 365, descriptorIndex := 339, attributes := #[] }, { accessFlags := 26, nameIndex := 172, descriptorIndex := 173, attributes := #[] }, { accessFlags := 26, nameIndex := 176, descriptorIndex := 173, attributes := #[] }, { accessFlags := 8, nameIndex := 344, descriptorIndex := 339, attributes := #[] }, { accessFlags := 8, nameIndex := 338, descriptorIndex := 339, attributes := #[] }, { accessFlags := 4120, nameIndex := 245, descriptorIndex := 246, attributes := #[] }])
  fields := #[{ name := "E", type := .double, accessFlags := 25, slot := 0, constantValue := 0 }, { name := "PI", type := .double, accessFlags := 25, slot := 1, constantValue := 0 }, { name := "TAU", type := .double, accessFlags := 25, slot := 2, constantValue := 0 }, { name := "DEGREES_TO_RADIANS", type := .double, accessFlags := 26, slot := 3, constantValue := 0 }, { name := "RADIANS_TO_DEGREES", type := .double, accessFlags := 26, slot := 4, constantValue := 0 }, { name := "negativeZeroFloatBits", type := .long, accessFlags := 26, slot := 5, constantValue := 0 }, { name := "negativeZeroDoubleBits", type := .long, accessFlags := 26, slot := 6, constantValue := 0 }, { name := "twoToTheDoubleScaleUp", type := .double, accessFlags := 8, slot := 7, constantValue := 0 }, { name := "twoToTheDoubleScaleDown", type := .double, accessFlags := 8, slot := 8, constantValue := 0 }, { name := "$assertionsDisabled", type := .boolean, accessFlags := 4120, slot := 9, constantValue := 0 }]
  methods := #[k2m0, k2m1, k2m2]
  instanceTypes := #[]
  staticTypes := #[.double, .double, .double, .double, .double, .long, .long, .double, .double, .boolean]
  resolved := Array.replicate 460 none
  statics := none }

def pool3 : Array CpInfo := pool [(1, .methodref 2 3), (0, .class_ 4), (0, .nameAndType 5 6), (0, u "java/lang/Object"), (0, u "<init>"), (0, u "()V"), (0, .class_ 8), (0, u "java/lang/Record")] 13

def k3c0 : Code := { maxStack := 1, maxLocals := 1, code := jdk_30_method_1_code, exceptionTable := #[], attributes := #[] }
def k3m0 : Method := { name := "<init>", desc := "()V", sig := { parameters := [], returnType := none }, accessFlags := 4, code := some k3c0 }
/-- java/lang/Record -/
def k3 : Class := { plain "java/lang/Record" (some 0) with
  accessFlags := 1057
  interfaces := #[]
  cf := some (fileOf pool3 7 #[] #[{ accessFlags := 4, nameIndex := 5, descriptorIndex := 6, attributes := #[] }] 1057 2 #[] #[])
  fields := #[]
  methods := #[k3m0]
  instanceTypes := #[]
  staticTypes := #[]
  resolved := Array.replicate 22 none
  statics := none }

def pool4 : Array CpInfo := pool [(1, .methodref 2 3), (0, .class_ 4), (0, .nameAndType 5 6), (0, u "java/lang/Record"), (0, u "<init>"), (0, u "()V"), (0, .fieldref 8 9), (0, .class_ 10), (0, .nameAndType 11 12), (0, u "com/example/syndrome/syndrome/simulate/Simulator$Result"), (0, u "bits"), (0, u "J"), (0, .fieldref 8 14), (0, .nameAndType 15 12), (0, u "bitErrors"), (0, .fieldref 8 17), (0, .nameAndType 18 12), (0, u "frames"), (0, .fieldref 8 20), (0, .nameAndType 21 12), (0, u "frameErrors"), (12, u "(JJJJ)V"), (3, u "bitErrorRate"), (0, u "()D"), (7, .class_ 48), (0, u "com/example/syndrome/syndrome/simulate/Simulator")] 22

def k4c0 : Code := { maxStack := 3, maxLocals := 9, code := prog_66_method_1_code, exceptionTable := #[], attributes := #[] }
def k4m0 : Method := { name := "<init>", desc := "(JJJJ)V", sig := { parameters := [.long, .long, .long, .long], returnType := none }, accessFlags := 1, code := some k4c0 }
def k4c1 : Code := { maxStack := 4, maxLocals := 1, code := prog_66_method_2_code, exceptionTable := #[], attributes := #[] }
def k4m1 : Method := { name := "bitErrorRate", desc := "()D", sig := { parameters := [], returnType := some .double }, accessFlags := 1, code := some k4c1 }
/-- com/example/syndrome/syndrome/simulate/Simulator$Result -/
def k4 : Class := { plain "com/example/syndrome/syndrome/simulate/Simulator$Result" (some 3) with
  accessFlags := 49
  interfaces := #[]
  cf := some (fileOf pool4 8 #[.nestHost 47] #[{ accessFlags := 1, nameIndex := 5, descriptorIndex := 34, attributes := #[] }, { accessFlags := 1, nameIndex := 38, descriptorIndex := 39, attributes := #[] }] 49 2 #[] #[{ accessFlags := 18, nameIndex := 11, descriptorIndex := 12, attributes := #[] }, { accessFlags := 18, nameIndex := 15, descriptorIndex := 12, attributes := #[] }, { accessFlags := 18, nameIndex := 18, descriptorIndex := 12, attributes := #[] }, { accessFlags := 18, nameIndex := 21, descriptorIndex := 12, attributes := #[] }])
  fields := #[{ name := "bits", type := .long, accessFlags := 18, slot := 0, constantValue := 0 }, { name := "bitErrors", type := .long, accessFlags := 18, slot := 1, constantValue := 0 }, { name := "frames", type := .long, accessFlags := 18, slot := 2, constantValue := 0 }, { name := "frameErrors", type := .long, accessFlags := 18, slot := 3, constantValue := 0 }]
  methods := #[k4m0, k4m1]
  instanceTypes := #[.long, .long, .long, .long]
  staticTypes := #[]
  resolved := Array.replicate 71 none
  statics := none }

def pool5 : Array CpInfo := pool [(1, u "java/lang/Cloneable"), (0, .class_ 1), (0, u "java/lang/Object"), (0, .class_ 3)] 3

/-- java/lang/Cloneable -/
def k5 : Class := { plain "java/lang/Cloneable" (some 0) with
  accessFlags := 1537
  interfaces := #[]
  cf := some (fileOf pool5 2 #[] #[] 1537 4 #[] #[])
  fields := #[]
  methods := #[]
  instanceTypes := #[]
  staticTypes := #[]
  resolved := Array.replicate 8 none
  statics := none }

def pool6 : Array CpInfo := pool [(1, u "java/io/Serializable"), (0, .class_ 1), (0, u "java/lang/Object"), (0, .class_ 3)] 3

/-- java/io/Serializable -/
def k6 : Class := { plain "java/io/Serializable" (some 0) with
  accessFlags := 1537
  interfaces := #[]
  cf := some (fileOf pool6 2 #[] #[] 1537 4 #[] #[])
  fields := #[]
  methods := #[]
  instanceTypes := #[]
  staticTypes := #[]
  resolved := Array.replicate 8 none
  statics := none }

/-- the primitive byte -/
def k7 : Class := { plain "byte" none with kind := .primitive 'B', accessFlags := 0x411 }
/-- [B -/
def k8 : Class := { plain "[B" (some 0) with kind := .array 7 .byte, interfaces := #[5, 6], accessFlags := 1041 }

/-- the primitive int -/
def k9 : Class := { plain "int" none with kind := .primitive 'I', accessFlags := 0x411 }
/-- [I -/
def k10 : Class := { plain "[I" (some 0) with kind := .array 9 .int, interfaces := #[5, 6], accessFlags := 1041 }

def heap : Heap := #[]
def classes : Array Class := #[k0, k1, k2, k3, k4, k5, k6, k7, k8, k9, k10]
def interned : List (Array UInt16 × Addr) := []
def slotsUsed : Nat := 0
def theMethod : MethodId := ⟨1, 1⟩
def args0 : Array Value := #[.long 5000000, .long 7, .long 77, .long 777, .long 1, .int 5]
def aboutOver (below : List Frame) : State where
  vm := { classes := classes, interned := interned.toArray }
  heap := heap
  slotsUsed := slotsUsed
  threads := #[{ frames := .invoking theMethod args0 :: below }]
def below0 : List Frame := [.native { method := ⟨0, 0⟩, args := #[] }]
def about1 : State := aboutOver below0
def p0 : Program := .bare "" "" ""
def e0 : Env := launch0.env 0 0 0
theorem w_frames : about1.frames = Frame.invoking theMethod args0 :: below0 := rfl
set_option maxRecDepth 65536 in
theorem w_args : argsFit about1.vm theMethod args0 = true := by decide +kernel
set_option maxRecDepth 65536 in
theorem w_heap : heapFits about1 = true := by decide +kernel
set_option maxRecDepth 65536 in
theorem w_runnable : about1.curStatus? = some .runnable := by decide +kernel
set_option maxRecDepth 65536 in
theorem w_alone : about1.alone = true := by decide +kernel
set_option maxRecDepth 65536 in
theorem w_named : about1.methodNamed? x = some theMethod := by decide +kernel
set_option maxRecDepth 65536 in
theorem w_hears : about1.hears theMethod below0 = true := by decide +kernel
set_option maxRecDepth 65536 in
theorem w_ripe : about1.ripe theMethod args0 below0 = true := by decide +kernel
theorem w_running : about1.status = .running := rfl
set_option maxRecDepth 65536 in
theorem w_room : about1.hasRoom e0.platform room_1 = true :=
  launch0.hasRoom_least _ room_1 (by decide +kernel) (by decide +kernel) (by decide +kernel) (by decide +kernel) (by decide +kernel) (by decide +kernel)
theorem allAtoms_all (ts : List Jvm.Cond) (a : Array Jvm.Value) (st : Jvm.State) : (allAtoms ts).before a st = ts.all (fun c => c.before a st) := by
  induction ts with
  | nil => rfl
  | cons c t ih =>
    show (Jvm.Cond.and c (allAtoms t)).before a st = _
    rw [Jvm.Cond.before_and, ih, List.all_cons]
def words1 : List Jvm.Cond := Jvm.Cond.code x code maxLocals ret :: tables_1
/-- a 'code' word, met by the world's own term for the bytes: nothing is compared byte by byte -/
theorem code_word {y : MethodName} {bytes : ByteArray} {mx : Nat} {rt : Option FieldType} {a : Array Value} {s : State} {m : MethodId} {meth : Method} {c : Code} (h1 : s.methodNamed? y = some m) (h2 : s.vm.method? m = some meth) (h3 : meth.code = some c) (h4 : c.code = bytes)
    (h5 : (c.maxLocals == mx && c.exceptionTable.isEmpty && decide (c.maxStack ≤ mostOperands) && decide (meth.sig.returnType = rt) && !meth.locks && decide (parseMethodDescriptor y.desc = some meth.sig)) = true) : (Jvm.Cond.code y bytes mx rt).before a s = true := by
  simp only [Bool.and_eq_true, beq_iff_eq, Bool.not_eq_true', decide_eq_true_eq] at h5
  obtain ⟨⟨⟨⟨⟨g1, g2⟩, g3⟩, g4⟩, g5⟩, g6⟩ := h5
  simp [Cond.before, Cond.holds, Cond.value, h1, h2, h3, h4, g1, g2, g3, g4, g5, g6]
def isCode : Jvm.Cond → Bool
  | .code _ _ _ _ => true
  | _ => false
theorem all_split {L : List Jvm.Cond} {P : Jvm.Cond → Bool} (h1 : L.all (fun c => isCode c || P c) = true) (h2 : ∀ c ∈ L.filter isCode, P c = true) : L.all P = true := by
  refine List.all_eq_true.mpr fun c hc => ?_
  have h := List.all_eq_true.mp h1 c hc
  rcases Bool.eq_false_or_eq_true (isCode c) with hi | hi
  · exact h2 c (List.mem_filter.mpr ⟨hc, hi⟩)
  · simpa [hi] using h
set_option maxRecDepth 65536 in
theorem w_c0 : (Jvm.Cond.code x code maxLocals ret).before args0 about1 = true := code_word (m := ⟨1, 1⟩) (meth := k1m1) (c := k1c1) (by decide +kernel) rfl rfl rfl (by decide +kernel)
set_option maxRecDepth 65536 in
theorem w_c1 : (Jvm.Cond.code ({ cls := "java/lang/Math", name := "max", desc := "(JJ)J" } : Jvm.MethodName) jdk_29_method_66_code (4 : Nat) (Option.some Jvm.ClassFile.FieldType.long)).before args0 about1 = true := code_word (m := ⟨2, 1⟩) (meth := k2m1) (c := k2c1) (by decide +kernel) rfl rfl rfl (by decide +kernel)
set_option maxRecDepth 65536 in
theorem w_c2 : (Jvm.Cond.code ({ cls := "java/lang/Math", name := "min", desc := "(JJ)J" } : Jvm.MethodName) jdk_29_method_70_code (4 : Nat) (Option.some Jvm.ClassFile.FieldType.long)).before args0 about1 = true := code_word (m := ⟨2, 2⟩) (meth := k2m2) (c := k2c2) (by decide +kernel) rfl rfl rfl (by decide +kernel)
set_option maxRecDepth 65536 in
theorem w_c3 : (Jvm.Cond.code ({ cls := "com/example/syndrome/syndrome/simulate/Simulator$Result", name := "<init>", desc := "(JJJJ)V" } : Jvm.MethodName) prog_66_method_1_code (9 : Nat) (Option.none : Option Jvm.ClassFile.FieldType)).before args0 about1 = true := code_word (m := ⟨4, 0⟩) (meth := k4m0) (c := k4c0) (by decide +kernel) rfl rfl rfl (by decide +kernel)
set_option maxRecDepth 65536 in
theorem w_c4 : (Jvm.Cond.code ({ cls := "java/lang/Record", name := "<init>", desc := "()V" } : Jvm.MethodName) jdk_30_method_1_code (1 : Nat) (Option.none : Option Jvm.ClassFile.FieldType)).before args0 about1 = true := code_word (m := ⟨3, 0⟩) (meth := k3m0) (c := k3c0) (by decide +kernel) rfl rfl rfl (by decide +kernel)
set_option maxRecDepth 65536 in
theorem w_c5 : (Jvm.Cond.code ({ cls := "java/lang/Object", name := "<init>", desc := "()V" } : Jvm.MethodName) object_method_1_code (1 : Nat) (Option.none : Option Jvm.ClassFile.FieldType)).before args0 about1 = true := code_word (m := ⟨0, 0⟩) (meth := k0m0) (c := k0c0) (by decide +kernel) rfl rfl rfl (by decide +kernel)
set_option maxRecDepth 65536 in
theorem w_c6 : (Jvm.Cond.code ({ cls := "com/example/syndrome/syndrome/simulate/Simulator$Result", name := "bitErrorRate", desc := "()D" } : Jvm.MethodName) prog_66_method_2_code (1 : Nat) (Option.some Jvm.ClassFile.FieldType.double)).before args0 about1 = true := code_word (m := ⟨4, 1⟩) (meth := k4m1) (c := k4c1) (by decide +kernel) rfl rfl rfl (by decide +kernel)
def codes1 : List Jvm.Cond := [Jvm.Cond.code x code maxLocals ret, Jvm.Cond.code ({ cls := "java/lang/Math", name := "max", desc := "(JJ)J" } : Jvm.MethodName) jdk_29_method_66_code (4 : Nat) (Option.some Jvm.ClassFile.FieldType.long), Jvm.Cond.code ({ cls := "java/lang/Math", name := "min", desc := "(JJ)J" } : Jvm.MethodName) jdk_29_method_70_code (4 : Nat) (Option.some Jvm.ClassFile.FieldType.long), Jvm.Cond.code ({ cls := "com/example/syndrome/syndrome/simulate/Simulator$Result", name := "<init>", desc := "(JJJJ)V" } : Jvm.MethodName) prog_66_method_1_code (9 : Nat) (Option.none : Option Jvm.ClassFile.FieldType), Jvm.Cond.code ({ cls := "java/lang/Record", name := "<init>", desc := "()V" } : Jvm.MethodName) jdk_30_method_1_code (1 : Nat) (Option.none : Option Jvm.ClassFile.FieldType), Jvm.Cond.code ({ cls := "java/lang/Object", name := "<init>", desc := "()V" } : Jvm.MethodName) object_method_1_code (1 : Nat) (Option.none : Option Jvm.ClassFile.FieldType), Jvm.Cond.code ({ cls := "com/example/syndrome/syndrome/simulate/Simulator$Result", name := "bitErrorRate", desc := "()D" } : Jvm.MethodName) prog_66_method_2_code (1 : Nat) (Option.some Jvm.ClassFile.FieldType.double)]
set_option maxRecDepth 65536 in
theorem codes_eq : words1.filter isCode = codes1 := rfl
theorem w_codes : ∀ c ∈ words1.filter isCode, c.before args0 about1 = true := by
  rw [codes_eq]
  intro c hc
  simp only [codes1, List.mem_cons, List.not_mem_nil, or_false] at hc
  rcases hc with rfl | rfl | rfl | rfl | rfl | rfl | rfl
  · exact w_c0
  · exact w_c1
  · exact w_c2
  · exact w_c3
  · exact w_c4
  · exact w_c5
  · exact w_c6
set_option maxRecDepth 65536 in
theorem w_t1 : (words1.take 24).all (fun c => isCode c || c.before args0 about1) = true := by decide +kernel
set_option maxRecDepth 65536 in
theorem w_t2 : (words1.drop 24).all (fun c => isCode c || c.before args0 about1) = true := by decide +kernel
theorem w_tables : (allAtoms (Jvm.Cond.code x code maxLocals ret :: tables_1)).before args0 about1 = true := by
  rw [allAtoms_all]
  show words1.all (fun c => c.before args0 about1) = true
  refine all_split ?_ w_codes
  rw [← List.take_append_drop 24 words1, List.all_append, w_t1, w_t2]
  rfl
set_option maxRecDepth 65536 in
theorem w_case : (Jvm.Cond.and given_1 narrow_1).before args0 about1 = true := by decide +kernel
theorem w_applies : (headSpec (Jvm.Cond.code x code maxLocals ret :: tables_1) room_1).applies x e0.platform about1 = true :=
  (Spec.applies_iff w_frames).mpr ⟨w_running, w_runnable, w_alone, w_named, w_hears, w_ripe, w_room, w_tables⟩
theorem atStart : AtStart classFile x code maxLocals ret World_1 tables_1 room_1 Calls_1 rest_1 Pre_1 launch0 p0 e0 about1 theMethod args0 below0 :=
  ⟨lists_1, trivial, launch0.admits_env _ _ _, launch0.least_env, fairChoices_fair.cas, fairChoices_fair.clock, w_frames, w_args, w_heap, w_applies, trivial, trivial, w_case⟩
end start1
theorem witness_1 : WitnessClaimed_1 := ⟨start1.p0, start1.e0, start1.about1, start1.theMethod, start1.args0, start1.below0, start1.atStart⟩
end Jvm.Pilot.@@N@@
