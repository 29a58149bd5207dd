import JvmDerived
import JvmDerived.Pilot.@@N@@Statement
import JvmDerived.Pilot.@@N@@Code
set_option linter.unusedVariables false
set_option linter.unusedSimpArgs false
namespace Jvm.Pilot.@@N@@
open Jvm Jvm.ClassFile Sem Op Lib Jvm.Free Jvm.Stand Jvm.LawKit Jvm.RoadKit Bundle Jvm.Pilot.@@N@@.Jvm.D
/-! own layer 1: doubles as whole numbers of least units (2 to the -1074) -/
section OwnFp
open Jvm.FP Jvm.FP.Core Jvm.Free.Fl
/-- a power of two -/
def P2 (j : Nat) : Int := ((2 ^ j : Nat) : Int)
theorem P2_pos (j : Nat) : 0 < P2 j := Int.natCast_pos.mpr (Nat.two_pow_pos j)
theorem P2_add (i j : Nat) : P2 (i + j) = P2 i * P2 j := by unfold P2; rw [Nat.pow_add, Int.natCast_mul]
theorem P2_one64 : (one64 : Int) = P2 1074 := rfl
/-- the value of a double in least units -/
def Zv (a : UInt64) : Int := zval b64 (val64 a)
/-- some finite double has this value -/
def Rep (V : Int) : Prop := ∃ x : UInt64, DFin x ∧ Zv x = V
theorem own_qmax : b64.qmax = 971 := by decide
theorem own_signed_abs (c : Int) : signed (decide (c < 0)) c.natAbs = c := by
  unfold signed
  by_cases q : c < 0
  · simp [q]; omega
  · simp [q]; omega
theorem rep_core (s : Bool) {c j : Nat} (hc : c < 2 ^ 53) (hj : j ≤ 2045) : ∃ x : UInt64, DFin x ∧ Zv x = signed s (c * 2 ^ j) := by
  obtain ⟨c', q', h1, h2⟩ := round_exact (f := b64) good_b64 s (c := c) (q := (j : Int) - 1074) hc (by rw [qmin_b64]; omega) (by rw [own_qmax]; omega)
  refine ⟨of64 (round b64 (.fin s c ((j : Int) - 1074))), ⟨s, c', q', ?_⟩, ?_⟩
  · rw [val64_of64 (round_fits good_b64 _), h1]
  · unfold Zv
    rw [val64_of64 (round_fits good_b64 _), h1]
    show signed s (inUnits c' q' b64.qmin) = _
    rw [h2]
    unfold inUnits
    rw [show ((j : Int) - 1074 - b64.qmin).toNat = j by rw [qmin_b64]; omega]
theorem rep_mk (c : Int) (j : Nat) (hc : c.natAbs ≤ 2 ^ 53) (hj : j ≤ 2044) : Rep (c * P2 j) := by
  by_cases h : c.natAbs < 2 ^ 53
  · obtain ⟨x, h1, h2⟩ := rep_core (decide (c < 0)) h (j := j) (by omega)
    refine ⟨x, h1, h2.trans ?_⟩
    rw [signed_mul, own_signed_abs]; rfl
  · have h' : c.natAbs = 2 ^ 53 := by omega
    obtain ⟨x, h1, h2⟩ := rep_core (decide (c < 0)) (c := 2 ^ 52) (by decide) (j := j + 1) (by omega)
    refine ⟨x, h1, h2.trans ?_⟩
    have e : 2 ^ 52 * 2 ^ (j + 1) = c.natAbs * 2 ^ j := by
      rw [h', Nat.pow_add 2 j 1]
      generalize 2 ^ j = t
      omega
    rw [e, signed_mul, own_signed_abs]; rfl
theorem rep_of {V : Int} (c : Int) (j : Nat) (hc : c.natAbs ≤ 2 ^ 53) (hj : j ≤ 2044) (h : V = c * P2 j) : Rep V := h ▸ rep_mk c j hc hj
theorem rep_int (n : Int) (h : n.natAbs ≤ 2 ^ 53) : Rep (n * P2 1074) := rep_mk n 1074 h (by decide)
theorem rep_zero : Rep 0 := rep_of 0 0 (by decide) (by decide) (by simp)
theorem rep_self {x : UInt64} (h : DFin x) : Rep (Zv x) := ⟨x, h, rfl⟩
theorem rep_neg {V : Int} (h : Rep V) : Rep (-V) := by
  obtain ⟨x, hx, rfl⟩ := h
  obtain ⟨s, c, q, hv⟩ := hx
  refine ⟨Core.dneg x, ⟨!s, c, q, ?_⟩, ?_⟩
  · rw [Core.val64_dneg, hv]; rfl
  · unfold Zv; rw [Core.val64_dneg, zval_negate]
/-- between two finite values: finite -/
theorem fin_between {x : UInt64} (hn : val64 x ≠ .nan) {L H : Int} (hL : Rep L) (hH : Rep H) (h1 : L ≤ Zv x) (h2 : Zv x ≤ H) : DFin x := by
  cases hv : val64 x with
  | nan => exact absurd hv hn
  | fin s c q => exact ⟨s, c, q, hv⟩
  | inf s =>
    exfalso
    obtain ⟨y, hy, rfl⟩ := hL
    obtain ⟨z, hz, rfl⟩ := hH
    have a1 := hy.zval_lt
    have a2 := hz.zval_lt
    have e : Zv x = signed s (b64.tails * 2 ^ (b64.exps - 2)) := by unfold Zv; rw [hv]; rfl
    have b1 : signed (sgn (val64 y)) (zmag b64 (val64 y)) ≤ signed s (b64.tails * 2 ^ (b64.exps - 2)) := e ▸ h1
    have b2 : signed s (b64.tails * 2 ^ (b64.exps - 2)) ≤ signed (sgn (val64 z)) (zmag b64 (val64 z)) := e ▸ h2
    generalize b64.tails * 2 ^ (b64.exps - 2) = top at *
    generalize zmag b64 (val64 y) = my at *
    generalize zmag b64 (val64 z) = mz at *
    generalize sgn (val64 y) = sy at *
    generalize sgn (val64 z) = sz at *
    cases s <;> cases sy <;> cases sz <;> simp only [signed, if_true, Bool.false_eq_true, if_false] at b1 b2 <;> omega
theorem not_nan {x : UInt64} (h : Core.dIsNaN x = false) : val64 x ≠ .nan := (notNaN_iff x).mp h
theorem nn_of {x : UInt64} (h : DFin x) : NoNaN64 x := (fin64_core.mpr h).noNaN
/-! sums -/
theorem add_le {a b : UInt64} (ha : DFin a) (hb : DFin b) {V : Int} (hV : Rep V) (h : Zv a + Zv b ≤ V) : Zv (FP.dadd a b) ≤ V := by
  obtain ⟨x, hx, rfl⟩ := hV
  unfold Zv at h ⊢
  rw [val64_dadd]
  exact sum_le good_b64 ha hb (val64_fits a) (val64_fits b) (val64_fits x) hx.ne_nan h
theorem add_ge {a b : UInt64} (ha : DFin a) (hb : DFin b) {V : Int} (hV : Rep V) (h : V ≤ Zv a + Zv b) : V ≤ Zv (FP.dadd a b) := by
  obtain ⟨x, hx, rfl⟩ := hV
  unfold Zv at h ⊢
  rw [val64_dadd]
  exact sum_ge good_b64 ha hb (val64_fits a) (val64_fits b) (val64_fits x) hx.ne_nan h
theorem add_in {a b : UInt64} (ha : DFin a) (hb : DFin b) {L H : Int} (hL : Rep L) (hH : Rep H) (h1 : L ≤ Zv a + Zv b) (h2 : Zv a + Zv b ≤ H) : DFin (FP.dadd a b) ∧ L ≤ Zv (FP.dadd a b) ∧ Zv (FP.dadd a b) ≤ H :=
  ⟨fin_between (not_nan (Core.dadd_out ha.notNaN hb)) hL hH (add_ge ha hb hL h1) (add_le ha hb hH h2), add_ge ha hb hL h1, add_le ha hb hH h2⟩
theorem add_eq {a b : UInt64} (ha : DFin a) (hb : DFin b) {V : Int} (hV : Rep V) (h : Zv a + Zv b = V) : DFin (FP.dadd a b) ∧ Zv (FP.dadd a b) = V := by
  obtain ⟨h1, h2, h3⟩ := add_in ha hb hV hV (Int.le_of_eq h.symm) (Int.le_of_eq h)
  exact ⟨h1, Int.le_antisymm h3 h2⟩
/-! signs -/
theorem neg_eq {a : UInt64} (ha : DFin a) : DFin (FP.dneg a) ∧ Zv (FP.dneg a) = -Zv a := by
  obtain ⟨s, c, q, hv⟩ := ha
  constructor
  · exact ⟨!s, c, q, by rw [FP.val64_dneg, hv]; rfl⟩
  · unfold Zv; rw [FP.val64_dneg, zval_negate]
theorem cneg_eq {a : UInt64} (ha : DFin a) : DFin (Core.dneg a) ∧ Zv (Core.dneg a) = -Zv a := by
  obtain ⟨s, c, q, hv⟩ := ha
  constructor
  · exact ⟨!s, c, q, by rw [Core.val64_dneg, hv]; rfl⟩
  · unfold Zv; rw [Core.val64_dneg, zval_negate]
/-! differences -/
theorem sub_in {a b : UInt64} (ha : DFin a) (hb : DFin b) {L H : Int} (hL : Rep L) (hH : Rep H) (h1 : L ≤ Zv a - Zv b) (h2 : Zv a - Zv b ≤ H) : DFin (FP.dsub a b) ∧ L ≤ Zv (FP.dsub a b) ∧ Zv (FP.dsub a b) ≤ H := by
  obtain ⟨n1, n2⟩ := cneg_eq hb
  have e : FP.dsub a b = FP.dadd a (Core.dneg b) := Core.dsub_eq a b
  rw [e]
  exact add_in ha n1 hL hH (by rw [n2]; omega) (by rw [n2]; omega)
theorem sub_eq {a b : UInt64} (ha : DFin a) (hb : DFin b) {V : Int} (hV : Rep V) (h : Zv a - Zv b = V) : DFin (FP.dsub a b) ∧ Zv (FP.dsub a b) = V := by
  obtain ⟨h1, h2, h3⟩ := sub_in ha hb hV hV (Int.le_of_eq h.symm) (Int.le_of_eq h)
  exact ⟨h1, Int.le_antisymm h3 h2⟩
/-! products -/
theorem own_q2 : (b64.qmin - 2 * b64.qmin).toNat = 1074 := by rw [qmin_b64]; decide
theorem mul_le {a b : UInt64} (ha : DFin a) (hb : DFin b) {V : Int} (hV : Rep V) (h : Zv a * Zv b ≤ V * P2 1074) : Zv (FP.dmul a b) ≤ V := by
  obtain ⟨x, hx, rfl⟩ := hV
  obtain ⟨s, c, q, hva⟩ := ha
  obtain ⟨t, d, r, hvb⟩ := hb
  have fa := val64_fits a
  have fb := val64_fits b
  unfold Zv at h ⊢
  rw [hva] at fa h
  rw [hvb] at fb h
  obtain ⟨p1, p2, p3⟩ := product_units fa fb
  rw [val64_dmul, hva, hvb, p1]
  refine zval_round_le good_b64 (val64_fits x) hx.ne_nan (e0 := 2 * b64.qmin) (by rw [qmin_b64]; decide) p2 ?_
  rw [p3, signed_xor, own_q2]
  exact h
theorem mul_ge {a b : UInt64} (ha : DFin a) (hb : DFin b) {V : Int} (hV : Rep V) (h : V * P2 1074 ≤ Zv a * Zv b) : V ≤ Zv (FP.dmul a b) := by
  obtain ⟨x, hx, rfl⟩ := hV
  obtain ⟨s, c, q, hva⟩ := ha
  obtain ⟨t, d, r, hvb⟩ := hb
  have fa := val64_fits a
  have fb := val64_fits b
  unfold Zv at h ⊢
  rw [hva] at fa h
  rw [hvb] at fb h
  obtain ⟨p1, p2, p3⟩ := product_units fa fb
  rw [val64_dmul, hva, hvb, p1]
  refine zval_round_ge good_b64 (val64_fits x) hx.ne_nan (e0 := 2 * b64.qmin) (by rw [qmin_b64]; decide) p2 ?_
  rw [p3, signed_xor, own_q2]
  exact h
theorem mul_in {a b : UInt64} (ha : DFin a) (hb : DFin b) {L H : Int} (hL : Rep L) (hH : Rep H) (h1 : L * P2 1074 ≤ Zv a * Zv b) (h2 : Zv a * Zv b ≤ H * P2 1074) : DFin (FP.dmul a b) ∧ L ≤ Zv (FP.dmul a b) ∧ Zv (FP.dmul a b) ≤ H :=
  ⟨fin_between (not_nan (Core.dmul_out ha hb)) hL hH (mul_ge ha hb hL h1) (mul_le ha hb hH h2), mul_ge ha hb hL h1, mul_le ha hb hH h2⟩
theorem mul_eq {a b : UInt64} (ha : DFin a) (hb : DFin b) {V : Int} (hV : Rep V) (h : Zv a * Zv b = V * P2 1074) : DFin (FP.dmul a b) ∧ Zv (FP.dmul a b) = V := by
  obtain ⟨h1, h2, h3⟩ := mul_in ha hb hV hV (Int.le_of_eq h.symm) (Int.le_of_eq h)
  exact ⟨h1, Int.le_antisymm h3 h2⟩
/-! quotients by a positive number -/
theorem own_sgn_le {s t : Bool} {A V B r : Nat} (hB : 0 < B) (hle : A ≤ V * B → r ≤ V) (hge : V * B ≤ A → V ≤ r) (h : signed s A ≤ signed t V * (B : Int)) : signed s r ≤ signed t V := by
  rw [← signed_mul] at h
  have hz : V * B = 0 → V = 0 := fun q => by rcases Nat.mul_eq_zero.mp q with q | q <;> omega
  generalize V * B = vb at *
  cases s <;> cases t <;> simp only [signed, if_true, Bool.false_eq_true, if_false] at h ⊢
  · have := hle (by omega); omega
  · have := hle (by omega); have := hz (by omega); omega
  · omega
  · have := hge (by omega); omega
theorem own_sgn_ge {s t : Bool} {A V B r : Nat} (hB : 0 < B) (hle : A ≤ V * B → r ≤ V) (hge : V * B ≤ A → V ≤ r) (h : signed t V * (B : Int) ≤ signed s A) : signed t V ≤ signed s r := by
  rw [← signed_mul] at h
  have hz : V * B = 0 → V = 0 := fun q => by rcases Nat.mul_eq_zero.mp q with q | q <;> omega
  generalize V * B = vb at *
  cases s <;> cases t <;> simp only [signed, if_true, Bool.false_eq_true, if_false] at h ⊢
  · have := hge (by omega); omega
  · omega
  · have := hle (by omega); have := hz (by omega); omega
  · have := hle (by omega); omega
theorem div_core {a b : UInt64} (ha : DFin a) (hb : DFin b) (hp : 0 < Zv b) (x : UInt64) (hx : DFin x) :
    ∃ (s : Bool) (A B : Nat), (B : Int) = Zv b ∧ signed s A = Zv a * P2 1074 ∧ 0 < B ∧ ∃ r, Zv (FP.ddiv a b) = signed s r ∧ (A ≤ zmag b64 (val64 x) * B → r ≤ zmag b64 (val64 x)) ∧ (zmag b64 (val64 x) * B ≤ A → zmag b64 (val64 x) ≤ r) := by
  obtain ⟨s, c, q, hva⟩ := ha
  obtain ⟨t, d, r, hvb⟩ := hb
  have fa := val64_fits a
  have fb := val64_fits b
  rw [hva] at fa
  rw [hvb] at fb
  have f1 := fa.2.1
  have f2 := fb.2.1
  have zb : Zv b = signed t (inUnits d r b64.qmin) := by unfold Zv; rw [hvb]; rfl
  have hd : 0 < d := by
    rcases Nat.eq_zero_or_pos d with q0 | q0
    · rw [zb, q0] at hp
      have : inUnits 0 r b64.qmin = 0 := Nat.zero_mul _
      rw [this, signed_zero] at hp; omega
    · exact q0
  have ht : t = false := by
    cases t with
    | false => rfl
    | true => rw [zb] at hp; simp only [signed, if_true] at hp; omega
  subst ht
  have hB : 0 < inUnits d r b64.qmin := Nat.mul_pos hd (Nat.two_pow_pos _)
  have e1 : inUnits c (q - r) (2 * b64.qmin - r) = inUnits c q b64.qmin * 2 ^ 1074 := by
    unfold inUnits
    rw [Nat.mul_assoc, ← Nat.pow_add]
    rw [qmin_b64] at *
    congr 2; omega
  have e2 : 2 ^ (b64.qmin - (2 * b64.qmin - r)).toNat * d = inUnits d r b64.qmin := by
    unfold inUnits
    rw [Nat.mul_comm]; congr 2; omega
  have hv : val64 (FP.ddiv a b) = roundRatio b64 s c d (q - r) := by
    rw [val64_ddiv, hva, hvb]
    show (if d = 0 then _ else roundRatio b64 (s != false) c d (q - r)) = _
    rw [if_neg (by omega)]
    cases s <;> rfl
  refine ⟨s, inUnits c q b64.qmin * 2 ^ 1074, inUnits d r b64.qmin, ?_, ?_, hB, zmag b64 (roundRatio b64 s c d (q - r)), ?_, ?_, ?_⟩
  · rw [zb]; simp only [signed, Bool.false_eq_true, if_false]
  · unfold Zv; rw [signed_mul, hva]; rfl
  · unfold Zv; rw [hv]; show signed (sgn _) _ = _; rw [sgn_roundRatio]
  · intro h
    refine zmag_roundRatio_le good_b64 hd (val64_fits x) hx.ne_nan (e0 := 2 * b64.qmin - r) (by have := qmin_b64; omega) (by have := qmin_b64; omega) ?_
    rw [e1, Nat.mul_assoc, e2]; exact h
  · intro h
    refine zmag_roundRatio_ge good_b64 hd (val64_fits x) (e0 := 2 * b64.qmin - r) (by have := qmin_b64; omega) (by have := qmin_b64; omega) ?_
    rw [e1, Nat.mul_assoc, e2]; exact h
theorem div_le {a b : UInt64} (ha : DFin a) (hb : DFin b) (hp : 0 < Zv b) {V : Int} (hV : Rep V) (h : Zv a * P2 1074 ≤ V * Zv b) : Zv (FP.ddiv a b) ≤ V := by
  obtain ⟨x, hx, rfl⟩ := hV
  obtain ⟨s, A, B, h1, h2, h3, r, h4, h5, h6⟩ := div_core ha hb hp x hx
  rw [h4]
  rw [← h2, ← h1] at h
  exact own_sgn_le h3 h5 h6 h
theorem div_ge {a b : UInt64} (ha : DFin a) (hb : DFin b) (hp : 0 < Zv b) {V : Int} (hV : Rep V) (h : V * Zv b ≤ Zv a * P2 1074) : V ≤ Zv (FP.ddiv a b) := by
  obtain ⟨x, hx, rfl⟩ := hV
  obtain ⟨s, A, B, h1, h2, h3, r, h4, h5, h6⟩ := div_core ha hb hp x hx
  rw [h4]
  rw [← h2, ← h1] at h
  exact own_sgn_ge h3 h5 h6 h
theorem pos_nz {b : UInt64} (hp : 0 < Zv b) : ¬ DZero b := fun q => by
  have := q.zval
  unfold Zv at hp
  omega
theorem div_in {a b : UInt64} (ha : DFin a) (hb : DFin b) (hp : 0 < Zv b) {L H : Int} (hL : Rep L) (hH : Rep H) (h1 : L * Zv b ≤ Zv a * P2 1074) (h2 : Zv a * P2 1074 ≤ H * Zv b) : DFin (FP.ddiv a b) ∧ L ≤ Zv (FP.ddiv a b) ∧ Zv (FP.ddiv a b) ≤ H :=
  ⟨fin_between (not_nan (Core.ddiv_out ha.notNaN hb (pos_nz hp))) hL hH (div_ge ha hb hp hL h1) (div_le ha hb hp hH h2), div_ge ha hb hp hL h1, div_le ha hb hp hH h2⟩
theorem div_eq {a b : UInt64} (ha : DFin a) (hb : DFin b) (hp : 0 < Zv b) {V : Int} (hV : Rep V) (h : Zv a * P2 1074 = V * Zv b) : DFin (FP.ddiv a b) ∧ Zv (FP.ddiv a b) = V := by
  obtain ⟨h1, h2, h3⟩ := div_in ha hb hp hV hV (Int.le_of_eq h.symm) (Int.le_of_eq h)
  exact ⟨h1, Int.le_antisymm h3 h2⟩
/-! whole numbers -/
theorem l2d_in {n : Int64} {L H : Int} (hL : Rep L) (hH : Rep H) (h1 : L ≤ n.toInt * P2 1074) (h2 : n.toInt * P2 1074 ≤ H) : L ≤ Zv (FP.l2d n) ∧ Zv (FP.l2d n) ≤ H := by
  obtain ⟨x, hx, rfl⟩ := hL
  obtain ⟨y, hy, rfl⟩ := hH
  exact ⟨l2d_zval_ge hx.ne_nan h1, l2d_zval_le hy.ne_nan h2⟩
theorem l2d_dfin (n : Int64) : DFin (FP.l2d n) := Core.l2d_fin n
theorem i2d_dfin (n : Int32) : DFin (FP.i2d n) := Core.i2d_fin n
theorem l2d_rep {n : Int64} (h : Rep (n.toInt * P2 1074)) : Zv (FP.l2d n) = n.toInt * P2 1074 := by
  obtain ⟨h1, h2⟩ := l2d_in h h (Int.le_refl _) (Int.le_refl _)
  exact Int.le_antisymm h2 h1
theorem l2d_eq {n : Int64} (h : n.toInt.natAbs ≤ 2 ^ 53) : Zv (FP.l2d n) = n.toInt * P2 1074 := l2d_rep (rep_int _ h)
theorem i2d_eq (n : Int32) : Zv (FP.i2d n) = n.toInt * P2 1074 := by
  rw [i2d_w, l2d_eq (by rw [Int32.toInt_toInt64]; have := int32_abs n; omega), Int32.toInt_toInt64]
theorem d2l_eq {a : UInt64} (ha : DFin a) {n : Int} (h : Zv a = n * P2 1074) (h1 : -9223372036854775808 ≤ n) (h2 : n < 9223372036854775808) : (FP.d2l a).toInt = n := by
  have e := d2l_val ha.ne_nan
  have z : signed (sgn (val64 a)) (zmag b64 (val64 a)) = n * (one64 : Int) := h
  have hp := one64_pos
  have hm : zmag b64 (val64 a) = n.natAbs * one64 := by
    have q := congrArg Int.natAbs z
    rw [natAbs_signed, Int.natAbs_mul] at q
    exact q
  have hs : signed (sgn (val64 a)) n.natAbs = n := by
    rw [hm, signed_mul] at z
    exact Int.eq_of_mul_eq_mul_right (by omega) z
  rw [hm, Nat.mul_div_cancel _ hp, hs] at e
  show (Core.d2l a).toInt = n
  rw [e]; omega
/-! comparisons -/
theorem cmp_lt {a b : UInt64} (ha : DFin a) (hb : DFin b) (o : CmpOp) (h : Zv a < Zv b) : cmpValue (FP.dcmp a b) o = -1 := by
  rw [show FP.dcmp a b = some .lt from dcmp_lt.mpr ⟨ha.ne_nan, hb.ne_nan, h⟩]; rfl
theorem cmp_eq {a b : UInt64} (ha : DFin a) (hb : DFin b) (o : CmpOp) (h : Zv a = Zv b) : cmpValue (FP.dcmp a b) o = 0 := by
  rw [show FP.dcmp a b = some .eq from dcmp_eq.mpr ⟨ha.ne_nan, hb.ne_nan, h⟩]; rfl
theorem cmp_gt {a b : UInt64} (ha : DFin a) (hb : DFin b) (o : CmpOp) (h : Zv b < Zv a) : cmpValue (FP.dcmp a b) o = 1 := by
  rw [show FP.dcmp a b = some .gt from dcmp_gt.mpr ⟨ha.ne_nan, hb.ne_nan, h⟩]; rfl
/-! constants -/
theorem zero_fin : DFin 0 := (fin_bits _).mpr (by decide)
theorem zero_z : Zv 0 = 0 := zval64_zero
theorem one_fin : DFin 4607182418800017408 := (fin_bits _).mpr (by decide)
theorem one_z : Zv 4607182418800017408 = 1 * P2 1074 := by unfold Zv P2; decide +kernel
end OwnFp

/-! own layer 2: walking forward -/
section OwnGo
open Jvm.Free.Fl
variable {p : Program} {l : Launch} {e : Env} {R : Room} {s : State} {m : MethodId} {args : Array Value} {below : List Frame} {meth : Method} {c : Code} {T : State} {locs : List Loc} {cells slots : Nat} {Q : Outcome → State → Prop}
/-- from here the run comes to an end that Q allows -/
def Go (p : Program) (e : Env) (below : List Frame) (Q : Outcome → State → Prop) (S : State) : Prop :=
  ∃ s₂ o, Steps p.tables e below S s₂ ∧ s₂.status = .running ∧ Ended s₂ below o ∧ Q o s₂
theorem Go.of {S S' : State} (h : ∀ t, Steps p.tables e below S' t → Steps p.tables e below S t) (g : Go p e below Q S') : Go p e below Q S := by
  obtain ⟨s₂, o, h1, h2⟩ := g
  exact ⟨s₂, o, h _ h1, h2⟩
theorem Go.tr {S S' : State} (h : Steps p.tables e below S S') (g : Go p e below Q S') : Go p e below Q S := Go.of (fun _ k => h.trans k) g
abbrev Ret (s : State) (Qv : Option Value → Heap → List Loc → Prop) (kc ks : Nat) : Outcome → State → Prop := fun o U' => ∃ v L, o = .returned v ∧ Qv v U'.heap L ∧ FrameEnd s o U' L kc ks
theorem Go.done (X : Stand p l e R s m args below meth c T locs cells slots) {g : JFrame} {v : Option Value} (hv : meth.sig.returnType = none → v = none) (hlocks : meth.locks = false)
    (hst : ∀ fs, (∀ (f : JFrame) (acts : List Action), f.method = m → f.locked = none → f.entered = [] → (doReturn e (T.setTop f) acts v).1 = T.setFrames fs) → Steps p.tables e below (T.setTop g) (T.setFrames fs))
    {Qv : Option Value → Heap → List Loc → Prop} {kc ks : Nat} (hc : cells ≤ kc) (hk : slots ≤ ks) (hq : Qv v T.heap locs) : Go p e below (Ret s Qv kc ks) (T.setTop g) := by
  obtain ⟨fs, hr, hrun, hended, hW, hsame⟩ := X.leave (v := v) hv hlocks
  exact ⟨_, _, hst fs hr, hrun, hended, v, locs, rfl, hq, ⟨_, rfl⟩, hW, hsame.mono hc hk⟩
theorem Go.retV (X : Stand p l e R s m args below meth c T locs cells slots) (hx : p.tables.exec = Jvm.exec) {pc : Nat} {Ls : Array Slot} (hret : meth.sig.returnType = none) (hlk : meth.locks = false) (hd : decode c.code pc = .ok (.return_, 1))
    {Qv : Option Value → Heap → List Loc → Prop} {kc ks : Nat} (hc : cells ≤ kc) (hk : slots ≤ ks) (hq : Qv none T.heap locs) : Go p e below (Ret s Qv kc ks) (T.setTop (mkF m pc Ls [])) :=
  Go.done X (fun _ => rfl) hlk (fun _ hr => X.returnOut hx hret hd hr) hc hk hq
theorem Go.retL (X : Stand p l e R s m args below meth c T locs cells slots) (hx : p.tables.exec = Jvm.exec) {pc : Nat} {Ls : Array Slot} {st : List Value} {z : Int64} (hret : meth.sig.returnType = some .long) (hlk : meth.locks = false) (hd : decode c.code pc = .ok (.lreturn, 1))
    {Qv : Option Value → Heap → List Loc → Prop} {kc ks : Nat} (hc : cells ≤ kc) (hk : slots ≤ ks) (hq : Qv (some (.long z)) T.heap locs) : Go p e below (Ret s Qv kc ks) (T.setTop (mkF m pc Ls ((.long z) :: st))) :=
  Go.done X (fun h => by rw [hret] at h; cases h) hlk (fun _ hr => retOut X hx hret rfl (Or.inr (Or.inl ⟨rfl, rfl, z, rfl⟩)) hd hr) hc hk hq
theorem Go.retD (X : Stand p l e R s m args below meth c T locs cells slots) (hx : p.tables.exec = Jvm.exec) {pc : Nat} {Ls : Array Slot} {st : List Value} {z : UInt64} (hret : meth.sig.returnType = some .double) (hlk : meth.locks = false) (hd : decode c.code pc = .ok (.dreturn, 1))
    {Qv : Option Value → Heap → List Loc → Prop} {kc ks : Nat} (hc : cells ≤ kc) (hk : slots ≤ ks) (hq : Qv (some (.double z)) T.heap locs) : Go p e below (Ret s Qv kc ks) (T.setTop (mkF m pc Ls ((.double z) :: st))) :=
  Go.done X (fun h => by rw [hret] at h; cases h) hlk (fun _ hr => retOut X hx hret rfl (Or.inr (Or.inr (Or.inl ⟨rfl, rfl, z, rfl⟩))) hd hr) hc hk hq
theorem Go.retF (X : Stand p l e R s m args below meth c T locs cells slots) (hx : p.tables.exec = Jvm.exec) {pc : Nat} {Ls : Array Slot} {st : List Value} {z : UInt32} (hret : meth.sig.returnType = some .float) (hlk : meth.locks = false) (hd : decode c.code pc = .ok (.freturn, 1))
    {Qv : Option Value → Heap → List Loc → Prop} {kc ks : Nat} (hc : cells ≤ kc) (hk : slots ≤ ks) (hq : Qv (some (.float z)) T.heap locs) : Go p e below (Ret s Qv kc ks) (T.setTop (mkF m pc Ls ((.float z) :: st))) :=
  Go.done X (fun h => by rw [hret] at h; cases h) hlk (fun _ hr => retOut X hx hret rfl (Or.inr (Or.inr (Or.inr (Or.inl ⟨rfl, rfl, z, rfl⟩)))) hd hr) hc hk hq
theorem Go.retI (X : Stand p l e R s m args below meth c T locs cells slots) (hx : p.tables.exec = Jvm.exec) {pc : Nat} {Ls : Array Slot} {st : List Value} {z : Int32} (hret : meth.sig.returnType = some .int) (hlk : meth.locks = false) (hd : decode c.code pc = .ok (.ireturn, 1))
    {Qv : Option Value → Heap → List Loc → Prop} {kc ks : Nat} (hc : cells ≤ kc) (hk : slots ≤ ks) (hq : Qv (some (.int z)) T.heap locs) : Go p e below (Ret s Qv kc ks) (T.setTop (mkF m pc Ls ((.int z) :: st))) :=
  Go.done X (fun h => by rw [hret] at h; cases h) hlk (fun _ hr => retOut X hx hret rfl (Or.inl ⟨rfl, Or.inl rfl, z, rfl⟩) hd hr) hc hk hq
theorem Go.retZ (X : Stand p l e R s m args below meth c T locs cells slots) (hx : p.tables.exec = Jvm.exec) {pc : Nat} {Ls : Array Slot} {st : List Value} {z : Int32} (hret : meth.sig.returnType = some .boolean) (hlk : meth.locks = false) (hd : decode c.code pc = .ok (.ireturn, 1)) (hz : z = 0 ∨ z = 1)
    {Qv : Option Value → Heap → List Loc → Prop} {kc ks : Nat} (hc : cells ≤ kc) (hk : slots ≤ ks) (hq : Qv (some (.int z)) T.heap locs) : Go p e below (Ret s Qv kc ks) (T.setTop (mkF m pc Ls ((.int z) :: st))) :=
  Go.done X (fun h => by rw [hret] at h; cases h) hlk (fun _ hr => retOut X hx hret (by rcases hz with rfl | rfl <;> rfl) (Or.inl ⟨rfl, Or.inr (Or.inl rfl), z, rfl⟩) hd hr) hc hk hq
theorem Go.retA (X : Stand p l e R s m args below meth c T locs cells slots) (hx : p.tables.exec = Jvm.exec) {pc : Nat} {Ls : Array Slot} {st : List Value} {v : Value} {t : FieldType} (hret : meth.sig.returnType = some t) (hlk : meth.locks = false) (hd : decode c.code pc = .ok (.areturn, 1)) (ht : t.isReference = true) (hv : v.isRef = true) (hn : narrow t v = v)
    {Qv : Option Value → Heap → List Loc → Prop} {kc ks : Nat} (hc : cells ≤ kc) (hk : slots ≤ ks) (hq : Qv (some v) T.heap locs) : Go p e below (Ret s Qv kc ks) (T.setTop (mkF m pc Ls (v :: st))) :=
  Go.done X (fun h => by rw [hret] at h; cases h) hlk (fun _ hr => retOut X hx hret hn (Or.inr (Or.inr (Or.inr (Or.inr ⟨rfl, ht, hv⟩)))) hd hr) hc hk hq
theorem enter {l : Launch} {Z : State} {y : MethodName} {bytes : ByteArray} {maxL : Nat} {ret : Option FieldType} {ws : List Jvm.Cond} {rm : Room} {as' : Array Value} {h0 : Heap} {Qv : Option Value → Heap → List Loc → Prop} {Ls : Array Slot} {kc ks : Nat}
    (hpn : plainFor y = true) (hef : ∀ m, entryFrame m as' maxL = mkF m 0 Ls [])
    (body : ∀ (p : Program) (e : Env) (s : State) (m : MethodId) (below : List Frame) (meth : Method) (c : Code) (s₁ : State), p.tables.exec = Jvm.exec → c.code = bytes → c.maxLocals = maxL → s.vm.findClass y.cls = some m.cls → meth.name = y.name → meth.sig.returnType = ret → meth.locks = false → Z.Warmed39 s.vm →
      Stand p l e rm s m as' below meth c s₁ [] 0 0 → s₁.heap = h0 → Go p e below (Ret s Qv kc ks) (s₁.setTop (mkF m 0 Ls []))) :
    MetFree l y (head1 (Jvm.Cond.code y bytes maxL ret :: ws) rm) (fun a U => a = as' ∧ Z.Warmed39 U.vm ∧ U.heap = h0) (fun _ _ _ _ _ => True) (fun _ U o U' => ∃ v L, o = .returned v ∧ Qv v U'.heap L ∧ FrameEnd U o U' L kc ks) := by
  refine MetFree.of_bodySF hpn hisR ?_
  intro p e s m args below meth c s₁ Bd hml0 hP hK
  obtain ⟨rfl, hZ, hh⟩ := hP
  have e0 : s₁.heap = h0 := by rw [← hh, Bd.state]; rfl
  obtain ⟨s₂, o, h1, h2, h3, h4⟩ := body p e s m below meth c s₁ Bd.exec Bd.bytes hml0 (findClass_of_methodNamed Bd.named) (name_of_methodNamed Bd.named Bd.method).1 Bd.returns (BodyLoose.notSynchronized Bd) hZ (Stand.of_body Bd) e0
  exact ⟨s₂, o, castTop (hef m) h1, h2, h3, h4⟩
theorem Go.iload (h : At T m c below) (hx : p.tables.exec = Jvm.exec) {pc q : Nat} {Ls : Array Slot} {st : List Value} {k : Nat} {v : Int32} (hd : decode c.code pc = .ok (.iload k, 2)) (hl : Ls[k]? = some (.val (.int v))) (hq : pc + 2 = q) (g : Go p e below Q (T.setTop (mkF m q Ls (.int v :: st)))) : Go p e below Q (T.setTop (mkF m pc Ls st)) := by
  subst hq; exact Go.of (fun _ r => XS.iload h hx rfl hd hl r) g
theorem Go.iloadN (h : At T m c below) (hx : p.tables.exec = Jvm.exec) {pc q : Nat} {Ls : Array Slot} {st : List Value} {k : Fin 4} {v : Int32} (hd : decode c.code pc = .ok (.iload_n k, 1)) (hl : Ls[k.val]? = some (.val (.int v))) (hq : pc + 1 = q) (g : Go p e below Q (T.setTop (mkF m q Ls (.int v :: st)))) : Go p e below Q (T.setTop (mkF m pc Ls st)) := by
  subst hq; exact Go.of (fun _ r => XS.iloadN h hx rfl hd hl r) g
theorem Go.istore (h : At T m c below) (hx : p.tables.exec = Jvm.exec) {pc q : Nat} {Ls : Array Slot} {st : List Value} {k : Nat} {v : Int32} {l2 : Array Slot} (hd : decode c.code pc = .ok (.istore k, 2)) (hl : storeLocals Ls k (.int v) = some l2) (hq : pc + 2 = q) (g : Go p e below Q (T.setTop (mkF m q l2 st))) : Go p e below Q (T.setTop (mkF m pc Ls (.int v :: st))) := by
  subst hq; exact Go.of (fun _ r => XS.istore h hx rfl hd rfl hl r) g
theorem Go.istoreN (h : At T m c below) (hx : p.tables.exec = Jvm.exec) {pc q : Nat} {Ls : Array Slot} {st : List Value} {k : Fin 4} {v : Int32} {l2 : Array Slot} (hd : decode c.code pc = .ok (.istore_n k, 1)) (hl : storeLocals Ls k.val (.int v) = some l2) (hq : pc + 1 = q) (g : Go p e below Q (T.setTop (mkF m q l2 st))) : Go p e below Q (T.setTop (mkF m pc Ls (.int v :: st))) := by
  subst hq; exact Go.of (fun _ r => XS.istoreN h hx rfl hd rfl hl r) g
theorem Go.lload (h : At T m c below) (hx : p.tables.exec = Jvm.exec) {pc q : Nat} {Ls : Array Slot} {st : List Value} {k : Nat} {v : Int64} (hd : decode c.code pc = .ok (.lload k, 2)) (hl : Ls[k]? = some (.val (.long v))) (hq : pc + 2 = q) (g : Go p e below Q (T.setTop (mkF m q Ls (.long v :: st)))) : Go p e below Q (T.setTop (mkF m pc Ls st)) := by
  subst hq; exact Go.of (fun _ r => XS.lload h hx rfl hd hl r) g
theorem Go.lloadN (h : At T m c below) (hx : p.tables.exec = Jvm.exec) {pc q : Nat} {Ls : Array Slot} {st : List Value} {k : Fin 4} {v : Int64} (hd : decode c.code pc = .ok (.lload_n k, 1)) (hl : Ls[k.val]? = some (.val (.long v))) (hq : pc + 1 = q) (g : Go p e below Q (T.setTop (mkF m q Ls (.long v :: st)))) : Go p e below Q (T.setTop (mkF m pc Ls st)) := by
  subst hq; exact Go.of (fun _ r => XS.lloadN h hx rfl hd hl r) g
theorem Go.lstore (h : At T m c below) (hx : p.tables.exec = Jvm.exec) {pc q : Nat} {Ls : Array Slot} {st : List Value} {k : Nat} {v : Int64} {l2 : Array Slot} (hd : decode c.code pc = .ok (.lstore k, 2)) (hl : storeLocals Ls k (.long v) = some l2) (hq : pc + 2 = q) (g : Go p e below Q (T.setTop (mkF m q l2 st))) : Go p e below Q (T.setTop (mkF m pc Ls (.long v :: st))) := by
  subst hq; exact Go.of (fun _ r => XS.lstore h hx rfl hd rfl hl r) g
theorem Go.lstoreN (h : At T m c below) (hx : p.tables.exec = Jvm.exec) {pc q : Nat} {Ls : Array Slot} {st : List Value} {k : Fin 4} {v : Int64} {l2 : Array Slot} (hd : decode c.code pc = .ok (.lstore_n k, 1)) (hl : storeLocals Ls k.val (.long v) = some l2) (hq : pc + 1 = q) (g : Go p e below Q (T.setTop (mkF m q l2 st))) : Go p e below Q (T.setTop (mkF m pc Ls (.long v :: st))) := by
  subst hq; exact Go.of (fun _ r => XS.lstoreN h hx rfl hd rfl hl r) g
theorem Go.dload (h : At T m c below) (hx : p.tables.exec = Jvm.exec) {pc q : Nat} {Ls : Array Slot} {st : List Value} {k : Nat} {v : UInt64} (hd : decode c.code pc = .ok (.dload k, 2)) (hl : Ls[k]? = some (.val (.double v))) (hq : pc + 2 = q) (g : Go p e below Q (T.setTop (mkF m q Ls (.double v :: st)))) : Go p e below Q (T.setTop (mkF m pc Ls st)) := by
  subst hq; exact Go.of (fun _ r => XS.dload h hx rfl hd hl r) g
theorem Go.dloadN (h : At T m c below) (hx : p.tables.exec = Jvm.exec) {pc q : Nat} {Ls : Array Slot} {st : List Value} {k : Fin 4} {v : UInt64} (hd : decode c.code pc = .ok (.dload_n k, 1)) (hl : Ls[k.val]? = some (.val (.double v))) (hq : pc + 1 = q) (g : Go p e below Q (T.setTop (mkF m q Ls (.double v :: st)))) : Go p e below Q (T.setTop (mkF m pc Ls st)) := by
  subst hq; exact Go.of (fun _ r => XS.dloadN h hx rfl hd hl r) g
theorem Go.dstore (h : At T m c below) (hx : p.tables.exec = Jvm.exec) {pc q : Nat} {Ls : Array Slot} {st : List Value} {k : Nat} {v : UInt64} {l2 : Array Slot} (hd : decode c.code pc = .ok (.dstore k, 2)) (hl : storeLocals Ls k (.double v) = some l2) (hq : pc + 2 = q) (g : Go p e below Q (T.setTop (mkF m q l2 st))) : Go p e below Q (T.setTop (mkF m pc Ls (.double v :: st))) := by
  subst hq; exact Go.of (fun _ r => XS.dstore h hx rfl hd rfl hl r) g
theorem Go.dstoreN (h : At T m c below) (hx : p.tables.exec = Jvm.exec) {pc q : Nat} {Ls : Array Slot} {st : List Value} {k : Fin 4} {v : UInt64} {l2 : Array Slot} (hd : decode c.code pc = .ok (.dstore_n k, 1)) (hl : storeLocals Ls k.val (.double v) = some l2) (hq : pc + 1 = q) (g : Go p e below Q (T.setTop (mkF m q l2 st))) : Go p e below Q (T.setTop (mkF m pc Ls (.double v :: st))) := by
  subst hq; exact Go.of (fun _ r => XS.dstoreN h hx rfl hd rfl hl r) g
theorem Go.fload (h : At T m c below) (hx : p.tables.exec = Jvm.exec) {pc q : Nat} {Ls : Array Slot} {st : List Value} {k : Nat} {v : UInt32} (hd : decode c.code pc = .ok (.fload k, 2)) (hl : Ls[k]? = some (.val (.float v))) (hq : pc + 2 = q) (g : Go p e below Q (T.setTop (mkF m q Ls (.float v :: st)))) : Go p e below Q (T.setTop (mkF m pc Ls st)) := by
  subst hq; exact Go.of (fun _ r => XS.fload h hx rfl hd hl r) g
theorem Go.floadN (h : At T m c below) (hx : p.tables.exec = Jvm.exec) {pc q : Nat} {Ls : Array Slot} {st : List Value} {k : Fin 4} {v : UInt32} (hd : decode c.code pc = .ok (.fload_n k, 1)) (hl : Ls[k.val]? = some (.val (.float v))) (hq : pc + 1 = q) (g : Go p e below Q (T.setTop (mkF m q Ls (.float v :: st)))) : Go p e below Q (T.setTop (mkF m pc Ls st)) := by
  subst hq; exact Go.of (fun _ r => XS.floadN h hx rfl hd hl r) g
theorem Go.fstore (h : At T m c below) (hx : p.tables.exec = Jvm.exec) {pc q : Nat} {Ls : Array Slot} {st : List Value} {k : Nat} {v : UInt32} {l2 : Array Slot} (hd : decode c.code pc = .ok (.fstore k, 2)) (hl : storeLocals Ls k (.float v) = some l2) (hq : pc + 2 = q) (g : Go p e below Q (T.setTop (mkF m q l2 st))) : Go p e below Q (T.setTop (mkF m pc Ls (.float v :: st))) := by
  subst hq; exact Go.of (fun _ r => XS.fstore h hx rfl hd rfl hl r) g
theorem Go.fstoreN (h : At T m c below) (hx : p.tables.exec = Jvm.exec) {pc q : Nat} {Ls : Array Slot} {st : List Value} {k : Fin 4} {v : UInt32} {l2 : Array Slot} (hd : decode c.code pc = .ok (.fstore_n k, 1)) (hl : storeLocals Ls k.val (.float v) = some l2) (hq : pc + 1 = q) (g : Go p e below Q (T.setTop (mkF m q l2 st))) : Go p e below Q (T.setTop (mkF m pc Ls (.float v :: st))) := by
  subst hq; exact Go.of (fun _ r => XS.fstoreN h hx rfl hd rfl hl r) g
theorem Go.aload (h : At T m c below) (hx : p.tables.exec = Jvm.exec) {pc q : Nat} {Ls : Array Slot} {st : List Value} {k : Nat} {v : Value} (hd : decode c.code pc = .ok (.aload k, 2)) (hl : Ls[k]? = some (.val v)) (hv : v.isRef = true) (hq : pc + 2 = q) (g : Go p e below Q (T.setTop (mkF m q Ls (v :: st)))) : Go p e below Q (T.setTop (mkF m pc Ls st)) := by
  subst hq; exact Go.of (fun _ r => XS.aload h hx rfl hd hl hv r) g
theorem Go.aloadN (h : At T m c below) (hx : p.tables.exec = Jvm.exec) {pc q : Nat} {Ls : Array Slot} {st : List Value} {k : Fin 4} {v : Value} (hd : decode c.code pc = .ok (.aload_n k, 1)) (hl : Ls[k.val]? = some (.val v)) (hv : v.isRef = true) (hq : pc + 1 = q) (g : Go p e below Q (T.setTop (mkF m q Ls (v :: st)))) : Go p e below Q (T.setTop (mkF m pc Ls st)) := by
  subst hq; exact Go.of (fun _ r => XS.aloadN h hx rfl hd hl hv r) g
theorem Go.astore (h : At T m c below) (hx : p.tables.exec = Jvm.exec) {pc q : Nat} {Ls : Array Slot} {st : List Value} {k : Nat} {v : Value} {l2 : Array Slot} (hd : decode c.code pc = .ok (.astore k, 2)) (hv : v.isRef = true) (hl : storeLocals Ls k v = some l2) (hq : pc + 2 = q) (g : Go p e below Q (T.setTop (mkF m q l2 st))) : Go p e below Q (T.setTop (mkF m pc Ls (v :: st))) := by
  subst hq; exact Go.of (fun _ r => XS.astore h hx rfl hd rfl hv hl r) g
theorem Go.astoreN (h : At T m c below) (hx : p.tables.exec = Jvm.exec) {pc q : Nat} {Ls : Array Slot} {st : List Value} {k : Fin 4} {v : Value} {l2 : Array Slot} (hd : decode c.code pc = .ok (.astore_n k, 1)) (hv : v.isRef = true) (hl : storeLocals Ls k.val v = some l2) (hq : pc + 1 = q) (g : Go p e below Q (T.setTop (mkF m q l2 st))) : Go p e below Q (T.setTop (mkF m pc Ls (v :: st))) := by
  subst hq; exact Go.of (fun _ r => XS.astoreN h hx rfl hd rfl hv hl r) g
theorem Go.iconst (h : At T m c below) (hx : p.tables.exec = Jvm.exec) {pc q : Nat} {Ls : Array Slot} {st : List Value} {i : Int} {v : Int32} (hd : decode c.code pc = .ok (.iconst i, 1)) (hv : Int32.ofInt i = v) (hq : pc + 1 = q) (g : Go p e below Q (T.setTop (mkF m q Ls (.int v :: st)))) : Go p e below Q (T.setTop (mkF m pc Ls st)) := by
  subst hq hv; exact Go.of (fun _ r => XS.iconst h hx rfl hd r) g
theorem Go.bipush (h : At T m c below) (hx : p.tables.exec = Jvm.exec) {pc q : Nat} {Ls : Array Slot} {st : List Value} {i : Int} {v : Int32} (hd : decode c.code pc = .ok (.bipush i, 2)) (hv : (Int8.ofInt i).toInt32 = v) (hq : pc + 2 = q) (g : Go p e below Q (T.setTop (mkF m q Ls (.int v :: st)))) : Go p e below Q (T.setTop (mkF m pc Ls st)) := by
  subst hq hv; exact Go.of (fun _ r => XS.bipush h hx rfl hd r) g
theorem Go.sipush (h : At T m c below) (hx : p.tables.exec = Jvm.exec) {pc q : Nat} {Ls : Array Slot} {st : List Value} {i : Int} {v : Int32} (hd : decode c.code pc = .ok (.sipush i, 3)) (hv : (Int16.ofInt i).toInt32 = v) (hq : pc + 3 = q) (g : Go p e below Q (T.setTop (mkF m q Ls (.int v :: st)))) : Go p e below Q (T.setTop (mkF m pc Ls st)) := by
  subst hq hv; exact Go.of (fun _ r => XS.sipush h hx rfl hd r) g
theorem Go.lconst (h : At T m c below) (hx : p.tables.exec = Jvm.exec) {pc q : Nat} {Ls : Array Slot} {st : List Value} {k : Fin 2} {v : Int64} (hd : decode c.code pc = .ok (.lconst k, 1)) (hv : Int64.ofNat k = v) (hq : pc + 1 = q) (g : Go p e below Q (T.setTop (mkF m q Ls (.long v :: st)))) : Go p e below Q (T.setTop (mkF m pc Ls st)) := by
  subst hq hv; exact Go.of (fun _ r => XS.lconst h hx rfl hd r) g
theorem Go.aconst (h : At T m c below) (hx : p.tables.exec = Jvm.exec) {pc q : Nat} {Ls : Array Slot} {st : List Value}  (hd : decode c.code pc = .ok (.aconst_null, 1)) (hq : pc + 1 = q) (g : Go p e below Q (T.setTop (mkF m q Ls (.null :: st)))) : Go p e below Q (T.setTop (mkF m pc Ls st)) := by
  subst hq; exact Go.of (fun _ r => XS.aconstNull h hx rfl hd r) g
theorem Go.dconst0 (h : At T m c below) (hx : p.tables.exec = Jvm.exec) {pc q : Nat} {Ls : Array Slot} {st : List Value} {v : UInt64} (hd : decode c.code pc = .ok (.dconst 0, 1)) (hv : FP.dconst0 = v) (hq : pc + 1 = q) (g : Go p e below Q (T.setTop (mkF m q Ls (.double v :: st)))) : Go p e below Q (T.setTop (mkF m pc Ls st)) := by
  subst hq; exact Go.of (fun _ r => XS.dconst0 h hx rfl hd hv r) g
theorem Go.dconst1 (h : At T m c below) (hx : p.tables.exec = Jvm.exec) {pc q : Nat} {Ls : Array Slot} {st : List Value} {v : UInt64} (hd : decode c.code pc = .ok (.dconst 1, 1)) (hv : FP.dconst1 = v) (hq : pc + 1 = q) (g : Go p e below Q (T.setTop (mkF m q Ls (.double v :: st)))) : Go p e below Q (T.setTop (mkF m pc Ls st)) := by
  subst hq; exact Go.of (fun _ r => XS.dconst1 h hx rfl hd hv r) g
theorem Go.fconst0 (h : At T m c below) (hx : p.tables.exec = Jvm.exec) {pc q : Nat} {Ls : Array Slot} {st : List Value} {v : UInt32} (hd : decode c.code pc = .ok (.fconst 0, 1)) (hv : FP.fconst0 = v) (hq : pc + 1 = q) (g : Go p e below Q (T.setTop (mkF m q Ls (.float v :: st)))) : Go p e below Q (T.setTop (mkF m pc Ls st)) := by
  subst hq; exact Go.of (fun _ r => XS.fconst0 h hx rfl hd hv r) g
theorem Go.fconst1 (h : At T m c below) (hx : p.tables.exec = Jvm.exec) {pc q : Nat} {Ls : Array Slot} {st : List Value} {v : UInt32} (hd : decode c.code pc = .ok (.fconst 1, 1)) (hv : FP.fconst1 = v) (hq : pc + 1 = q) (g : Go p e below Q (T.setTop (mkF m q Ls (.float v :: st)))) : Go p e below Q (T.setTop (mkF m pc Ls st)) := by
  subst hq; exact Go.of (fun _ r => XS.fconst1 h hx rfl hd hv r) g
theorem Go.iadd (h : At T m c below) (hx : p.tables.exec = Jvm.exec) {pc q : Nat} {Ls : Array Slot} {st : List Value} {x : Int32} {y : Int32} {v : Int32} (hd : decode c.code pc = .ok (.iadd, 1)) (hv : x + y = v) (hq : pc + 1 = q) (g : Go p e below Q (T.setTop (mkF m q Ls (.int v :: st)))) : Go p e below Q (T.setTop (mkF m pc Ls (.int y :: .int x :: st))) := by
  subst hq hv; exact Go.of (fun _ r => XS.iadd h hx rfl hd rfl r) g
theorem Go.isub (h : At T m c below) (hx : p.tables.exec = Jvm.exec) {pc q : Nat} {Ls : Array Slot} {st : List Value} {x : Int32} {y : Int32} {v : Int32} (hd : decode c.code pc = .ok (.isub, 1)) (hv : x - y = v) (hq : pc + 1 = q) (g : Go p e below Q (T.setTop (mkF m q Ls (.int v :: st)))) : Go p e below Q (T.setTop (mkF m pc Ls (.int y :: .int x :: st))) := by
  subst hq hv; exact Go.of (fun _ r => XS.isub h hx rfl hd rfl r) g
theorem Go.iand (h : At T m c below) (hx : p.tables.exec = Jvm.exec) {pc q : Nat} {Ls : Array Slot} {st : List Value} {x : Int32} {y : Int32} {v : Int32} (hd : decode c.code pc = .ok (.iand, 1)) (hv : x &&& y = v) (hq : pc + 1 = q) (g : Go p e below Q (T.setTop (mkF m q Ls (.int v :: st)))) : Go p e below Q (T.setTop (mkF m pc Ls (.int y :: .int x :: st))) := by
  subst hq hv; exact Go.of (fun _ r => XS.iand h hx rfl hd rfl r) g
theorem Go.imul (h : At T m c below) (hx : p.tables.exec = Jvm.exec) {pc q : Nat} {Ls : Array Slot} {st : List Value} {x : Int32} {y : Int32} {v : Int32} (hd : decode c.code pc = .ok (.imul, 1)) (hv : x * y = v) (hq : pc + 1 = q) (g : Go p e below Q (T.setTop (mkF m q Ls (.int v :: st)))) : Go p e below Q (T.setTop (mkF m pc Ls (.int y :: .int x :: st))) := by
  subst hq hv; exact Go.of (fun _ r => XS.imul h hx rfl hd rfl r) g
theorem Go.ixor (h : At T m c below) (hx : p.tables.exec = Jvm.exec) {pc q : Nat} {Ls : Array Slot} {st : List Value} {x : Int32} {y : Int32} {v : Int32} (hd : decode c.code pc = .ok (.ixor, 1)) (hv : x ^^^ y = v) (hq : pc + 1 = q) (g : Go p e below Q (T.setTop (mkF m q Ls (.int v :: st)))) : Go p e below Q (T.setTop (mkF m pc Ls (.int y :: .int x :: st))) := by
  subst hq hv; exact Go.of (fun _ r => XS.ixor h hx rfl hd rfl r) g
theorem Go.ior (h : At T m c below) (hx : p.tables.exec = Jvm.exec) {pc q : Nat} {Ls : Array Slot} {st : List Value} {x : Int32} {y : Int32} {v : Int32} (hd : decode c.code pc = .ok (.ior, 1)) (hv : x ||| y = v) (hq : pc + 1 = q) (g : Go p e below Q (T.setTop (mkF m q Ls (.int v :: st)))) : Go p e below Q (T.setTop (mkF m pc Ls (.int y :: .int x :: st))) := by
  subst hq hv; exact Go.of (fun _ r => XS.ior h hx rfl hd rfl r) g
theorem Go.ishl (h : At T m c below) (hx : p.tables.exec = Jvm.exec) {pc q : Nat} {Ls : Array Slot} {st : List Value} {x : Int32} {y : Int32} {v : Int32} (hd : decode c.code pc = .ok (.ishl, 1)) (hv : x <<< (y &&& 31) = v) (hq : pc + 1 = q) (g : Go p e below Q (T.setTop (mkF m q Ls (.int v :: st)))) : Go p e below Q (T.setTop (mkF m pc Ls (.int y :: .int x :: st))) := by
  subst hq hv; exact Go.of (fun _ r => XS.ishl h hx rfl hd rfl r) g
theorem Go.ishr (h : At T m c below) (hx : p.tables.exec = Jvm.exec) {pc q : Nat} {Ls : Array Slot} {st : List Value} {x : Int32} {y : Int32} {v : Int32} (hd : decode c.code pc = .ok (.ishr, 1)) (hv : x >>> (y &&& 31) = v) (hq : pc + 1 = q) (g : Go p e below Q (T.setTop (mkF m q Ls (.int v :: st)))) : Go p e below Q (T.setTop (mkF m pc Ls (.int y :: .int x :: st))) := by
  subst hq hv; exact Go.of (fun _ r => XS.ishr h hx rfl hd rfl r) g
theorem Go.iushr (h : At T m c below) (hx : p.tables.exec = Jvm.exec) {pc q : Nat} {Ls : Array Slot} {st : List Value} {x : Int32} {y : Int32} {v : Int32} (hd : decode c.code pc = .ok (.iushr, 1)) (hv : (x.toUInt32 >>> (y &&& 31).toUInt32).toInt32 = v) (hq : pc + 1 = q) (g : Go p e below Q (T.setTop (mkF m q Ls (.int v :: st)))) : Go p e below Q (T.setTop (mkF m pc Ls (.int y :: .int x :: st))) := by
  subst hq hv; exact Go.of (fun _ r => XS.iushr h hx rfl hd rfl r) g
theorem Go.idiv (h : At T m c below) (hx : p.tables.exec = Jvm.exec) {pc q : Nat} {Ls : Array Slot} {st : List Value} {x : Int32} {y : Int32} {v : Int32} (hd : decode c.code pc = .ok (.idiv, 1)) (hy : y ≠ 0) (hv : x / y = v) (hq : pc + 1 = q) (g : Go p e below Q (T.setTop (mkF m q Ls (.int v :: st)))) : Go p e below Q (T.setTop (mkF m pc Ls (.int y :: .int x :: st))) := by
  subst hq hv; exact Go.of (fun _ r => XS.idiv h hx rfl hd rfl hy r) g
theorem Go.irem (h : At T m c below) (hx : p.tables.exec = Jvm.exec) {pc q : Nat} {Ls : Array Slot} {st : List Value} {x : Int32} {y : Int32} {v : Int32} (hd : decode c.code pc = .ok (.irem, 1)) (hy : y ≠ 0) (hv : x - (x / y) * y = v) (hq : pc + 1 = q) (g : Go p e below Q (T.setTop (mkF m q Ls (.int v :: st)))) : Go p e below Q (T.setTop (mkF m pc Ls (.int y :: .int x :: st))) := by
  subst hq hv; exact Go.of (fun _ r => XS.irem h hx rfl hd rfl hy r) g
theorem Go.ladd (h : At T m c below) (hx : p.tables.exec = Jvm.exec) {pc q : Nat} {Ls : Array Slot} {st : List Value} {x : Int64} {y : Int64} {v : Int64} (hd : decode c.code pc = .ok (.ladd, 1)) (hv : x + y = v) (hq : pc + 1 = q) (g : Go p e below Q (T.setTop (mkF m q Ls (.long v :: st)))) : Go p e below Q (T.setTop (mkF m pc Ls (.long y :: .long x :: st))) := by
  subst hq hv; exact Go.of (fun _ r => XS.ladd h hx rfl hd rfl r) g
theorem Go.lsub (h : At T m c below) (hx : p.tables.exec = Jvm.exec) {pc q : Nat} {Ls : Array Slot} {st : List Value} {x : Int64} {y : Int64} {v : Int64} (hd : decode c.code pc = .ok (.lsub, 1)) (hv : x - y = v) (hq : pc + 1 = q) (g : Go p e below Q (T.setTop (mkF m q Ls (.long v :: st)))) : Go p e below Q (T.setTop (mkF m pc Ls (.long y :: .long x :: st))) := by
  subst hq hv; exact Go.of (fun _ r => XS.lsub h hx rfl hd rfl r) g
theorem Go.lmul (h : At T m c below) (hx : p.tables.exec = Jvm.exec) {pc q : Nat} {Ls : Array Slot} {st : List Value} {x : Int64} {y : Int64} {v : Int64} (hd : decode c.code pc = .ok (.lmul, 1)) (hv : x * y = v) (hq : pc + 1 = q) (g : Go p e below Q (T.setTop (mkF m q Ls (.long v :: st)))) : Go p e below Q (T.setTop (mkF m pc Ls (.long y :: .long x :: st))) := by
  subst hq hv; exact Go.of (fun _ r => XS.lmul h hx rfl hd rfl r) g
theorem Go.land (h : At T m c below) (hx : p.tables.exec = Jvm.exec) {pc q : Nat} {Ls : Array Slot} {st : List Value} {x : Int64} {y : Int64} {v : Int64} (hd : decode c.code pc = .ok (.land, 1)) (hv : x &&& y = v) (hq : pc + 1 = q) (g : Go p e below Q (T.setTop (mkF m q Ls (.long v :: st)))) : Go p e below Q (T.setTop (mkF m pc Ls (.long y :: .long x :: st))) := by
  subst hq hv; exact Go.of (fun _ r => XS.land h hx rfl hd rfl r) g
theorem Go.lor (h : At T m c below) (hx : p.tables.exec = Jvm.exec) {pc q : Nat} {Ls : Array Slot} {st : List Value} {x : Int64} {y : Int64} {v : Int64} (hd : decode c.code pc = .ok (.lor, 1)) (hv : x ||| y = v) (hq : pc + 1 = q) (g : Go p e below Q (T.setTop (mkF m q Ls (.long v :: st)))) : Go p e below Q (T.setTop (mkF m pc Ls (.long y :: .long x :: st))) := by
  subst hq hv; exact Go.of (fun _ r => XS.lor h hx rfl hd rfl r) g
theorem Go.lxor (h : At T m c below) (hx : p.tables.exec = Jvm.exec) {pc q : Nat} {Ls : Array Slot} {st : List Value} {x : Int64} {y : Int64} {v : Int64} (hd : decode c.code pc = .ok (.lxor, 1)) (hv : x ^^^ y = v) (hq : pc + 1 = q) (g : Go p e below Q (T.setTop (mkF m q Ls (.long v :: st)))) : Go p e below Q (T.setTop (mkF m pc Ls (.long y :: .long x :: st))) := by
  subst hq hv; exact Go.of (fun _ r => XS.lxor h hx rfl hd rfl r) g
theorem Go.lshl (h : At T m c below) (hx : p.tables.exec = Jvm.exec) {pc q : Nat} {Ls : Array Slot} {st : List Value} {x : Int64} {y : Int32} {v : Int64} (hd : decode c.code pc = .ok (.lshl, 1)) (hv : x <<< (y &&& 0x3f).toInt64 = v) (hq : pc + 1 = q) (g : Go p e below Q (T.setTop (mkF m q Ls (.long v :: st)))) : Go p e below Q (T.setTop (mkF m pc Ls (.int y :: .long x :: st))) := by
  subst hq hv; exact Go.of (fun _ r => XS.lshl h hx rfl hd rfl r) g
theorem Go.lshr (h : At T m c below) (hx : p.tables.exec = Jvm.exec) {pc q : Nat} {Ls : Array Slot} {st : List Value} {x : Int64} {y : Int32} {v : Int64} (hd : decode c.code pc = .ok (.lshr, 1)) (hv : x >>> (y &&& 0x3f).toInt64 = v) (hq : pc + 1 = q) (g : Go p e below Q (T.setTop (mkF m q Ls (.long v :: st)))) : Go p e below Q (T.setTop (mkF m pc Ls (.int y :: .long x :: st))) := by
  subst hq hv; exact Go.of (fun _ r => XS.lshr h hx rfl hd rfl r) g
theorem Go.lushr (h : At T m c below) (hx : p.tables.exec = Jvm.exec) {pc q : Nat} {Ls : Array Slot} {st : List Value} {x : Int64} {y : Int32} {v : Int64} (hd : decode c.code pc = .ok (.lushr, 1)) (hv : (x.toUInt64 >>> (y &&& 0x3f).toInt64.toUInt64).toInt64 = v) (hq : pc + 1 = q) (g : Go p e below Q (T.setTop (mkF m q Ls (.long v :: st)))) : Go p e below Q (T.setTop (mkF m pc Ls (.int y :: .long x :: st))) := by
  subst hq hv; exact Go.of (fun _ r => XS.lushr h hx rfl hd rfl r) g
theorem Go.ldiv (h : At T m c below) (hx : p.tables.exec = Jvm.exec) {pc q : Nat} {Ls : Array Slot} {st : List Value} {x : Int64} {y : Int64} {v : Int64} (hd : decode c.code pc = .ok (.ldiv, 1)) (hy : y ≠ 0) (hv : x / y = v) (hq : pc + 1 = q) (g : Go p e below Q (T.setTop (mkF m q Ls (.long v :: st)))) : Go p e below Q (T.setTop (mkF m pc Ls (.long y :: .long x :: st))) := by
  subst hq hv; exact Go.of (fun _ r => XS.ldiv h hx rfl hd rfl hy r) g
theorem Go.lrem (h : At T m c below) (hx : p.tables.exec = Jvm.exec) {pc q : Nat} {Ls : Array Slot} {st : List Value} {x : Int64} {y : Int64} {v : Int64} (hd : decode c.code pc = .ok (.lrem, 1)) (hy : y ≠ 0) (hv : x - (x / y) * y = v) (hq : pc + 1 = q) (g : Go p e below Q (T.setTop (mkF m q Ls (.long v :: st)))) : Go p e below Q (T.setTop (mkF m pc Ls (.long y :: .long x :: st))) := by
  subst hq hv; exact Go.of (fun _ r => XS.lrem h hx rfl hd rfl hy r) g
theorem Go.lcmp (h : At T m c below) (hx : p.tables.exec = Jvm.exec) {pc q : Nat} {Ls : Array Slot} {st : List Value} {x : Int64} {y : Int64} {v : Int32} (hd : decode c.code pc = .ok (.lcmp, 1)) (hv : lcmpW x y = v) (hq : pc + 1 = q) (g : Go p e below Q (T.setTop (mkF m q Ls (.int v :: st)))) : Go p e below Q (T.setTop (mkF m pc Ls (.long y :: .long x :: st))) := by
  subst hq hv; exact Go.of (fun _ r => XS.lcmp h hx rfl hd rfl r) g
theorem Go.ineg (h : At T m c below) (hx : p.tables.exec = Jvm.exec) {pc q : Nat} {Ls : Array Slot} {st : List Value} {x : Int32} {v : Int32} (hd : decode c.code pc = .ok (.ineg, 1)) (hv : -x = v) (hq : pc + 1 = q) (g : Go p e below Q (T.setTop (mkF m q Ls (.int v :: st)))) : Go p e below Q (T.setTop (mkF m pc Ls (.int x :: st))) := by
  subst hq hv; exact Go.of (fun _ r => XS.ineg h hx rfl hd rfl r) g
theorem Go.lneg (h : At T m c below) (hx : p.tables.exec = Jvm.exec) {pc q : Nat} {Ls : Array Slot} {st : List Value} {x : Int64} {v : Int64} (hd : decode c.code pc = .ok (.lneg, 1)) (hv : -x = v) (hq : pc + 1 = q) (g : Go p e below Q (T.setTop (mkF m q Ls (.long v :: st)))) : Go p e below Q (T.setTop (mkF m pc Ls (.long x :: st))) := by
  subst hq hv; exact Go.of (fun _ r => XS.lneg h hx rfl hd rfl r) g
theorem Go.i2l (h : At T m c below) (hx : p.tables.exec = Jvm.exec) {pc q : Nat} {Ls : Array Slot} {st : List Value} {x : Int32} {v : Int64} (hd : decode c.code pc = .ok (.i2l, 1)) (hv : x.toInt64 = v) (hq : pc + 1 = q) (g : Go p e below Q (T.setTop (mkF m q Ls (.long v :: st)))) : Go p e below Q (T.setTop (mkF m pc Ls (.int x :: st))) := by
  subst hq hv; exact Go.of (fun _ r => XS.i2l h hx rfl hd rfl r) g
theorem Go.l2i (h : At T m c below) (hx : p.tables.exec = Jvm.exec) {pc q : Nat} {Ls : Array Slot} {st : List Value} {x : Int64} {v : Int32} (hd : decode c.code pc = .ok (.l2i, 1)) (hv : x.toInt32 = v) (hq : pc + 1 = q) (g : Go p e below Q (T.setTop (mkF m q Ls (.int v :: st)))) : Go p e below Q (T.setTop (mkF m pc Ls (.long x :: st))) := by
  subst hq hv; exact Go.of (fun _ r => XS.l2i h hx rfl hd rfl r) g
theorem Go.i2d (h : At T m c below) (hx : p.tables.exec = Jvm.exec) {pc q : Nat} {Ls : Array Slot} {st : List Value} {x : Int32} {v : UInt64} (hd : decode c.code pc = .ok (.i2d, 1)) (hv : FP.i2d x = v) (hq : pc + 1 = q) (g : Go p e below Q (T.setTop (mkF m q Ls (.double v :: st)))) : Go p e below Q (T.setTop (mkF m pc Ls (.int x :: st))) := by
  subst hq; exact Go.of (fun _ r => XS.i2dS h hx rfl hd rfl hv r) g
theorem Go.l2d (h : At T m c below) (hx : p.tables.exec = Jvm.exec) {pc q : Nat} {Ls : Array Slot} {st : List Value} {x : Int64} {v : UInt64} (hd : decode c.code pc = .ok (.l2d, 1)) (hv : FP.l2d x = v) (hq : pc + 1 = q) (g : Go p e below Q (T.setTop (mkF m q Ls (.double v :: st)))) : Go p e below Q (T.setTop (mkF m pc Ls (.long x :: st))) := by
  subst hq; exact Go.of (fun _ r => XS.l2dS h hx rfl hd rfl hv r) g
theorem Go.d2i (h : At T m c below) (hx : p.tables.exec = Jvm.exec) {pc q : Nat} {Ls : Array Slot} {st : List Value} {x : UInt64} {v : Int32} (hd : decode c.code pc = .ok (.d2i, 1)) (hv : FP.d2i x = v) (hq : pc + 1 = q) (g : Go p e below Q (T.setTop (mkF m q Ls (.int v :: st)))) : Go p e below Q (T.setTop (mkF m pc Ls (.double x :: st))) := by
  subst hq; exact Go.of (fun _ r => XS.d2iS h hx rfl hd rfl hv r) g
theorem Go.d2l (h : At T m c below) (hx : p.tables.exec = Jvm.exec) {pc q : Nat} {Ls : Array Slot} {st : List Value} {x : UInt64} {v : Int64} (hd : decode c.code pc = .ok (.d2l, 1)) (hv : FP.d2l x = v) (hq : pc + 1 = q) (g : Go p e below Q (T.setTop (mkF m q Ls (.long v :: st)))) : Go p e below Q (T.setTop (mkF m pc Ls (.double x :: st))) := by
  subst hq; exact Go.of (fun _ r => XS.d2lS h hx rfl hd rfl hv r) g
theorem Go.dneg (h : At T m c below) (hx : p.tables.exec = Jvm.exec) {pc q : Nat} {Ls : Array Slot} {st : List Value} {x : UInt64} {v : UInt64} (hd : decode c.code pc = .ok (.dneg, 1)) (hv : FP.dneg x = v) (hq : pc + 1 = q) (g : Go p e below Q (T.setTop (mkF m q Ls (.double v :: st)))) : Go p e below Q (T.setTop (mkF m pc Ls (.double x :: st))) := by
  subst hq; exact Go.of (fun _ r => XS.dnegS h hx rfl hd rfl hv r) g
theorem Go.i2f (h : At T m c below) (hx : p.tables.exec = Jvm.exec) {pc q : Nat} {Ls : Array Slot} {st : List Value} {x : Int32} {v : UInt32} (hd : decode c.code pc = .ok (.i2f, 1)) (hv : FP.i2f x = v) (hq : pc + 1 = q) (g : Go p e below Q (T.setTop (mkF m q Ls (.float v :: st)))) : Go p e below Q (T.setTop (mkF m pc Ls (.int x :: st))) := by
  subst hq; exact Go.of (fun _ r => XS.i2fS h hx rfl hd rfl hv r) g
theorem Go.l2f (h : At T m c below) (hx : p.tables.exec = Jvm.exec) {pc q : Nat} {Ls : Array Slot} {st : List Value} {x : Int64} {v : UInt32} (hd : decode c.code pc = .ok (.l2f, 1)) (hv : FP.l2f x = v) (hq : pc + 1 = q) (g : Go p e below Q (T.setTop (mkF m q Ls (.float v :: st)))) : Go p e below Q (T.setTop (mkF m pc Ls (.long x :: st))) := by
  subst hq; exact Go.of (fun _ r => XS.l2fS h hx rfl hd rfl hv r) g
theorem Go.dadd (h : At T m c below) (hx : p.tables.exec = Jvm.exec) {pc q : Nat} {Ls : Array Slot} {st : List Value} {x y v : UInt64} (hd : decode c.code pc = .ok (.dadd, 1)) (hn : NoNaN64 (FP.dadd x y)) (hv : FP.dadd x y = v) (hq : pc + 1 = q) (g : Go p e below Q (T.setTop (mkF m q Ls (.double v :: st)))) : Go p e below Q (T.setTop (mkF m pc Ls (.double y :: .double x :: st))) := by
  subst hq; exact Go.of (fun _ r => XS.daddS h hx rfl hd rfl hn hv r) g
theorem Go.dsub (h : At T m c below) (hx : p.tables.exec = Jvm.exec) {pc q : Nat} {Ls : Array Slot} {st : List Value} {x y v : UInt64} (hd : decode c.code pc = .ok (.dsub, 1)) (hn : NoNaN64 (FP.dsub x y)) (hv : FP.dsub x y = v) (hq : pc + 1 = q) (g : Go p e below Q (T.setTop (mkF m q Ls (.double v :: st)))) : Go p e below Q (T.setTop (mkF m pc Ls (.double y :: .double x :: st))) := by
  subst hq; exact Go.of (fun _ r => XS.dsubS h hx rfl hd rfl hn hv r) g
theorem Go.dmul (h : At T m c below) (hx : p.tables.exec = Jvm.exec) {pc q : Nat} {Ls : Array Slot} {st : List Value} {x y v : UInt64} (hd : decode c.code pc = .ok (.dmul, 1)) (hn : NoNaN64 (FP.dmul x y)) (hv : FP.dmul x y = v) (hq : pc + 1 = q) (g : Go p e below Q (T.setTop (mkF m q Ls (.double v :: st)))) : Go p e below Q (T.setTop (mkF m pc Ls (.double y :: .double x :: st))) := by
  subst hq; exact Go.of (fun _ r => XS.dmulS h hx rfl hd rfl hn hv r) g
theorem Go.ddiv (h : At T m c below) (hx : p.tables.exec = Jvm.exec) {pc q : Nat} {Ls : Array Slot} {st : List Value} {x y v : UInt64} (hd : decode c.code pc = .ok (.ddiv, 1)) (hn : NoNaN64 (FP.ddiv x y)) (hv : FP.ddiv x y = v) (hq : pc + 1 = q) (g : Go p e below Q (T.setTop (mkF m q Ls (.double v :: st)))) : Go p e below Q (T.setTop (mkF m pc Ls (.double y :: .double x :: st))) := by
  subst hq; exact Go.of (fun _ r => XS.ddivS h hx rfl hd rfl hn hv r) g
theorem Go.dcmp (h : At T m c below) (hx : p.tables.exec = Jvm.exec) {pc q : Nat} {Ls : Array Slot} {st : List Value} {o : CmpOp} {x y : UInt64} {v : Int32} (hd : decode c.code pc = .ok (.dcmp o, 1)) (hv : cmpValue (FP.dcmp x y) o = v) (hq : pc + 1 = q) (g : Go p e below Q (T.setTop (mkF m q Ls (.int v :: st)))) : Go p e below Q (T.setTop (mkF m pc Ls (.double y :: .double x :: st))) := by
  subst hq; exact Go.of (fun _ r => XS.dcmpS h hx rfl hd rfl hv r) g
theorem Go.fcmp (h : At T m c below) (hx : p.tables.exec = Jvm.exec) {pc q : Nat} {Ls : Array Slot} {st : List Value} {o : CmpOp} {x y : UInt32} {v : Int32} (hd : decode c.code pc = .ok (.fcmp o, 1)) (hv : cmpValue (FP.fcmp x y) o = v) (hq : pc + 1 = q) (g : Go p e below Q (T.setTop (mkF m q Ls (.int v :: st)))) : Go p e below Q (T.setTop (mkF m pc Ls (.float y :: .float x :: st))) := by
  subst hq; exact Go.of (fun _ r => XS.fcmpS h hx rfl hd rfl hv r) g
theorem Go.dup (h : At T m c below) (hx : p.tables.exec = Jvm.exec) {pc q : Nat} {Ls : Array Slot} {st : List Value} {v : Value} (hd : decode c.code pc = .ok (.dup, 1)) (hc : v.category = 1) (hq : pc + 1 = q) (g : Go p e below Q (T.setTop (mkF m q Ls (v :: v :: st)))) : Go p e below Q (T.setTop (mkF m pc Ls (v :: st))) := by
  subst hq; exact Go.of (fun _ r => XS.dup h hx rfl hd rfl hc r) g
theorem Go.dup2 (h : At T m c below) (hx : p.tables.exec = Jvm.exec) {pc q : Nat} {Ls : Array Slot} {st : List Value} {v w : Value} (hd : decode c.code pc = .ok (.dup2, 1)) (hc : v.category = 1) (hc2 : w.category = 1) (hq : pc + 1 = q) (g : Go p e below Q (T.setTop (mkF m q Ls (v :: w :: v :: w :: st)))) : Go p e below Q (T.setTop (mkF m pc Ls (v :: w :: st))) := by
  subst hq; exact Go.of (fun _ r => Jvm.Free.XT.dup2 h hx rfl hd rfl hc hc2 r) g
theorem Go.pop (h : At T m c below) (hx : p.tables.exec = Jvm.exec) {pc q : Nat} {Ls : Array Slot} {st : List Value} {v : Value} (hd : decode c.code pc = .ok (.pop, 1)) (hc : v.category = 1) (hq : pc + 1 = q) (g : Go p e below Q (T.setTop (mkF m q Ls st))) : Go p e below Q (T.setTop (mkF m pc Ls (v :: st))) := by
  subst hq; exact Go.of (fun _ r => XS.pop h hx rfl hd rfl hc r) g
theorem step_dup2x1 {tb : Tables} [Ours tb] {target : State} {g : JFrame} (h : At T m c below) (hx : tb.exec = Jvm.exec) (hg : g.method = m) {x : Int64} {b : Value} {rest : List Value} (hd : decode c.code g.pc = .ok (.dup2_x1, 1)) (hs : g.stack = .long x :: b :: rest) (hb : b.category = 1)
    (hr : Steps tb e below (T.setTop { g with pc := g.pc + 1, stack := .long x :: b :: .long x :: rest }) target) : Steps tb e below (T.setTop g) target := by
  subst hg
  jvm_step h [h.top, hx, hd, hs, hb, Value.category]
  exact ⟨hb, hr⟩
theorem Go.dup2x1 (h : At T m c below) (hx : p.tables.exec = Jvm.exec) {pc q : Nat} {Ls : Array Slot} {st : List Value} {x : Int64} {b : Value} (hd : decode c.code pc = .ok (.dup2_x1, 1)) (hb : b.category = 1) (hq : pc + 1 = q) (g : Go p e below Q (T.setTop (mkF m q Ls (.long x :: b :: .long x :: st)))) : Go p e below Q (T.setTop (mkF m pc Ls (.long x :: b :: st))) := by
  subst hq; exact Go.of (fun _ r => step_dup2x1 h hx rfl hd rfl hb r) g
theorem Go.iinc (h : At T m c below) (hx : p.tables.exec = Jvm.exec) {pc q : Nat} {Ls : Array Slot} {st : List Value} {k : Nat} {cst : Int} {x v : Int32} {l2 : Array Slot} (hd : decode c.code pc = .ok (.iinc k cst, 3)) (hl : Ls[k]? = some (.val (.int x))) (hv : x + Int32.ofInt cst = v) (hl2 : storeLocals Ls k (.int v) = some l2) (hq : pc + 3 = q) (g : Go p e below Q (T.setTop (mkF m q l2 st))) : Go p e below Q (T.setTop (mkF m pc Ls st)) := by
  subst hq hv; exact Go.of (fun _ r => XS.iinc h hx rfl hd hl hl2 r) g
theorem Go.goto (h : At T m c below) (hx : p.tables.exec = Jvm.exec) {pc q : Nat} {Ls : Array Slot} {st : List Value} {o : Int} (hd : decode c.code pc = .ok (.goto o, 3)) (ho : 0 ≤ (pc : Int) + o) (hq : ((pc : Int) + o).toNat = q) (g : Go p e below Q (T.setTop (mkF m q Ls st))) : Go p e below Q (T.setTop (mkF m pc Ls st)) := Go.of (fun _ r => XS.goto h hx rfl rfl hd ho hq r) g
theorem Go.ifY (h : At T m c below) (hx : p.tables.exec = Jvm.exec) {pc q : Nat} {Ls : Array Slot} {st : List Value} {cd : ClassFile.Cond} {x : Int32} {o : Int} (hd : decode c.code pc = .ok (.ifCond cd o, 3)) (hc : ifCond.holds cd x = true) (ho : 0 ≤ (pc : Int) + o) (hq : ((pc : Int) + o).toNat = q) (g : Go p e below Q (T.setTop (mkF m q Ls st))) : Go p e below Q (T.setTop (mkF m pc Ls (.int x :: st))) := Go.of (fun _ r => XS.ifYes h hx rfl rfl hd rfl hc ho hq r) g
theorem Go.ifN (h : At T m c below) (hx : p.tables.exec = Jvm.exec) {pc q : Nat} {Ls : Array Slot} {st : List Value} {cd : ClassFile.Cond} {x : Int32} {o : Int} (hd : decode c.code pc = .ok (.ifCond cd o, 3)) (hc : ifCond.holds cd x = false) (hq : pc + 3 = q) (g : Go p e below Q (T.setTop (mkF m q Ls st))) : Go p e below Q (T.setTop (mkF m pc Ls (.int x :: st))) := by
  subst hq; exact Go.of (fun _ r => XS.ifNo h hx rfl hd rfl hc r) g
theorem Go.icmpY (h : At T m c below) (hx : p.tables.exec = Jvm.exec) {pc q : Nat} {Ls : Array Slot} {st : List Value} {cd : ClassFile.Cond} {x y : Int32} {o : Int} (hd : decode c.code pc = .ok (.if_icmp cd o, 3)) (hc : if_icmp.holds cd x y = true) (ho : 0 ≤ (pc : Int) + o) (hq : ((pc : Int) + o).toNat = q) (g : Go p e below Q (T.setTop (mkF m q Ls st))) : Go p e below Q (T.setTop (mkF m pc Ls (.int y :: .int x :: st))) := Go.of (fun _ r => XS.icmpYes h hx rfl rfl hd rfl hc ho hq r) g
theorem Go.icmpN (h : At T m c below) (hx : p.tables.exec = Jvm.exec) {pc q : Nat} {Ls : Array Slot} {st : List Value} {cd : ClassFile.Cond} {x y : Int32} {o : Int} (hd : decode c.code pc = .ok (.if_icmp cd o, 3)) (hc : if_icmp.holds cd x y = false) (hq : pc + 3 = q) (g : Go p e below Q (T.setTop (mkF m q Ls st))) : Go p e below Q (T.setTop (mkF m pc Ls (.int y :: .int x :: st))) := by
  subst hq; exact Go.of (fun _ r => XS.icmpNo h hx rfl hd rfl hc r) g
theorem Go.acmpY (h : At T m c below) (hx : p.tables.exec = Jvm.exec) {pc q : Nat} {Ls : Array Slot} {st : List Value} {cd : ClassFile.ACond} {a b : Addr} {o : Int} (hd : decode c.code pc = .ok (.if_acmp cd o, 3)) (hc : if_acmp.holds cd (some a) (some b) = true) (ho : 0 ≤ (pc : Int) + o) (hq : ((pc : Int) + o).toNat = q) (g : Go p e below Q (T.setTop (mkF m q Ls st))) : Go p e below Q (T.setTop (mkF m pc Ls (.ref b :: .ref a :: st))) := Go.of (fun _ r => XS.acmpYes h hx rfl rfl hd rfl hc ho hq r) g
theorem Go.acmpN (h : At T m c below) (hx : p.tables.exec = Jvm.exec) {pc q : Nat} {Ls : Array Slot} {st : List Value} {cd : ClassFile.ACond} {a b : Addr} {o : Int} (hd : decode c.code pc = .ok (.if_acmp cd o, 3)) (hc : if_acmp.holds cd (some a) (some b) = false) (hq : pc + 3 = q) (g : Go p e below Q (T.setTop (mkF m q Ls st))) : Go p e below Q (T.setTop (mkF m pc Ls (.ref b :: .ref a :: st))) := by
  subst hq; exact Go.of (fun _ r => XS.acmpNo h hx rfl hd rfl hc r) g
theorem Go.nullY (h : At T m c below) (hx : p.tables.exec = Jvm.exec) {pc q : Nat} {Ls : Array Slot} {st : List Value} {o : Int} (hd : decode c.code pc = .ok (.ifnull o, 3)) (ho : 0 ≤ (pc : Int) + o) (hq : ((pc : Int) + o).toNat = q) (g : Go p e below Q (T.setTop (mkF m q Ls st))) : Go p e below Q (T.setTop (mkF m pc Ls (.null :: st))) := Go.of (fun _ r => XS.ifnullYes h hx rfl rfl hd rfl ho hq r) g
theorem Go.nullN (h : At T m c below) (hx : p.tables.exec = Jvm.exec) {pc q : Nat} {Ls : Array Slot} {st : List Value} {o : Int} {b : Addr} (hd : decode c.code pc = .ok (.ifnull o, 3)) (hq : pc + 3 = q) (g : Go p e below Q (T.setTop (mkF m q Ls st))) : Go p e below Q (T.setTop (mkF m pc Ls (.ref b :: st))) := by
  subst hq; exact Go.of (fun _ r => XS.ifnullNo h hx rfl hd rfl r) g
theorem Go.nonnullY (h : At T m c below) (hx : p.tables.exec = Jvm.exec) {pc q : Nat} {Ls : Array Slot} {st : List Value} {o : Int} {b : Addr} (hd : decode c.code pc = .ok (.ifnonnull o, 3)) (ho : 0 ≤ (pc : Int) + o) (hq : ((pc : Int) + o).toNat = q) (g : Go p e below Q (T.setTop (mkF m q Ls st))) : Go p e below Q (T.setTop (mkF m pc Ls (.ref b :: st))) := Go.of (fun _ r => XS.ifnonnullYes h hx rfl rfl hd rfl ho hq r) g
theorem Go.nonnullN (h : At T m c below) (hx : p.tables.exec = Jvm.exec) {pc q : Nat} {Ls : Array Slot} {st : List Value} {o : Int} (hd : decode c.code pc = .ok (.ifnonnull o, 3)) (hq : pc + 3 = q) (g : Go p e below Q (T.setTop (mkF m q Ls st))) : Go p e below Q (T.setTop (mkF m pc Ls (.null :: st))) := by
  subst hq; exact Go.of (fun _ r => XS.ifnonnullNo h hx rfl hd rfl r) g
theorem Go.ldcI (X : Stand p l e R s m args below meth c T locs cells slots) (hx : p.tables.exec = Jvm.exec) {own : String} {index : Nat} {v : Int32} (hown : s.vm.findClass own = some m.cls) (w : (Jvm.Cond.constant own index v).before args s = true) {pc q : Nat} {Ls : Array Slot} {st : List Value} (hd : decode c.code pc = .ok (.ldc index, 2)) (hq : pc + 2 = q) (g : Go p e below Q (T.setTop (mkF m q Ls (.int v :: st)))) : Go p e below Q (T.setTop (mkF m pc Ls st)) := by
  subst hq; exact Go.of (fun _ r => X.ldcInt hx hown w (g := mkF m pc Ls st) rfl hd _ r) g
theorem Go.ldc2J (X : Stand p l e R s m args below meth c T locs cells slots) (hx : p.tables.exec = Jvm.exec) {own : String} {index : Nat} {v : Int64} (hown : s.vm.findClass own = some m.cls) (w : (Jvm.Cond.constantLong own index v).before args s = true) {pc q : Nat} {Ls : Array Slot} {st : List Value} (hd : decode c.code pc = .ok (.ldc2_w index, 3)) (hq : pc + 3 = q) (g : Go p e below Q (T.setTop (mkF m q Ls (.long v :: st)))) : Go p e below Q (T.setTop (mkF m pc Ls st)) := by
  subst hq; exact Go.of (fun _ r => X.ldc2Long hx hown w (g := mkF m pc Ls st) rfl hd _ r) g
theorem Go.ldc2D (X : Stand p l e R s m args below meth c T locs cells slots) (hx : p.tables.exec = Jvm.exec) {own : String} {index : Nat} {v : UInt64} (hown : s.vm.findClass own = some m.cls) (w : (Jvm.Cond.constantDouble own index v).before args s = true) {pc q : Nat} {Ls : Array Slot} {st : List Value} (hd : decode c.code pc = .ok (.ldc2_w index, 3)) (hq : pc + 3 = q) (g : Go p e below Q (T.setTop (mkF m q Ls (.double v :: st)))) : Go p e below Q (T.setTop (mkF m pc Ls st)) := by
  subst hq; exact Go.of (fun _ r => X.ldc2DoubleC hx hown w (g := mkF m pc Ls st) rfl hd _ r) g
theorem Go.ldcF (X : Stand p l e R s m args below meth c T locs cells slots) (hx : p.tables.exec = Jvm.exec) {own : String} {index : Nat} {v : UInt32} (hown : s.vm.findClass own = some m.cls) (w : (Jvm.Cond.constantFloat own index v).before args s = true) {pc q : Nat} {Ls : Array Slot} {st : List Value} (hd : decode c.code pc = .ok (.ldc index, 2)) (hq : pc + 2 = q) (g : Go p e below Q (T.setTop (mkF m q Ls (.float v :: st)))) : Go p e below Q (T.setTop (mkF m pc Ls st)) := by
  subst hq; exact Go.of (fun _ r => X.ldcFloatC hx hown w (g := mkF m pc Ls st) rfl hd _ r) g
end OwnGo

/-! own layer 3: steps that touch the heap, and calls by contract, in the same forward form -/
section OwnHeap
variable {p : Program} {l : Launch} {e : Env} {R : Room} {s : State} {m : MethodId} {args : Array Value} {below : List Frame} {meth : Method} {c : Code} {T : State} {locs : List Loc} {cells slots : Nat} {Q : Outcome → State → Prop} {Z : State} {a0 : Array Value} {h : Heap}
/-- a callee's contract at one call -/
abbrev Con (l : Launch) (Z : State) (y : MethodName) (bytes : ByteArray) (maxL : Nat) (ret : Option FieldType) (rm : Room) (as' : Array Value) (h : Heap) (Qv : Option Value → Heap → List Loc → Prop) : Prop :=
  MetFree l y (head1 [Jvm.Cond.code y bytes maxL ret] rm) (fun a U => a = as' ∧ Z.Warmed39 U.vm ∧ U.heap = h) (fun _ _ _ _ _ => True) (fun _ U o U' => ∃ v L, o = .returned v ∧ Qv v U'.heap L ∧ FrameEnd U o U' L rm.cells rm.slots)
theorem Go.new (X : Stand p l e R s m args below meth c T locs cells slots) (hx : p.tables.exec = Jvm.exec) (hZ : Z.Warmed39 s.vm) {own C : String} {index n : Nat} (hown : s.vm.findClass own = some m.cls) (w : (Jvm.Cond.classLink own index C).before a0 Z = true) (wi : (Jvm.Cond.instantiable C n).before a0 Z = true) (wz : (Jvm.Cond.initialized C).before a0 Z = true) (eT : T.heap = h)
    {pc q : Nat} {Ls : Array Slot} {st : List Value} (hd : decode c.code pc = .ok (.new index, 3)) (hc : cells + 1 ≤ R.cells) (hl : slots + n ≤ R.slots) (hq : pc + 3 = q)
    (k : ∀ (T' : State) (h' : Heap) (a : Addr), a = h.size → Stand p l e R s m args below meth c T' locs (cells + 1) (slots + n) → T'.heap = h' → Ext h h' → Exa Z h' a C → (∀ {O nm d : String} {ty : FieldType}, Laid Z a0 C O nm d → parseFieldDescriptor d = some ty → Fld Z h' a O nm d (defaultValue ty)) →
      Go p e below Q (T'.setTop (mkF m q Ls (.ref a :: st)))) : Go p e below Q (T.setTop (mkF m pc Ls st)) := by
  subst hq
  obtain ⟨T', h', X', e', E', A', D', -, st'⟩ := newO X hx hZ hown w wi wz eT (g := mkF m pc Ls st) rfl hd hc hl
  exact Go.of st' (k T' h' _ rfl X' e' E' A' D')
theorem Go.getf (X : Stand p l e R s m args below meth c T locs cells slots) (hx : p.tables.exec = Jvm.exec) (hZ : Z.Warmed39 s.vm) {own O n d : String} {index : Nat} (hown : s.vm.findClass own = some m.cls) (w : (Jvm.Cond.fieldLink own index O n d).before a0 Z = true) (eT : T.heap = h) {a : Addr} {v : Value} (F : Fld Z h a O n d v)
    {pc q : Nat} {Ls : Array Slot} {st : List Value} (hd : decode c.code pc = .ok (.getfield index, 3)) (hq : pc + 3 = q)
    (k : ∀ T' : State, Stand p l e R s m args below meth c T' locs cells slots → T'.heap = h → Go p e below Q (T'.setTop (mkF m q Ls (v :: st)))) : Go p e below Q (T.setTop (mkF m pc Ls (.ref a :: st))) := by
  subst hq
  obtain ⟨T', X', e', st'⟩ := getF X hx hZ hown (host := "") (Or.inl w) Via.refl eT F (g := mkF m pc Ls (.ref a :: st)) rfl rfl hd
  exact Go.of st' (k T' X' e')
theorem Go.gets (X : Stand p l e R s m args below meth c T locs cells slots) (hx : p.tables.exec = Jvm.exec) (hZ : Z.Warmed39 s.vm) {own O n d : String} {index : Nat} (hown : s.vm.findClass own = some m.cls) (w : (Jvm.Cond.fieldLink own index O n d).before a0 Z = true) (eT : T.heap = h) {v : Value} (F : Sta Z h O n d v)
    {pc q : Nat} {Ls : Array Slot} {st : List Value} (hd : decode c.code pc = .ok (.getstatic index, 3)) (hq : pc + 3 = q)
    (k : ∀ T' : State, Stand p l e R s m args below meth c T' locs cells slots → T'.heap = h → Go p e below Q (T'.setTop (mkF m q Ls (v :: st)))) : Go p e below Q (T.setTop (mkF m pc Ls st)) := by
  subst hq
  obtain ⟨T', X', e', st'⟩ := getS X hx hZ hown (host := "") w Via.refl eT F (g := mkF m pc Ls st) rfl hd
  exact Go.of st' (k T' X' e')
theorem Go.putf (X : Stand p l e R s m args below meth c T locs cells slots) (hx : p.tables.exec = Jvm.exec) (hZ : Z.Warmed39 s.vm) {own O n d C : String} {index kk : Nat} {ty : FieldType} (hown : s.vm.findClass own = some m.cls) (w : (Jvm.Cond.fieldLink own index O n d).before a0 Z = true) (eT : T.heap = h) {a : Addr} {v old : Value} (F : Fld Z h a O n d old) (E : Exa Z h a C)
    (L : (Jvm.Cond.lays C O n d).before a0 Z = true ∨ ((Jvm.Cond.laysFinal C O n d).before a0 Z = true ∧ own = O ∧ meth.name = "<init>")) (wi : (Jvm.Cond.instantiable C kk).before a0 Z = true) (hty : parseFieldDescriptor d = some ty) (hn : narrow ty v = v) (hf : fits ty v = true)
    {pc q : Nat} {Ls : Array Slot} {st : List Value} (hd : decode c.code pc = .ok (.putfield index, 3)) (hq : pc + 3 = q)
    (k : ∀ (T' : State) (h' : Heap), Stand p l e R s m args below meth c T' (locs ++ [⟨a, Jvm.RoadKit.slotOf Z O n d⟩]) cells slots → T'.heap = h' → Wr h h' a (Jvm.RoadKit.slotOf Z O n d) v → Go p e below Q (T'.setTop (mkF m q Ls st))) : Go p e below Q (T.setTop (mkF m pc Ls (v :: .ref a :: st))) := by
  subst hq
  obtain ⟨T', h', X', e', W', st'⟩ := putF X hx hZ hown (host := "") (Or.inl w) Via.refl eT F E L wi hty hn hf (g := mkF m pc Ls (v :: .ref a :: st)) rfl rfl hd
  exact Go.of st' (k T' h' X' e' W')
theorem Go.init (X : Stand p l e R s m args below meth c T locs cells slots) (hx : p.tables.exec = Jvm.exec) (hZ : Z.Warmed39 s.vm) {own : String} {index : Nat} (hown : s.vm.findClass own = some m.cls) (w1 : (Jvm.Cond.methodLink own index Lib.objectInit).before a0 Z = true) (w2 : (Jvm.Cond.instanceMethod Lib.objectInit).before a0 Z = true) (w3 : (Jvm.Cond.code Lib.objectInit ⟨#[0xb1]⟩ 1 none).before a0 Z = true) (eT : T.heap = h)
    {pc q : Nat} {Ls : Array Slot} {st : List Value} {a : Addr} {W : Nat} (hd : decode c.code pc = .ok (.invokespecial index, 3)) (hsz : Ls.size = c.maxLocals) (hf : 1 ≤ R.frames) (hW : (st.map fun v => v.category).sum ≤ W) (hl : W + 12 ≤ R.locals) (hq : pc + 3 = q)
    (k : ∀ T' : State, Stand p l e R s m args below meth c T' locs cells slots → T'.heap = h → Go p e below Q (T'.setTop (mkF m q Ls st))) : Go p e below Q (T.setTop (mkF m pc Ls (.ref a :: st))) := by
  subst hq
  obtain ⟨T', X', e', st'⟩ := initO X hx hZ hown w1 w2 w3 eT (g := mkF m pc Ls (.ref a :: st)) rfl hsz rfl hd hf (W := W) (by show 2 * 0 + _ ≤ _; omega) hl
  exact Go.of st' (k T' X' e')
theorem Go.special (X : Stand p l e R s m args below meth c T locs cells slots) (hx : p.tables.exec = Jvm.exec) (hZ : Z.Warmed39 s.vm) {own : String} {index : Nat} {y : MethodName} (hy1 : y.name = "<init>") (hown : s.vm.findClass own = some m.cls) (w1 : (Jvm.Cond.methodLink own index y).before a0 Z = true) (w2 : (Jvm.Cond.instanceMethod y).before a0 Z = true)
    {bytes : ByteArray} {maxL : Nat} (w3 : (Jvm.Cond.code y bytes maxL none).before a0 Z = true) (wz : (Jvm.Cond.initialized y.cls).before a0 Z = true) (hy : y.cls ≠ "java/lang/invoke/MethodHandle" ∧ y.cls ≠ "java/lang/invoke/VarHandle")
    {rm : Room} {as' : Array Value} {Qv : Option Value → Heap → List Loc → Prop} (hM : Con l Z y bytes maxL none rm as' h Qv) (eT : T.heap = h) {pc q : Nat} {Ls : Array Slot} {st : List Value} {a : Addr} {argsL rest : List Value} {W : Nat} (hd : decode c.code pc = .ok (.invokespecial index, 3))
    (hst : st = argsL.reverse ++ .ref a :: rest) (has : as' = (.ref a :: argsL).toArray) (hlen : ∀ sig, parseMethodDescriptor y.desc = some sig → argsL.length = sig.parameters.length) (hsz : Ls.size = c.maxLocals) (hW : (rest.map fun v => v.category).sum ≤ W)
    (hf : rm.frames + 1 ≤ R.frames) (hl : W + (maxL + 11) + rm.locals ≤ R.locals) (hc : cells + rm.cells ≤ R.cells) (hs : slots + rm.slots ≤ R.slots) (hq : pc + 3 = q)
    (k : ∀ (T' : State) (L : List Loc) (v : Option Value), Stand p l e R s m args below meth c T' (locs ++ L) (cells + rm.cells) (slots + rm.slots) → Qv v T'.heap L → Go p e below Q (T'.setTop (mkF m q Ls (v.toList ++ rest)))) : Go p e below Q (T.setTop (mkF m pc Ls st)) := by
  subst hq hst has
  obtain ⟨v, vm₁, ⟨T', L', k', n'⟩, -, X', ⟨Lc, hQ, l1, y1, z1⟩, st'⟩ := X.specialBack hx (y := y) hy1 hown (mvT hZ w1) (mvT hZ w2) (mvT hZ w3) hy (backOf (W := W) hM hZ w3 wz hf hl) (g := mkF m pc Ls (argsL.reverse ++ .ref a :: rest)) rfl hsz (Steps.refl _) (a := a) (argsL := argsL) (rest := rest) hlen rfl (by show 2 * 0 + _ ≤ _; omega) hd (fun _ _ => ⟨rfl, eT, hc, hs⟩)
  dsimp only [Pt.U, Pt.locs, Pt.cells, Pt.slots] at X' l1 y1 z1 st' hQ
  subst l1 y1 z1
  exact Go.tr st' (k T' Lc v X' hQ)
theorem Go.virtual (X : Stand p l e R s m args below meth c T locs cells slots) (hx : p.tables.exec = Jvm.exec) (hZ : Z.Warmed39 s.vm) {own C : String} {index : Nat} {y : MethodName} (hown : s.vm.findClass own = some m.cls) (w1 : (Jvm.Cond.methodLink own index y).before a0 Z = true) (w2 : (Jvm.Cond.declares y).before a0 Z = true) (w3 : (Jvm.Cond.selects C y y).before a0 Z = true) (w4 : (Jvm.Cond.instanceMethod y).before a0 Z = true)
    {bytes : ByteArray} {maxL : Nat} {ret : Option FieldType} (w5 : (Jvm.Cond.code y bytes maxL ret).before a0 Z = true) (wz : (Jvm.Cond.initialized y.cls).before a0 Z = true) (hy : y.cls ≠ "java/lang/invoke/MethodHandle" ∧ y.cls ≠ "java/lang/invoke/VarHandle")
    {rm : Room} {as' : Array Value} {Qv : Option Value → Heap → List Loc → Prop} (hM : Con l Z y bytes maxL ret rm as' h Qv) (eT : T.heap = h) {a : Addr} (E : Exa Z h a C) {pc q : Nat} {Ls : Array Slot} {st : List Value} {argsL rest : List Value} {W : Nat} (hd : decode c.code pc = .ok (.invokevirtual index, 3))
    (hst : st = argsL.reverse ++ .ref a :: rest) (has : as' = (.ref a :: argsL).toArray) (hlen : ∀ sig, parseMethodDescriptor y.desc = some sig → argsL.length = sig.parameters.length) (hsz : Ls.size = c.maxLocals) (hW : (rest.map fun v => v.category).sum ≤ W)
    (hf : rm.frames + 1 ≤ R.frames) (hl : W + (maxL + 11) + rm.locals ≤ R.locals) (hc : cells + rm.cells ≤ R.cells) (hs : slots + rm.slots ≤ R.slots) (hq : pc + 3 = q)
    (k : ∀ (T' : State) (L : List Loc) (v : Option Value), Stand p l e R s m args below meth c T' (locs ++ L) (cells + rm.cells) (slots + rm.slots) → Qv v T'.heap L → Go p e below Q (T'.setTop (mkF m q Ls (v.toList ++ rest)))) : Go p e below Q (T.setTop (mkF m pc Ls st)) := by
  subst hq hst has
  obtain ⟨cq, kq, qa, -, qc⟩ := isOf hZ eT E
  obtain ⟨v, vm₁, ⟨T', L', k', n'⟩, -, X', ⟨Lc, hQ, l1, y1, z1⟩, st'⟩ := X.virtualBack hx (y := y) (z := y) hown (mvT hZ w1) (mvT hZ w2) (notFace_of_selects (args := #[]) (mvT hZ w3)) (mvT hZ w3) (mvT hZ w4) hy (backOf (W := W) hM hZ w5 wz hf hl) qa qc (g := mkF m pc Ls (argsL.reverse ++ .ref a :: rest)) rfl hsz (Steps.refl _) (argsL := argsL) (rest := rest) hlen rfl (by show 2 * 0 + _ ≤ _; omega) hd (fun _ _ => ⟨rfl, eT, hc, hs⟩)
  dsimp only [Pt.U, Pt.locs, Pt.cells, Pt.slots] at X' l1 y1 z1 st' hQ
  subst l1 y1 z1
  exact Go.tr st' (k T' Lc v X' hQ)
theorem Go.static (X : Stand p l e R s m args below meth c T locs cells slots) (hx : p.tables.exec = Jvm.exec) (hZ : Z.Warmed39 s.vm) {own : String} {index : Nat} {y : MethodName} (hown : s.vm.findClass own = some m.cls) (w1 : (Jvm.Cond.methodLink own index y).before a0 Z = true) (w2 : (Jvm.Cond.static y).before a0 Z = true)
    {bytes : ByteArray} {maxL : Nat} {ret : Option FieldType} (w3 : (Jvm.Cond.code y bytes maxL ret).before a0 Z = true) (wz : (Jvm.Cond.initialized y.cls).before a0 Z = true) (hy : y.cls ≠ "java/lang/invoke/MethodHandle" ∧ y.cls ≠ "java/lang/invoke/VarHandle")
    {rm : Room} {as' : Array Value} {Qv : Option Value → Heap → List Loc → Prop} (hM : Con l Z y bytes maxL ret rm as' h Qv) (eT : T.heap = h) {pc q : Nat} {Ls : Array Slot} {st : List Value} {argsL rest : List Value} {W : Nat} (hd : decode c.code pc = .ok (.invokestatic index, 3))
    (hst : st = argsL.reverse ++ rest) (has : as' = argsL.toArray) (hlen : ∀ sig, parseMethodDescriptor y.desc = some sig → argsL.length = sig.parameters.length) (hsz : Ls.size = c.maxLocals) (hW : (rest.map fun v => v.category).sum ≤ W)
    (hf : rm.frames + 1 ≤ R.frames) (hl : W + (maxL + 11) + rm.locals ≤ R.locals) (hc : cells + rm.cells ≤ R.cells) (hs : slots + rm.slots ≤ R.slots) (hq : pc + 3 = q)
    (k : ∀ (T' : State) (L : List Loc) (v : Option Value), Stand p l e R s m args below meth c T' (locs ++ L) (cells + rm.cells) (slots + rm.slots) → Qv v T'.heap L → Go p e below Q (T'.setTop (mkF m q Ls (v.toList ++ rest)))) : Go p e below Q (T.setTop (mkF m pc Ls st)) := by
  subst hq hst has
  obtain ⟨v, vm₁, ⟨T', L', k', n'⟩, -, X', ⟨Lc, hQ, l1, y1, z1⟩, st'⟩ := Jvm.LawKit.callS X hx (y := y) hown (mvT hZ w1) (mvT hZ w2) (mvT hZ wz) (mvT hZ w3) hy (backOf (W := W) hM hZ w3 wz hf hl) (g := mkF m pc Ls (argsL.reverse ++ rest)) rfl hsz (argsL := argsL) (rest := rest) hlen rfl (by show 2 * 0 + _ ≤ _; omega) hd (fun _ _ => ⟨rfl, eT, hc, hs⟩)
  dsimp only [Pt.U, Pt.locs, Pt.cells, Pt.slots] at X' l1 y1 z1 st' hQ
  subst l1 y1 z1
  exact Go.of st' (k T' Lc v X' hQ)
/-- a static call that a payer of the library answers, and that leaves all as it was -/
theorem Go.nat (X : Stand p l e R s m args below meth c T locs cells slots) (hx : p.tables.exec = Jvm.exec) (hZ : Z.Warmed39 s.vm) {own : String} {index : Nat} {y : MethodName} (hown : s.vm.findClass own = some m.cls) (w1 : (Jvm.Cond.methodLink own index y).before a0 Z = true) (w2 : (Jvm.Cond.static y).before a0 Z = true) (w3 : (Jvm.Cond.initialized y.cls).before a0 Z = true)
    {by0 : ByteArray} {ml : Nat} {rt : Option FieldType} (w4 : (Jvm.Cond.code y by0 ml rt).before a0 Z = true) (hy : y.cls ≠ "java/lang/invoke/MethodHandle" ∧ y.cls ≠ "java/lang/invoke/VarHandle") (eT : T.heap = h) {W : Nat} {F : Array Value → Prop} {val : Value}
    (hK : (Jvm.Cond.code y by0 ml rt).before args s = true → Back l R p e below s args y 3 W (fun A a' => A.cells ≤ R.cells ∧ A.slots ≤ R.slots ∧ F a') (fun A _ v B => v = some val ∧ B = A))
    {pc q : Nat} {Ls : Array Slot} {st : List Value} {argsL rest : List Value} (hd : decode c.code pc = .ok (.invokestatic index, 3)) (hst : st = argsL.reverse ++ rest) (hlen : ∀ sig, parseMethodDescriptor y.desc = some sig → argsL.length = sig.parameters.length) (hsz : Ls.size = c.maxLocals) (hW : (rest.map fun v => v.category).sum ≤ W)
    (hc : cells ≤ R.cells) (hs : slots ≤ R.slots) (hF : F argsL.toArray) (hq : pc + 3 = q)
    (k : ∀ T' : State, Stand p l e R s m args below meth c T' locs cells slots → T'.heap = h → Go p e below Q (T'.setTop (mkF m q Ls (val :: rest)))) : Go p e below Q (T.setTop (mkF m pc Ls st)) := by
  subst hq hst
  obtain ⟨T', X', e', st'⟩ := natS X hx hZ hown w1 w2 w3 w4 hy eT hK (g := mkF m pc Ls (argsL.reverse ++ rest)) rfl hsz hlen rfl (by show 2 * 0 + _ ≤ _; omega) hd hc hs hF rfl
  exact Go.of st' (k T' X' e')
/-! words of the sheet by their place -/
theorem word {ts : List Jvm.Cond} (hw : ∀ d ∈ ts, d.before a0 Z = true) {d : Jvm.Cond} (i : Nat) (hi : ts[i]? = some d) : d.before a0 Z = true := hw _ (List.mem_of_getElem? hi)
end OwnHeap
/-! own layer 4: arrays of known contents -/
section OwnArr
variable {p : Program} {l : Launch} {e : Env} {R : Room} {s : State} {m : MethodId} {args : Array Value} {below : List Frame} {meth : Method} {c : Code} {T : State} {locs : List Loc} {cells slots : Nat} {Q : Outcome → State → Prop} {Z : State} {a0 : Array Value} {h h' : Heap}
/-- the array at a: its component type, its class, its contents -/
def Row (Z : State) (h : Heap) (a : Addr) (ty : FieldType) (k : ClassId) (vs : List Value) : Prop := ∃ cl : Cell, Arr Z h a cl ty ∧ cl.cls = k ∧ cl.slots = vs.toArray
theorem Row.lt {a : Addr} {ty : FieldType} {k : ClassId} {vs : List Value} (F : Row Z h a ty k vs) : a < h.size := by obtain ⟨cl, A, -⟩ := F; exact A.lt
theorem Row.ext {a : Addr} {ty : FieldType} {k : ClassId} {vs : List Value} (F : Row Z h a ty k vs) (E : Ext h h') : Row Z h' a ty k vs := by obtain ⟨cl, A, r⟩ := F; exact ⟨cl, A.ext E, r⟩
theorem Row.other {a b : Addr} {ty : FieldType} {k : ClassId} {vs : List Value} {sl : Nat} {v : Value} (F : Row Z h b ty k vs) (W : Wr h h' a sl v) (hne : b ≠ a) : Row Z h' b ty k vs := by obtain ⟨cl, A, r⟩ := F; exact ⟨cl, A.other W hne, r⟩
theorem Row.keep {a : Addr} {ty : FieldType} {k : ClassId} {vs : List Value} {ws : List Addr} (F : Row Z h a ty k vs) (K : Keep h h' ws) (hn : a ∉ ws) : Row Z h' a ty k vs := by obtain ⟨cl, A, r⟩ := F; exact ⟨cl, ⟨K.2.1 _ _ A.1 hn, A.2⟩, r⟩
theorem Row.set {a : Addr} {ty : FieldType} {k : ClassId} {vs : List Value} {i : Nat} {v : Value} (F : Row Z h a ty k vs) (W : Wr h h' a i v) : Row Z h' a ty k (vs.set i v) := by
  obtain ⟨cl, A, q1, q2⟩ := F
  refine ⟨cl.setSlot i v, A.same W, q1, ?_⟩
  show cl.slots.setIfInBounds i v = _
  rw [q2]; simp
theorem Row.inb {vs : List Value} {cl : Cell} (q : cl.slots = vs.toArray) {j : Int32} {i : Nat} {v : Value} (hj : j.toNatClampNeg = i) (hj0 : ¬ j < 0) (hv : vs[i]? = some v) : ¬ (j < 0 ∨ cl.slots.size ≤ j.toNatClampNeg) := by
  obtain ⟨hi, -⟩ := List.getElem?_eq_some_iff.mp hv
  have : cl.slots.size = vs.length := by rw [q]; simp
  rintro (z | z)
  · exact hj0 z
  · omega
theorem Row.getv {vs : List Value} {cl : Cell} (q : cl.slots = vs.toArray) {j : Int32} {i : Nat} {v : Value} (hj : j.toNatClampNeg = i) (hv : vs[i]? = some v) : cl.slots[j.toNatClampNeg]? = some v := by
  rw [q, hj]; simpa using hv
theorem Go.newarr (X : Stand p l e R s m args below meth c T locs cells slots) (hx : p.tables.exec = Jvm.exec) (hZ : Z.Warmed39 s.vm) {aty : ArrayType} (w : (Jvm.Cond.arrayClass (newarray.typeOf aty)).before a0 Z = true) (eT : T.heap = h)
    {pc q : Nat} {Ls : Array Slot} {st : List Value} {n : Int32} {k : Nat} (hd : decode c.code pc = .ok (.newarray aty, 2)) (hn0 : ¬ n < 0) (hn : n.toNatClampNeg = k) (hb : k * 8 ≤ 536870912) (hc : cells + 1 ≤ R.cells) (hl : slots + k ≤ R.slots) {ad : String} (had : "[" ++ (newarray.typeOf aty).toString = ad) (hq : pc + 2 = q)
    (cont : ∀ (T' : State) (h' : Heap) (a : Addr) (kk : ClassId), a = h.size → Stand p l e R s m args below meth c T' locs (cells + 1) (slots + k) → T'.heap = h' → Ext h h' → Row Z h' a (newarray.typeOf aty) kk (List.replicate k (defaultValue (newarray.typeOf aty))) → Exa Z h' a ad →
      Go p e below Q (T'.setTop (mkF m q Ls (.ref a :: st)))) : Go p e below Q (T.setTop (mkF m pc Ls (.int n :: st))) := by
  subst hq hn
  obtain ⟨T', h', cA, X', e', E', A', D', st'⟩ := newPE X hx hZ w eT (g := mkF m pc Ls (.int n :: st)) rfl hd rfl hn0 (cap := n.toNatClampNeg) (Nat.le_refl _) hb hc hl had
  exact Go.of st' (cont T' h' _ cA rfl X' e' E' ⟨_, A', rfl, by simp [newA]⟩ D')
theorem Go.newobjs (X : Stand p l e R s m args below meth c T locs cells slots) (hx : p.tables.exec = Jvm.exec) (hZ : Z.Warmed39 s.vm) {own C : String} {index : Nat} (hown : s.vm.findClass own = some m.cls) (w1 : (Jvm.Cond.classLink own index C).before a0 Z = true) (w2 : (Jvm.Cond.arrayOver (.object C)).before a0 Z = true) (eT : T.heap = h)
    {pc q : Nat} {Ls : Array Slot} {st : List Value} {n : Int32} {k : Nat} (hd : decode c.code pc = .ok (.anewarray index, 3)) (hn0 : ¬ n < 0) (hn : n.toNatClampNeg = k) (hb : k * 8 ≤ 536870912) (hc : cells + 1 ≤ R.cells) (hl : slots + k ≤ R.slots) {ad : String} (had : "[" ++ (FieldType.object C).toString = ad) (hq : pc + 3 = q)
    (cont : ∀ (T' : State) (h' : Heap) (a : Addr) (kk : ClassId), a = h.size → Stand p l e R s m args below meth c T' locs (cells + 1) (slots + k) → T'.heap = h' → Ext h h' → Row Z h' a (.object C) kk (List.replicate k .null) → Ovr Z kk C → Exa Z h' a ad →
      Go p e below Q (T'.setTop (mkF m q Ls (.ref a :: st)))) : Go p e below Q (T.setTop (mkF m pc Ls (.int n :: st))) := by
  subst hq hn
  obtain ⟨T', h', cA, X', e', E', A', D', O', st'⟩ := newRE X hx hZ hown w1 w2 eT (g := mkF m pc Ls (.int n :: st)) rfl hd rfl hn0 (cap := n.toNatClampNeg) (Nat.le_refl _) hb hc hl had
  exact Go.of st' (cont T' h' _ cA rfl X' e' E' ⟨_, A', rfl, by simp [newA, defaultValue]⟩ O' D')
theorem Go.alen (X : Stand p l e R s m args below meth c T locs cells slots) (hx : p.tables.exec = Jvm.exec) (hZ : Z.Warmed39 s.vm) (eT : T.heap = h) {a : Addr} {ty : FieldType} {k : ClassId} {vs : List Value} (F : Row Z h a ty k vs)
    {pc q : Nat} {Ls : Array Slot} {st : List Value} {n : Int32} (hd : decode c.code pc = .ok (.arraylength, 1)) (hn : vs.length.toInt32 = n) (hq : pc + 1 = q) (g : Go p e below Q (T.setTop (mkF m q Ls (.int n :: st)))) : Go p e below Q (T.setTop (mkF m pc Ls (.ref a :: st))) := by
  subst hq hn
  obtain ⟨cl, A, -, q2⟩ := F
  refine Go.of (fun t r => X.arraylength hx (by rw [eT]; exact A.1) (State.isArrayOf_alike hZ.alike A.2.1) (g := mkF m pc Ls (.ref a :: st)) rfl rfl hd t ?_) g
  rw [q2]; simpa using r
theorem Go.daload (X : Stand p l e R s m args below meth c T locs cells slots) (hx : p.tables.exec = Jvm.exec) (hZ : Z.Warmed39 s.vm) (eT : T.heap = h) {a : Addr} {k : ClassId} {vs : List Value} (F : Row Z h a .double k vs)
    {pc q : Nat} {Ls : Array Slot} {st : List Value} {j : Int32} {i : Nat} {v : Value} (hd : decode c.code pc = .ok (.daload, 1)) (hj : j.toNatClampNeg = i) (hj0 : ¬ j < 0) (hv : vs[i]? = some v) (hq : pc + 1 = q) (g : Go p e below Q (T.setTop (mkF m q Ls (v :: st)))) : Go p e below Q (T.setTop (mkF m pc Ls (.int j :: .ref a :: st))) := by
  subst hq
  obtain ⟨cl, A, -, q2⟩ := F
  exact Go.of (fun t r => X.daload hx (by rw [eT]; exact A.1) (State.isArrayOf_alike hZ.alike A.2.1) A.2.2 (Row.inb q2 hj hj0 hv) (Row.getv q2 hj hv) (g := mkF m pc Ls (.int j :: .ref a :: st)) rfl rfl hd t r) g
theorem Go.faload (X : Stand p l e R s m args below meth c T locs cells slots) (hx : p.tables.exec = Jvm.exec) (hZ : Z.Warmed39 s.vm) (eT : T.heap = h) {a : Addr} {k : ClassId} {vs : List Value} (F : Row Z h a .float k vs)
    {pc q : Nat} {Ls : Array Slot} {st : List Value} {j : Int32} {i : Nat} {v : Value} (hd : decode c.code pc = .ok (.faload, 1)) (hj : j.toNatClampNeg = i) (hj0 : ¬ j < 0) (hv : vs[i]? = some v) (hq : pc + 1 = q) (g : Go p e below Q (T.setTop (mkF m q Ls (v :: st)))) : Go p e below Q (T.setTop (mkF m pc Ls (.int j :: .ref a :: st))) := by
  subst hq
  obtain ⟨cl, A, -, q2⟩ := F
  exact Go.of (fun t r => X.faload hx (by rw [eT]; exact A.1) (State.isArrayOf_alike hZ.alike A.2.1) A.2.2 (Row.inb q2 hj hj0 hv) (Row.getv q2 hj hv) (g := mkF m pc Ls (.int j :: .ref a :: st)) rfl rfl hd t r) g
theorem Go.aaload (X : Stand p l e R s m args below meth c T locs cells slots) (hx : p.tables.exec = Jvm.exec) (hZ : Z.Warmed39 s.vm) (eT : T.heap = h) {a : Addr} {ty : FieldType} {k : ClassId} {vs : List Value} (F : Row Z h a ty k vs) (hty : ty.isReference = true)
    {pc q : Nat} {Ls : Array Slot} {st : List Value} {j : Int32} {i : Nat} {v : Value} (hd : decode c.code pc = .ok (.aaload, 1)) (hj : j.toNatClampNeg = i) (hj0 : ¬ j < 0) (hv : vs[i]? = some v) (hq : pc + 1 = q) (g : Go p e below Q (T.setTop (mkF m q Ls (v :: st)))) : Go p e below Q (T.setTop (mkF m pc Ls (.int j :: .ref a :: st))) := by
  subst hq
  obtain ⟨cl, A, -, q2⟩ := F
  exact Go.of (fun t r => X.aaload hx (by rw [eT]; exact A.1) (State.isArrayOf_alike hZ.alike A.2.1) hty A.2.2 (Row.inb q2 hj hj0 hv) (Row.getv q2 hj hv) (g := mkF m pc Ls (.int j :: .ref a :: st)) rfl rfl hd t r) g
theorem Go.dastore (X : Stand p l e R s m args below meth c T locs cells slots) (hx : p.tables.exec = Jvm.exec) (hZ : Z.Warmed39 s.vm) (eT : T.heap = h) {a : Addr} {k : ClassId} {vs : List Value} (F : Row Z h a .double k vs)
    {pc q : Nat} {Ls : Array Slot} {st : List Value} {j : Int32} {i : Nat} {x : UInt64} {o : Value} (hd : decode c.code pc = .ok (.dastore, 1)) (hj : j.toNatClampNeg = i) (hj0 : ¬ j < 0) (hv : vs[i]? = some o) (hq : pc + 1 = q)
    (cont : ∀ (T' : State) (h' : Heap), Stand p l e R s m args below meth c T' (locs ++ [⟨a, i⟩]) cells slots → T'.heap = h' → Wr h h' a i (.double x) → Row Z h' a .double k (vs.set i (.double x)) → Go p e below Q (T'.setTop (mkF m q Ls st))) : Go p e below Q (T.setTop (mkF m pc Ls (.double x :: .int j :: .ref a :: st))) := by
  subst hq hj
  have F0 := F
  obtain ⟨cl, A, -, q2⟩ := F
  obtain ⟨T', h', X', e', W', st'⟩ := stD X hx hZ eT A (x := x) (Row.inb q2 rfl hj0 hv) (g := mkF m pc Ls (.double x :: .int j :: .ref a :: st)) rfl rfl hd
  exact Go.of st' (cont T' h' X' e' W' (F0.set W'))
theorem Go.aastore (X : Stand p l e R s m args below meth c T locs cells slots) (hx : p.tables.exec = Jvm.exec) (hZ : Z.Warmed39 s.vm) (eT : T.heap = h) {a : Addr} {ty : FieldType} {k : ClassId} {vs : List Value} (F : Row Z h a ty k vs) (hty : ty.isReference = true) {C : String} (O : Ovr Z k C) {b : Addr} (I : Ins Z h b C true)
    {pc q : Nat} {Ls : Array Slot} {st : List Value} {j : Int32} {i : Nat} {o : Value} (hd : decode c.code pc = .ok (.aastore, 1)) (hj : j.toNatClampNeg = i) (hj0 : ¬ j < 0) (hv : vs[i]? = some o) (hq : pc + 1 = q)
    (cont : ∀ (T' : State) (h' : Heap), Stand p l e R s m args below meth c T' (locs ++ [⟨a, i⟩]) cells slots → T'.heap = h' → Wr h h' a i (.ref b) → Row Z h' a ty k (vs.set i (.ref b)) → Go p e below Q (T'.setTop (mkF m q Ls st))) : Go p e below Q (T.setTop (mkF m pc Ls (.ref b :: .int j :: .ref a :: st))) := by
  subst hq hj
  have F0 := F
  obtain ⟨cl, A, q1, q2⟩ := F
  obtain ⟨T', h', X', e', W', st'⟩ := stR X hx hZ eT A (v := .ref b) (Row.inb q2 rfl hj0 hv) hty (Sto.of A (q1 ▸ O) I) (g := mkF m pc Ls (.ref b :: .int j :: .ref a :: st)) rfl rfl hd
  exact Go.of st' (cont T' h' X' e' W' (F0.set W'))
theorem Go.cast (X : Stand p l e R s m args below meth c T locs cells slots) (hx : p.tables.exec = Jvm.exec) (hZ : Z.Warmed39 s.vm) {own K : String} {index : Nat} (hown : s.vm.findClass own = some m.cls) (w : (Jvm.Cond.classLink own index K).before a0 Z = true) (eT : T.heap = h) {a : Addr} (F : Ins Z h a K true)
    {pc q : Nat} {Ls : Array Slot} {st : List Value} (hd : decode c.code pc = .ok (.checkcast index, 3)) (hq : pc + 3 = q)
    (k : ∀ T' : State, Stand p l e R s m args below meth c T' locs cells slots → T'.heap = h → Go p e below Q (T'.setTop (mkF m q Ls (.ref a :: st)))) : Go p e below Q (T.setTop (mkF m pc Ls (.ref a :: st))) := by
  subst hq
  obtain ⟨T', X', e', st'⟩ := castY X hx hZ hown w eT F (g := mkF m pc Ls (.ref a :: st)) rfl rfl hd
  exact Go.of st' (k T' X' e')
theorem Go.clone (X : Stand p l e R s m args below meth c T locs cells slots) (hx : p.tables.exec = Jvm.exec) (hZ : Z.Warmed39 s.vm) {own ad : String} {index : Nat} (hown : s.vm.findClass own = some m.cls)
    (w1 : (Jvm.Cond.methodLink own index ⟨ad, "clone", "()Ljava/lang/Object;"⟩).before a0 Z = true) (w2 : (Jvm.Cond.sameMethod ad "java/lang/Object" "clone" "()Ljava/lang/Object;").before a0 Z = true) (w3 : (Jvm.Cond.native ⟨"java/lang/Object", "clone", "()Ljava/lang/Object;"⟩).before a0 Z = true)
    (w4 : (Jvm.Cond.instanceMethod ⟨"java/lang/Object", "clone", "()Ljava/lang/Object;"⟩).before a0 Z = true) (w5 : (Jvm.Cond.selects ad ⟨ad, "clone", "()Ljava/lang/Object;"⟩ ⟨"java/lang/Object", "clone", "()Ljava/lang/Object;"⟩).before a0 Z = true) (w6 : (Jvm.Cond.castable ad "java/lang/Cloneable").before a0 Z = true)
    (eT : T.heap = h) {a : Addr} {ty : FieldType} {kc : ClassId} {vs : List Value} (F : Row Z h a ty kc vs) (E : Exa Z h a ad) (hfit : vs.all (fun v => fits ty v) = true) {pc q : Nat} {Ls : Array Slot} {st : List Value} (hd : decode c.code pc = .ok (.invokevirtual index, 3)) (hsz : Ls.size = c.maxLocals) (hf : 1 ≤ R.frames) {W : Nat} (hW : (st.map fun v => v.category).sum ≤ W) (hl : W + 14 ≤ R.locals) {k : Nat} (hk : vs.length = k) (hc : cells + 1 ≤ R.cells) (hs : slots + k ≤ R.slots) (hq : pc + 3 = q)
    (cont : ∀ (T' : State) (h' : Heap) (b : Addr), b = h.size → Stand p l e R s m args below meth c T' locs (cells + 1) (slots + k) → T'.heap = h' → Ext h h' → Row Z h' b ty kc vs → Exa Z h' b ad → Go p e below Q (T'.setTop (mkF m q Ls (.ref b :: st)))) : Go p e below Q (T.setTop (mkF m pc Ls (.ref a :: st))) := by
  subst hq hk
  obtain ⟨cl, A, q1, q2⟩ := F
  have hsize : cl.slots.size = vs.length := by rw [q2]; simp
  have FC : FitC Z cl := fitC_of A fun i hi v hv => by
    rw [q2] at hv
    have : v ∈ vs := List.mem_of_getElem? (by simpa using hv)
    exact List.all_eq_true.mp hfit v this
  obtain ⟨T', h', X', e', E', A', D', st'⟩ := cloneA X hx hZ hown w1 w2 w3 w4 w5 w6 eT A E FC (g := mkF m pc Ls (.ref a :: st)) rfl hsz rfl hd hf (W := W) (by show 2 * 0 + _ ≤ _; omega) hl (cap := vs.length) (by rw [hsize]; exact Nat.le_refl _) hc hs
  exact Go.of st' (cont T' h' _ rfl X' e' E' ⟨cloneOf cl, A', q1, q2⟩ D')
theorem Go.fastore (X : Stand p l e R s m args below meth c T locs cells slots) (hx : p.tables.exec = Jvm.exec) (hZ : Z.Warmed39 s.vm) (eT : T.heap = h) {a : Addr} {k : ClassId} {vs : List Value} (F : Row Z h a .float k vs)
    {pc q : Nat} {Ls : Array Slot} {st : List Value} {j : Int32} {i : Nat} {x : UInt32} {o : Value} (hd : decode c.code pc = .ok (.fastore, 1)) (hj : j.toNatClampNeg = i) (hj0 : ¬ j < 0) (hv : vs[i]? = some o) (hq : pc + 1 = q)
    (cont : ∀ (T' : State) (h' : Heap), Stand p l e R s m args below meth c T' (locs ++ [⟨a, i⟩]) cells slots → T'.heap = h' → Wr h h' a i (.float x) → Row Z h' a .float k (vs.set i (.float x)) → Go p e below Q (T'.setTop (mkF m q Ls st))) : Go p e below Q (T.setTop (mkF m pc Ls (.float x :: .int j :: .ref a :: st))) := by
  subst hq hj
  have F0 := F
  obtain ⟨cl, A, -, q2⟩ := F
  obtain ⟨X', st'⟩ := X.fastore hx (x := x) (by rw [eT]; exact A.1) (State.isArrayOf_alike hZ.alike A.2.1) A.2.2 (Row.inb q2 rfl hj0 hv) (g := mkF m pc Ls (.float x :: .int j :: .ref a :: st)) rfl rfl hd
  have W' : Wr h (T.setCell a (cl.setSlot j.toNatClampNeg (.float x))).heap a j.toNatClampNeg (.float x) := ⟨cl, A.1, A.plain, Nat.lt_of_not_le fun z => Row.inb q2 rfl hj0 hv (Or.inr z), by rw [← eT]; rfl⟩
  exact Go.of st' (cont _ _ X' rfl W' (F0.set W'))
end OwnArr

theorem pd0 : parseMethodDescriptor "(D)V" = some ⟨[.double], none⟩ := by decide +kernel
theorem pd1 : parseMethodDescriptor "()D" = some ⟨[], some .double⟩ := by decide +kernel
theorem pd2 : parseMethodDescriptor "([D)[Lcom/example/nordwind/nordwind/DoubleReal;" = some ⟨[(.array .double)], some (.array (.object "com/example/nordwind/nordwind/DoubleReal"))⟩ := by decide +kernel
theorem pd3 : parseMethodDescriptor "(Lcom/example/nordwind/nordwind/DoubleReal;I)Z" = some ⟨[(.object "com/example/nordwind/nordwind/DoubleReal"), .int], some .boolean⟩ := by decide +kernel

section OwnLaw
open Jvm.FP Jvm.FP.Core Jvm.Free.Fl
theorem own_four {x u : Int32} (h : x &&& 3 = u) : u = 0 ∨ u = 1 ∨ u = 2 ∨ u = 3 := by
  have e := c_mask x 3 2 (by decide) (by decide)
  rw [h] at e
  have f : u.toInt = 0 ∨ u.toInt = 1 ∨ u.toInt = 2 ∨ u.toInt = 3 := by omega
  rcases f with f | f | f | f
  · exact Or.inl (Int32.toInt_inj.mp f)
  · exact Or.inr (Or.inl (Int32.toInt_inj.mp f))
  · exact Or.inr (Or.inr (Or.inl (Int32.toInt_inj.mp f)))
  · exact Or.inr (Or.inr (Or.inr (Int32.toInt_inj.mp f)))
theorem own_same {x : Int32} {v w : UInt64} (h : FP.i2d x = v) (k : FP.i2d x = w) (o : CmpOp) : cmpValue (FP.dcmp v w) o = 0 := by
  subst h k; exact cmp_eq (i2d_dfin x) (i2d_dfin x) o rfl
end OwnLaw

theorem d2_0 : decode prog_22_method_1_code 0 = .ok (.aload_n 0, 1) := by decide +kernel
theorem d2_1 : decode prog_22_method_1_code 1 = .ok (.invokespecial 1, 3) := by decide +kernel
theorem d2_4 : decode prog_22_method_1_code 4 = .ok (.aload_n 0, 1) := by decide +kernel
theorem d2_5 : decode prog_22_method_1_code 5 = .ok (.dload_n 1, 1) := by decide +kernel
theorem d2_6 : decode prog_22_method_1_code 6 = .ok (.putfield 7, 3) := by decide +kernel
theorem d2_9 : decode prog_22_method_1_code 9 = .ok (.return_, 1) := by decide +kernel
set_option maxRecDepth 65536 in
set_option maxHeartbeats 40000000 in
theorem rm_init (l : Launch) (Z : State) (a0 : Array Value) (hw : ∀ d ∈ tables_1, d.before a0 Z = true) (a1 : Addr) (x : UInt64) (o1 : Value) (h0 : Heap) (n0 : Nat) (Z0 : n0 ≤ h0.size) (E1 : Exa Z h0 a1 "com/example/nordwind/nordwind/DoubleReal") (F1 : Fld Z h0 a1 "com/example/nordwind/nordwind/DoubleReal" "value" "D" o1) (g1 : n0 ≤ a1) :
    Con l Z (⟨"com/example/nordwind/nordwind/DoubleReal", "<init>", "(D)V"⟩ : MethodName) prog_22_method_1_code 3 none ({ frames := 1, cells := 0, slots := 0, locals := 12 } : Room) #[(.ref a1), (.double x)] h0 (fun vR hR LR => vR = none ∧ Fr n0 LR ∧ Keep h0 hR [a1] ∧ Exa Z hR a1 "com/example/nordwind/nordwind/DoubleReal" ∧ Fld Z hR a1 "com/example/nordwind/nordwind/DoubleReal" "value" "D" (.double x)) := by
  refine enter (l := l) (Z := Z) (y := (⟨"com/example/nordwind/nordwind/DoubleReal", "<init>", "(D)V"⟩ : MethodName)) (bytes := prog_22_method_1_code) (maxL := 3) (ret := none) (ws := []) (rm := ({ frames := 1, cells := 0, slots := 0, locals := 12 } : Room)) (as' := #[(.ref a1), (.double x)]) (h0 := h0) (Qv := (fun vR hR LR => vR = none ∧ Fr n0 LR ∧ Keep h0 hR [a1] ∧ Exa Z hR a1 "com/example/nordwind/nordwind/DoubleReal" ∧ Fld Z hR a1 "com/example/nordwind/nordwind/DoubleReal" "value" "D" (.double x))) (kc := 0) (ks := 0) (by first | exact plainFor_of_name (by first | (simp [plainName, overriddenIn]; done) | decide +kernel) | decide +kernel) (Ls := #[.val (.ref a1), .val (.double x), .second]) (fun m => by first | (simp [entryFrame, mkF, argsToLocals, Value.category]; done) | rfl) ?_
  intro p e s m below meth c s₁ hx hby hml hown hnm hret hlk hZ X0 e0
  have hown : s.vm.findClass "com/example/nordwind/nordwind/DoubleReal" = some m.cls := hown
  have hml : c.maxLocals = 3 := hml
  have N0 := Fr.nil n0
  refine Go.aloadN X0.here hx (Jvm.hb hby d2_0) rfl rfl (q := 1) rfl ?_
  refine Go.init X0 hx hZ hown (word hw 11 rfl) (word hw 12 rfl) (word hw 13 rfl) e0 (Jvm.hb hby d2_1) (by rw [hml]; rfl) (by decide) (W := 0) (Nat.le_of_eq rfl) (by decide) (q := 4) rfl ?_
  intro T101 X101 e101
  refine Go.aloadN X101.here hx (Jvm.hb hby d2_4) rfl rfl (q := 5) rfl ?_
  refine Go.dloadN X101.here hx (Jvm.hb hby d2_5) rfl (q := 6) rfl ?_
  refine Go.putf X101 hx hZ hown (word hw 14 rfl) e101 F1 E1 (Or.inr ⟨(word hw 15 rfl), rfl, hnm⟩) (word hw 7 rfl) (ty := .double) (by decide) rfl rfl (Jvm.hb hby d2_6) (q := 9) rfl ?_
  intro T102 h102 X102 e102 W102
  have N102 := Fr.snoc X102 N0 g1
  have F102 := F1.same W102
  have k103 : Keep h0 h102 [a1] := (Keep.refl h0 [a1]).wr W102 (Or.inl (List.mem_of_getElem? (i := 0) rfl))
  have f104 := E1.wr W102
  refine Go.retV X102 hx hret hlk (Jvm.hb hby d2_9) (by decide) (by decide) ?_
  rw [e102]
  exact ⟨rfl, N102, k103, f104, F102⟩
theorem d1_0 : decode prog_22_method_3_code 0 = .ok (.aload_n 0, 1) := by decide +kernel
theorem d1_1 : decode prog_22_method_3_code 1 = .ok (.arraylength, 1) := by decide +kernel
theorem d1_2 : decode prog_22_method_3_code 2 = .ok (.anewarray 8, 3) := by decide +kernel
theorem d1_5 : decode prog_22_method_3_code 5 = .ok (.astore_n 1, 1) := by decide +kernel
theorem d1_6 : decode prog_22_method_3_code 6 = .ok (.iconst 0, 1) := by decide +kernel
theorem d1_7 : decode prog_22_method_3_code 7 = .ok (.istore_n 2, 1) := by decide +kernel
theorem d1_8 : decode prog_22_method_3_code 8 = .ok (.iload_n 2, 1) := by decide +kernel
theorem d1_9 : decode prog_22_method_3_code 9 = .ok (.aload_n 0, 1) := by decide +kernel
theorem d1_10 : decode prog_22_method_3_code 10 = .ok (.arraylength, 1) := by decide +kernel
theorem d1_11 : decode prog_22_method_3_code 11 = .ok (.if_icmp .ge 22, 3) := by decide +kernel
theorem d1_14 : decode prog_22_method_3_code 14 = .ok (.aload_n 1, 1) := by decide +kernel
theorem d1_15 : decode prog_22_method_3_code 15 = .ok (.iload_n 2, 1) := by decide +kernel
theorem d1_16 : decode prog_22_method_3_code 16 = .ok (.new 8, 3) := by decide +kernel
theorem d1_19 : decode prog_22_method_3_code 19 = .ok (.dup, 1) := by decide +kernel
theorem d1_20 : decode prog_22_method_3_code 20 = .ok (.aload_n 0, 1) := by decide +kernel
theorem d1_21 : decode prog_22_method_3_code 21 = .ok (.iload_n 2, 1) := by decide +kernel
theorem d1_22 : decode prog_22_method_3_code 22 = .ok (.daload, 1) := by decide +kernel
theorem d1_23 : decode prog_22_method_3_code 23 = .ok (.invokespecial 13, 3) := by decide +kernel
theorem d1_26 : decode prog_22_method_3_code 26 = .ok (.aastore, 1) := by decide +kernel
theorem d1_27 : decode prog_22_method_3_code 27 = .ok (.iinc 2 1, 3) := by decide +kernel
theorem d1_30 : decode prog_22_method_3_code 30 = .ok (.goto (-22), 3) := by decide +kernel
theorem d1_33 : decode prog_22_method_3_code 33 = .ok (.aload_n 1, 1) := by decide +kernel
theorem d1_34 : decode prog_22_method_3_code 34 = .ok (.areturn, 1) := by decide +kernel
set_option maxRecDepth 65536 in
set_option maxHeartbeats 40000000 in
theorem rm_of0 (l : Launch) (Z : State) (a0 : Array Value) (hw : ∀ d ∈ tables_1, d.before a0 Z = true) (a1 : Addr) (k1 : ClassId) (h0 : Heap) (n0 : Nat) (Z0 : n0 ≤ h0.size) (R1 : Row Z h0 a1 .double k1 []) :
    Con l Z (⟨"com/example/nordwind/nordwind/DoubleReal", "ofAll", "([D)[Lcom/example/nordwind/nordwind/DoubleReal;"⟩ : MethodName) prog_22_method_3_code 3 (some (.array (.object "com/example/nordwind/nordwind/DoubleReal"))) ({ frames := 2, cells := 1, slots := 0, locals := 30 } : Room) #[(.ref a1)] h0 (fun vR hR LR => ∃ (b : Addr) (kb : ClassId), vR = some (.ref b) ∧ Fr n0 LR ∧ Keep h0 hR [] ∧ h0.size ≤ b ∧ Row Z hR b (.object "com/example/nordwind/nordwind/DoubleReal") kb []) := by
  refine enter (l := l) (Z := Z) (y := (⟨"com/example/nordwind/nordwind/DoubleReal", "ofAll", "([D)[Lcom/example/nordwind/nordwind/DoubleReal;"⟩ : MethodName)) (bytes := prog_22_method_3_code) (maxL := 3) (ret := (some (.array (.object "com/example/nordwind/nordwind/DoubleReal")))) (ws := []) (rm := ({ frames := 2, cells := 1, slots := 0, locals := 30 } : Room)) (as' := #[(.ref a1)]) (h0 := h0) (Qv := (fun vR hR LR => ∃ (b : Addr) (kb : ClassId), vR = some (.ref b) ∧ Fr n0 LR ∧ Keep h0 hR [] ∧ h0.size ≤ b ∧ Row Z hR b (.object "com/example/nordwind/nordwind/DoubleReal") kb [])) (kc := 1) (ks := 0) (by first | exact plainFor_of_name (by first | (simp [plainName, overriddenIn]; done) | decide +kernel) | decide +kernel) (Ls := #[.val (.ref a1), .unset, .unset]) (fun m => by first | (simp [entryFrame, mkF, argsToLocals, Value.category]; done) | rfl) ?_
  intro p e s m below meth c s₁ hx hby hml hown hnm hret hlk hZ X0 e0
  have hown : s.vm.findClass "com/example/nordwind/nordwind/DoubleReal" = some m.cls := hown
  have hml : c.maxLocals = 3 := hml
  have N0 := Fr.nil n0
  refine Go.aloadN X0.here hx (Jvm.hb hby d1_0) rfl rfl (q := 1) rfl ?_
  refine Go.alen X0 hx hZ e0 R1 (Jvm.hb hby d1_1) (n := (0 : Int32)) (by first | rfl | decide) (q := 2) rfl ?_
  refine Go.newobjs X0 hx hZ hown (word hw 5 rfl) (word hw 6 rfl) e0 (Jvm.hb hby d1_2) (by decide) (k := 0) (by decide) (by decide) (by decide) (by decide) (ad := "[Lcom/example/nordwind/nordwind/DoubleReal;") (by decide) (q := 5) rfl ?_
  intro T101 h101 a101 kk101 g101 X101 e101 E101 R101 O101 A101
  have r102 : n0 ≤ a101 := Nat.le_trans Z0 (Nat.le_of_eq g101.symm)
  have y102 : h0.size ≤ a101 := Nat.le_trans (Keep.refl h0 []).1 (Nat.le_of_eq g101.symm)
  have R101 : Row Z h101 a101 (.object "com/example/nordwind/nordwind/DoubleReal") kk101 [] := R101
  refine Go.astoreN X101.here hx (Jvm.hb hby d1_5) rfl (l2 := #[.val (.ref a1), .val (.ref a101), .unset]) rfl (q := 6) rfl ?_
  refine Go.iconst X101.here hx (Jvm.hb hby d1_6) (v := (0 : Int32)) rfl (q := 7) rfl ?_
  refine Go.istoreN X101.here hx (Jvm.hb hby d1_7) (l2 := #[.val (.ref a1), .val (.ref a101), .val (.int (0 : Int32))]) rfl (q := 8) rfl ?_
  refine Go.iloadN X101.here hx (Jvm.hb hby d1_8) rfl (q := 9) rfl ?_
  refine Go.aloadN X101.here hx (Jvm.hb hby d1_9) rfl rfl (q := 10) rfl ?_
  have f103 := R1.ext E101
  refine Go.alen X101 hx hZ e101 f103 (Jvm.hb hby d1_10) (n := (0 : Int32)) (by first | rfl | decide) (q := 11) rfl ?_
  have hc11_105 : ¬ ((0 : Int32) < (0 : Int32)) := by decide
  refine Go.icmpY X101.here hx (Jvm.hb hby d1_11) (flt hc11_105).2.1 (by decide) (q := 33) rfl ?_
  refine Go.aloadN X101.here hx (Jvm.hb hby d1_33) rfl rfl (q := 34) rfl ?_
  have k106 : Keep h0 h101 [] := (Keep.refl h0 []).ext E101
  refine Go.retA X101 hx hret hlk (Jvm.hb hby d1_34) rfl rfl rfl (by decide) (by decide) ?_
  rw [e101]
  exact ⟨a101, kk101, rfl, N0, k106, y102, R101⟩
set_option maxRecDepth 65536 in
set_option maxHeartbeats 40000000 in
theorem rm_of1 (l : Launch) (Z : State) (a0 : Array Value) (hw : ∀ d ∈ tables_1, d.before a0 Z = true) (a1 : Addr) (k1 : ClassId) (x0 : UInt64) (h0 : Heap) (n0 : Nat) (Z0 : n0 ≤ h0.size) (R1 : Row Z h0 a1 .double k1 [(.double x0)]) :
    Con l Z (⟨"com/example/nordwind/nordwind/DoubleReal", "ofAll", "([D)[Lcom/example/nordwind/nordwind/DoubleReal;"⟩ : MethodName) prog_22_method_3_code 3 (some (.array (.object "com/example/nordwind/nordwind/DoubleReal"))) ({ frames := 2, cells := 2, slots := 2, locals := 30 } : Room) #[(.ref a1)] h0 (fun vR hR LR => ∃ (b : Addr) (kb : ClassId) (d0 : Addr), vR = some (.ref b) ∧ Fr n0 LR ∧ Keep h0 hR [] ∧ h0.size ≤ b ∧ h0.size ≤ d0 ∧ Row Z hR b (.object "com/example/nordwind/nordwind/DoubleReal") kb [(.ref d0)] ∧ Exa Z hR d0 "com/example/nordwind/nordwind/DoubleReal" ∧ Fld Z hR d0 "com/example/nordwind/nordwind/DoubleReal" "value" "D" (.double x0)) := by
  refine enter (l := l) (Z := Z) (y := (⟨"com/example/nordwind/nordwind/DoubleReal", "ofAll", "([D)[Lcom/example/nordwind/nordwind/DoubleReal;"⟩ : MethodName)) (bytes := prog_22_method_3_code) (maxL := 3) (ret := (some (.array (.object "com/example/nordwind/nordwind/DoubleReal")))) (ws := []) (rm := ({ frames := 2, cells := 2, slots := 2, locals := 30 } : Room)) (as' := #[(.ref a1)]) (h0 := h0) (Qv := (fun vR hR LR => ∃ (b : Addr) (kb : ClassId) (d0 : Addr), vR = some (.ref b) ∧ Fr n0 LR ∧ Keep h0 hR [] ∧ h0.size ≤ b ∧ h0.size ≤ d0 ∧ Row Z hR b (.object "com/example/nordwind/nordwind/DoubleReal") kb [(.ref d0)] ∧ Exa Z hR d0 "com/example/nordwind/nordwind/DoubleReal" ∧ Fld Z hR d0 "com/example/nordwind/nordwind/DoubleReal" "value" "D" (.double x0))) (kc := 2) (ks := 2) (by first | exact plainFor_of_name (by first | (simp [plainName, overriddenIn]; done) | decide +kernel) | decide +kernel) (Ls := #[.val (.ref a1), .unset, .unset]) (fun m => by first | (simp [entryFrame, mkF, argsToLocals, Value.category]; done) | rfl) ?_
  intro p e s m below meth c s₁ hx hby hml hown hnm hret hlk hZ X0 e0
  have hown : s.vm.findClass "com/example/nordwind/nordwind/DoubleReal" = some m.cls := hown
  have hml : c.maxLocals = 3 := hml
  have N0 := Fr.nil n0
  refine Go.aloadN X0.here hx (Jvm.hb hby d1_0) rfl rfl (q := 1) rfl ?_
  refine Go.alen X0 hx hZ e0 R1 (Jvm.hb hby d1_1) (n := (1 : Int32)) (by first | rfl | decide) (q := 2) rfl ?_
  refine Go.newobjs X0 hx hZ hown (word hw 5 rfl) (word hw 6 rfl) e0 (Jvm.hb hby d1_2) (by decide) (k := 1) (by decide) (by decide) (by decide) (by decide) (ad := "[Lcom/example/nordwind/nordwind/DoubleReal;") (by decide) (q := 5) rfl ?_
  intro T101 h101 a101 kk101 g101 X101 e101 E101 R101 O101 A101
  have r102 : n0 ≤ a101 := Nat.le_trans Z0 (Nat.le_of_eq g101.symm)
  have y102 : h0.size ≤ a101 := Nat.le_trans (Keep.refl h0 []).1 (Nat.le_of_eq g101.symm)
  have R101 : Row Z h101 a101 (.object "com/example/nordwind/nordwind/DoubleReal") kk101 [.null] := R101
  refine Go.astoreN X101.here hx (Jvm.hb hby d1_5) rfl (l2 := #[.val (.ref a1), .val (.ref a101), .unset]) rfl (q := 6) rfl ?_
  refine Go.iconst X101.here hx (Jvm.hb hby d1_6) (v := (0 : Int32)) rfl (q := 7) rfl ?_
  refine Go.istoreN X101.here hx (Jvm.hb hby d1_7) (l2 := #[.val (.ref a1), .val (.ref a101), .val (.int (0 : Int32))]) rfl (q := 8) rfl ?_
  refine Go.iloadN X101.here hx (Jvm.hb hby d1_8) rfl (q := 9) rfl ?_
  refine Go.aloadN X101.here hx (Jvm.hb hby d1_9) rfl rfl (q := 10) rfl ?_
  have f103 := R1.ext E101
  refine Go.alen X101 hx hZ e101 f103 (Jvm.hb hby d1_10) (n := (1 : Int32)) (by first | rfl | decide) (q := 11) rfl ?_
  have hc11_105 : (0 : Int32) < (1 : Int32) := by decide
  refine Go.icmpN X101.here hx (Jvm.hb hby d1_11) (tlt hc11_105).2.1 (q := 14) rfl ?_
  refine Go.aloadN X101.here hx (Jvm.hb hby d1_14) rfl rfl (q := 15) rfl ?_
  refine Go.iloadN X101.here hx (Jvm.hb hby d1_15) rfl (q := 16) rfl ?_
  refine Go.new X101 hx hZ hown (word hw 5 rfl) (word hw 7 rfl) (word hw 3 rfl) e101 (Jvm.hb hby d1_16) (by decide) (by decide) (q := 19) rfl ?_
  intro T106 h106 a106 g106 X106 e106 E106 A106 D106
  have z107 : n0 ≤ h101.size := Nat.le_trans Z0 E101.1
  have r108 : n0 ≤ a106 := Nat.le_trans z107 (Nat.le_of_eq g106.symm)
  have k109 : Keep h0 h101 [] := (Keep.refl h0 []).ext E101
  have y108 : h0.size ≤ a106 := Nat.le_trans k109.1 (Nat.le_of_eq g106.symm)
  have F110 : Fld Z h106 a106 "com/example/nordwind/nordwind/DoubleReal" "value" "D" (.double (0 : UInt64)) := D106 (Or.inr (word hw 15 rfl)) (ty := .double) (by decide)
  refine Go.dup X106.here hx (Jvm.hb hby d1_19) rfl (q := 20) rfl ?_
  refine Go.aloadN X106.here hx (Jvm.hb hby d1_20) rfl rfl (q := 21) rfl ?_
  refine Go.iloadN X106.here hx (Jvm.hb hby d1_21) rfl (q := 22) rfl ?_
  have f111 := f103.ext E106
  refine Go.daload X106 hx hZ e106 f111 (Jvm.hb hby d1_22) (i := 0) (by decide) (by decide) rfl (q := 23) rfl ?_
  have z113 : n0 ≤ h106.size := Nat.le_trans z107 E106.1
  refine Go.special X106 hx hZ (y := (⟨"com/example/nordwind/nordwind/DoubleReal", "<init>", "(D)V"⟩ : MethodName)) rfl hown (word hw 8 rfl) (word hw 9 rfl) (word hw 10 rfl) (word hw 3 rfl) (by decide) (rm_init l Z a0 hw a106 x0 (.double (0 : UInt64)) h106 n0 z113 A106 F110 r108) e106 (a := a106) (argsL := [(.double x0)]) (rest := [(.ref a106), (.int (0 : Int32)), (.ref a101)]) (W := 3) (Jvm.hb hby d1_23) rfl rfl (lenOf (pd0) rfl) (by rw [hml]; rfl) (Nat.le_of_eq rfl) (by decide) (by decide) (by decide) (by decide) (q := 26) rfl ?_
  intro T112 L112 w112 X112 hQ112
  obtain ⟨rfl, M112, K112, P112_0, P112_1⟩ := hQ112
  have N112 := Fr.app N0 M112
  show Go p e below _ (T112.setTop (mkF m 26 #[.val (.ref a1), .val (.ref a101), .val (.int (0 : Int32))] [(.ref a106), (.int (0 : Int32)), (.ref a101)]))
  have f114 := R101.ext E106
  have ne116 : a101 ≠ a106 := Nat.ne_of_lt (Nat.lt_of_lt_of_le R101.lt (Nat.le_of_eq g106.symm))
  have f115 := f114.keep K112 (ninS ne116 nin0)
  refine Go.aastore X112 hx hZ rfl f115 rfl O101 (Ins.self P112_0) (Jvm.hb hby d1_26) (i := 0) (by decide) (by decide) rfl (q := 27) rfl ?_
  intro T117 h117 X117 e117 W117 R117
  have N117 := Fr.snoc X117 N112 r102
  have R117 : Row Z h117 a101 (.object "com/example/nordwind/nordwind/DoubleReal") kk101 [(.ref a106)] := R117
  refine Go.iinc X117.here hx (Jvm.hb hby d1_27) rfl (v := (1 : Int32)) (by decide) (l2 := #[.val (.ref a1), .val (.ref a101), .val (.int (1 : Int32))]) rfl (q := 30) rfl ?_
  refine Go.goto X117.here hx (Jvm.hb hby d1_30) (by decide) (q := 8) rfl ?_
  refine Go.iloadN X117.here hx (Jvm.hb hby d1_8) rfl (q := 9) rfl ?_
  refine Go.aloadN X117.here hx (Jvm.hb hby d1_9) rfl rfl (q := 10) rfl ?_
  have ne119 : a1 ≠ a106 := Nat.ne_of_lt (Nat.lt_of_lt_of_le f103.lt (Nat.le_of_eq g106.symm))
  have f118 := f111.keep K112 (ninS ne119 nin0)
  have ne121 : a1 ≠ a101 := Nat.ne_of_lt (Nat.lt_of_lt_of_le R1.lt (Nat.le_of_eq g101.symm))
  have f120 := f118.other W117 ne121
  refine Go.alen X117 hx hZ e117 f120 (Jvm.hb hby d1_10) (n := (1 : Int32)) (by first | rfl | decide) (q := 11) rfl ?_
  have hc11_123 : ¬ ((1 : Int32) < (1 : Int32)) := by decide
  refine Go.icmpY X117.here hx (Jvm.hb hby d1_11) (flt hc11_123).2.1 (by decide) (q := 33) rfl ?_
  refine Go.aloadN X117.here hx (Jvm.hb hby d1_33) rfl rfl (q := 34) rfl ?_
  have k124 : Keep h0 h106 [] := k109.ext E106
  have k125 : Keep h0 T112.heap [] := k124.trans K112 (allS (Or.inr y108) all0)
  have k126 : Keep h0 h117 [] := k125.wr W117 (Or.inr y102)
  have f127 := P112_0.wr W117
  have f128 := P112_1.other W117 (Or.inl (Ne.symm ne116))
  refine Go.retA X117 hx hret hlk (Jvm.hb hby d1_34) rfl rfl rfl (by decide) (by decide) ?_
  rw [e117]
  exact ⟨a101, kk101, a106, rfl, N117, k126, y102, y108, R117, f127, f128⟩
set_option maxRecDepth 65536 in
set_option maxHeartbeats 40000000 in
theorem rm_of2 (l : Launch) (Z : State) (a0 : Array Value) (hw : ∀ d ∈ tables_1, d.before a0 Z = true) (a1 : Addr) (k1 : ClassId) (x0 : UInt64) (x1 : UInt64) (h0 : Heap) (n0 : Nat) (Z0 : n0 ≤ h0.size) (R1 : Row Z h0 a1 .double k1 [(.double x0), (.double x1)]) :
    Con l Z (⟨"com/example/nordwind/nordwind/DoubleReal", "ofAll", "([D)[Lcom/example/nordwind/nordwind/DoubleReal;"⟩ : MethodName) prog_22_method_3_code 3 (some (.array (.object "com/example/nordwind/nordwind/DoubleReal"))) ({ frames := 2, cells := 3, slots := 4, locals := 30 } : Room) #[(.ref a1)] h0 (fun vR hR LR => ∃ (b : Addr) (kb : ClassId) (d0 : Addr) (d1 : Addr), vR = some (.ref b) ∧ Fr n0 LR ∧ Keep h0 hR [] ∧ h0.size ≤ b ∧ h0.size ≤ d0 ∧ h0.size ≤ d1 ∧ Row Z hR b (.object "com/example/nordwind/nordwind/DoubleReal") kb [(.ref d0), (.ref d1)] ∧ Exa Z hR d0 "com/example/nordwind/nordwind/DoubleReal" ∧ Fld Z hR d0 "com/example/nordwind/nordwind/DoubleReal" "value" "D" (.double x0) ∧ Exa Z hR d1 "com/example/nordwind/nordwind/DoubleReal" ∧ Fld Z hR d1 "com/example/nordwind/nordwind/DoubleReal" "value" "D" (.double x1)) := by
  refine enter (l := l) (Z := Z) (y := (⟨"com/example/nordwind/nordwind/DoubleReal", "ofAll", "([D)[Lcom/example/nordwind/nordwind/DoubleReal;"⟩ : MethodName)) (bytes := prog_22_method_3_code) (maxL := 3) (ret := (some (.array (.object "com/example/nordwind/nordwind/DoubleReal")))) (ws := []) (rm := ({ frames := 2, cells := 3, slots := 4, locals := 30 } : Room)) (as' := #[(.ref a1)]) (h0 := h0) (Qv := (fun vR hR LR => ∃ (b : Addr) (kb : ClassId) (d0 : Addr) (d1 : Addr), vR = some (.ref b) ∧ Fr n0 LR ∧ Keep h0 hR [] ∧ h0.size ≤ b ∧ h0.size ≤ d0 ∧ h0.size ≤ d1 ∧ Row Z hR b (.object "com/example/nordwind/nordwind/DoubleReal") kb [(.ref d0), (.ref d1)] ∧ Exa Z hR d0 "com/example/nordwind/nordwind/DoubleReal" ∧ Fld Z hR d0 "com/example/nordwind/nordwind/DoubleReal" "value" "D" (.double x0) ∧ Exa Z hR d1 "com/example/nordwind/nordwind/DoubleReal" ∧ Fld Z hR d1 "com/example/nordwind/nordwind/DoubleReal" "value" "D" (.double x1))) (kc := 3) (ks := 4) (by first | exact plainFor_of_name (by first | (simp [plainName, overriddenIn]; done) | decide +kernel) | decide +kernel) (Ls := #[.val (.ref a1), .unset, .unset]) (fun m => by first | (simp [entryFrame, mkF, argsToLocals, Value.category]; done) | rfl) ?_
  intro p e s m below meth c s₁ hx hby hml hown hnm hret hlk hZ X0 e0
  have hown : s.vm.findClass "com/example/nordwind/nordwind/DoubleReal" = some m.cls := hown
  have hml : c.maxLocals = 3 := hml
  have N0 := Fr.nil n0
  refine Go.aloadN X0.here hx (Jvm.hb hby d1_0) rfl rfl (q := 1) rfl ?_
  refine Go.alen X0 hx hZ e0 R1 (Jvm.hb hby d1_1) (n := (2 : Int32)) (by first | rfl | decide) (q := 2) rfl ?_
  refine Go.newobjs X0 hx hZ hown (word hw 5 rfl) (word hw 6 rfl) e0 (Jvm.hb hby d1_2) (by decide) (k := 2) (by decide) (by decide) (by decide) (by decide) (ad := "[Lcom/example/nordwind/nordwind/DoubleReal;") (by decide) (q := 5) rfl ?_
  intro T101 h101 a101 kk101 g101 X101 e101 E101 R101 O101 A101
  have r102 : n0 ≤ a101 := Nat.le_trans Z0 (Nat.le_of_eq g101.symm)
  have y102 : h0.size ≤ a101 := Nat.le_trans (Keep.refl h0 []).1 (Nat.le_of_eq g101.symm)
  have R101 : Row Z h101 a101 (.object "com/example/nordwind/nordwind/DoubleReal") kk101 [.null, .null] := R101
  refine Go.astoreN X101.here hx (Jvm.hb hby d1_5) rfl (l2 := #[.val (.ref a1), .val (.ref a101), .unset]) rfl (q := 6) rfl ?_
  refine Go.iconst X101.here hx (Jvm.hb hby d1_6) (v := (0 : Int32)) rfl (q := 7) rfl ?_
  refine Go.istoreN X101.here hx (Jvm.hb hby d1_7) (l2 := #[.val (.ref a1), .val (.ref a101), .val (.int (0 : Int32))]) rfl (q := 8) rfl ?_
  refine Go.iloadN X101.here hx (Jvm.hb hby d1_8) rfl (q := 9) rfl ?_
  refine Go.aloadN X101.here hx (Jvm.hb hby d1_9) rfl rfl (q := 10) rfl ?_
  have f103 := R1.ext E101
  refine Go.alen X101 hx hZ e101 f103 (Jvm.hb hby d1_10) (n := (2 : Int32)) (by first | rfl | decide) (q := 11) rfl ?_
  have hc11_105 : (0 : Int32) < (2 : Int32) := by decide
  refine Go.icmpN X101.here hx (Jvm.hb hby d1_11) (tlt hc11_105).2.1 (q := 14) rfl ?_
  refine Go.aloadN X101.here hx (Jvm.hb hby d1_14) rfl rfl (q := 15) rfl ?_
  refine Go.iloadN X101.here hx (Jvm.hb hby d1_15) rfl (q := 16) rfl ?_
  refine Go.new X101 hx hZ hown (word hw 5 rfl) (word hw 7 rfl) (word hw 3 rfl) e101 (Jvm.hb hby d1_16) (by decide) (by decide) (q := 19) rfl ?_
  intro T106 h106 a106 g106 X106 e106 E106 A106 D106
  have z107 : n0 ≤ h101.size := Nat.le_trans Z0 E101.1
  have r108 : n0 ≤ a106 := Nat.le_trans z107 (Nat.le_of_eq g106.symm)
  have k109 : Keep h0 h101 [] := (Keep.refl h0 []).ext E101
  have y108 : h0.size ≤ a106 := Nat.le_trans k109.1 (Nat.le_of_eq g106.symm)
  have F110 : Fld Z h106 a106 "com/example/nordwind/nordwind/DoubleReal" "value" "D" (.double (0 : UInt64)) := D106 (Or.inr (word hw 15 rfl)) (ty := .double) (by decide)
  refine Go.dup X106.here hx (Jvm.hb hby d1_19) rfl (q := 20) rfl ?_
  refine Go.aloadN X106.here hx (Jvm.hb hby d1_20) rfl rfl (q := 21) rfl ?_
  refine Go.iloadN X106.here hx (Jvm.hb hby d1_21) rfl (q := 22) rfl ?_
  have f111 := f103.ext E106
  refine Go.daload X106 hx hZ e106 f111 (Jvm.hb hby d1_22) (i := 0) (by decide) (by decide) rfl (q := 23) rfl ?_
  have z113 : n0 ≤ h106.size := Nat.le_trans z107 E106.1
  refine Go.special X106 hx hZ (y := (⟨"com/example/nordwind/nordwind/DoubleReal", "<init>", "(D)V"⟩ : MethodName)) rfl hown (word hw 8 rfl) (word hw 9 rfl) (word hw 10 rfl) (word hw 3 rfl) (by decide) (rm_init l Z a0 hw a106 x0 (.double (0 : UInt64)) h106 n0 z113 A106 F110 r108) e106 (a := a106) (argsL := [(.double x0)]) (rest := [(.ref a106), (.int (0 : Int32)), (.ref a101)]) (W := 3) (Jvm.hb hby d1_23) rfl rfl (lenOf (pd0) rfl) (by rw [hml]; rfl) (Nat.le_of_eq rfl) (by decide) (by decide) (by decide) (by decide) (q := 26) rfl ?_
  intro T112 L112 w112 X112 hQ112
  obtain ⟨rfl, M112, K112, P112_0, P112_1⟩ := hQ112
  have N112 := Fr.app N0 M112
  show Go p e below _ (T112.setTop (mkF m 26 #[.val (.ref a1), .val (.ref a101), .val (.int (0 : Int32))] [(.ref a106), (.int (0 : Int32)), (.ref a101)]))
  have f114 := R101.ext E106
  have ne116 : a101 ≠ a106 := Nat.ne_of_lt (Nat.lt_of_lt_of_le R101.lt (Nat.le_of_eq g106.symm))
  have f115 := f114.keep K112 (ninS ne116 nin0)
  refine Go.aastore X112 hx hZ rfl f115 rfl O101 (Ins.self P112_0) (Jvm.hb hby d1_26) (i := 0) (by decide) (by decide) rfl (q := 27) rfl ?_
  intro T117 h117 X117 e117 W117 R117
  have N117 := Fr.snoc X117 N112 r102
  have R117 : Row Z h117 a101 (.object "com/example/nordwind/nordwind/DoubleReal") kk101 [(.ref a106), .null] := R117
  refine Go.iinc X117.here hx (Jvm.hb hby d1_27) rfl (v := (1 : Int32)) (by decide) (l2 := #[.val (.ref a1), .val (.ref a101), .val (.int (1 : Int32))]) rfl (q := 30) rfl ?_
  refine Go.goto X117.here hx (Jvm.hb hby d1_30) (by decide) (q := 8) rfl ?_
  refine Go.iloadN X117.here hx (Jvm.hb hby d1_8) rfl (q := 9) rfl ?_
  refine Go.aloadN X117.here hx (Jvm.hb hby d1_9) rfl rfl (q := 10) rfl ?_
  have ne119 : a1 ≠ a106 := Nat.ne_of_lt (Nat.lt_of_lt_of_le f103.lt (Nat.le_of_eq g106.symm))
  have f118 := f111.keep K112 (ninS ne119 nin0)
  have ne121 : a1 ≠ a101 := Nat.ne_of_lt (Nat.lt_of_lt_of_le R1.lt (Nat.le_of_eq g101.symm))
  have f120 := f118.other W117 ne121
  refine Go.alen X117 hx hZ e117 f120 (Jvm.hb hby d1_10) (n := (2 : Int32)) (by first | rfl | decide) (q := 11) rfl ?_
  have hc11_123 : (1 : Int32) < (2 : Int32) := by decide
  refine Go.icmpN X117.here hx (Jvm.hb hby d1_11) (tlt hc11_123).2.1 (q := 14) rfl ?_
  refine Go.aloadN X117.here hx (Jvm.hb hby d1_14) rfl rfl (q := 15) rfl ?_
  refine Go.iloadN X117.here hx (Jvm.hb hby d1_15) rfl (q := 16) rfl ?_
  refine Go.new X117 hx hZ hown (word hw 5 rfl) (word hw 7 rfl) (word hw 3 rfl) e117 (Jvm.hb hby d1_16) (by decide) (by decide) (q := 19) rfl ?_
  intro T124 h124 a124 g124 X124 e124 E124 A124 D124
  have z125 : n0 ≤ T112.heap.size := Nat.le_trans z113 K112.1
  have z126 : n0 ≤ h117.size := Nat.le_trans z125 (Nat.le_of_eq W117.size.symm)
  have r127 : n0 ≤ a124 := Nat.le_trans z126 (Nat.le_of_eq g124.symm)
  have k128 : Keep h0 h106 [] := k109.ext E106
  have k129 : Keep h0 T112.heap [] := k128.trans K112 (allS (Or.inr y108) all0)
  have k130 : Keep h0 h117 [] := k129.wr W117 (Or.inr y102)
  have y127 : h0.size ≤ a124 := Nat.le_trans k130.1 (Nat.le_of_eq g124.symm)
  have F131 : Fld Z h124 a124 "com/example/nordwind/nordwind/DoubleReal" "value" "D" (.double (0 : UInt64)) := D124 (Or.inr (word hw 15 rfl)) (ty := .double) (by decide)
  refine Go.dup X124.here hx (Jvm.hb hby d1_19) rfl (q := 20) rfl ?_
  refine Go.aloadN X124.here hx (Jvm.hb hby d1_20) rfl rfl (q := 21) rfl ?_
  refine Go.iloadN X124.here hx (Jvm.hb hby d1_21) rfl (q := 22) rfl ?_
  have f132 := f120.ext E124
  refine Go.daload X124 hx hZ e124 f132 (Jvm.hb hby d1_22) (i := 1) (by decide) (by decide) rfl (q := 23) rfl ?_
  have z134 : n0 ≤ h124.size := Nat.le_trans z126 E124.1
  refine Go.special X124 hx hZ (y := (⟨"com/example/nordwind/nordwind/DoubleReal", "<init>", "(D)V"⟩ : MethodName)) rfl hown (word hw 8 rfl) (word hw 9 rfl) (word hw 10 rfl) (word hw 3 rfl) (by decide) (rm_init l Z a0 hw a124 x1 (.double (0 : UInt64)) h124 n0 z134 A124 F131 r127) e124 (a := a124) (argsL := [(.double x1)]) (rest := [(.ref a124), (.int (1 : Int32)), (.ref a101)]) (W := 3) (Jvm.hb hby d1_23) rfl rfl (lenOf (pd0) rfl) (by rw [hml]; rfl) (Nat.le_of_eq rfl) (by decide) (by decide) (by decide) (by decide) (q := 26) rfl ?_
  intro T133 L133 w133 X133 hQ133
  obtain ⟨rfl, M133, K133, P133_0, P133_1⟩ := hQ133
  have N133 := Fr.app N117 M133
  show Go p e below _ (T133.setTop (mkF m 26 #[.val (.ref a1), .val (.ref a101), .val (.int (1 : Int32))] [(.ref a124), (.int (1 : Int32)), (.ref a101)]))
  have f135 := R117.ext E124
  have ne137 : a101 ≠ a124 := Nat.ne_of_lt (Nat.lt_of_lt_of_le R117.lt (Nat.le_of_eq g124.symm))
  have f136 := f135.keep K133 (ninS ne137 nin0)
  refine Go.aastore X133 hx hZ rfl f136 rfl O101 (Ins.self P133_0) (Jvm.hb hby d1_26) (i := 1) (by decide) (by decide) rfl (q := 27) rfl ?_
  intro T138 h138 X138 e138 W138 R138
  have N138 := Fr.snoc X138 N133 r102
  have R138 : Row Z h138 a101 (.object "com/example/nordwind/nordwind/DoubleReal") kk101 [(.ref a106), (.ref a124)] := R138
  refine Go.iinc X138.here hx (Jvm.hb hby d1_27) rfl (v := (2 : Int32)) (by decide) (l2 := #[.val (.ref a1), .val (.ref a101), .val (.int (2 : Int32))]) rfl (q := 30) rfl ?_
  refine Go.goto X138.here hx (Jvm.hb hby d1_30) (by decide) (q := 8) rfl ?_
  refine Go.iloadN X138.here hx (Jvm.hb hby d1_8) rfl (q := 9) rfl ?_
  refine Go.aloadN X138.here hx (Jvm.hb hby d1_9) rfl rfl (q := 10) rfl ?_
  have ne140 : a1 ≠ a124 := Nat.ne_of_lt (Nat.lt_of_lt_of_le f120.lt (Nat.le_of_eq g124.symm))
  have f139 := f132.keep K133 (ninS ne140 nin0)
  have f141 := f139.other W138 ne121
  refine Go.alen X138 hx hZ e138 f141 (Jvm.hb hby d1_10) (n := (2 : Int32)) (by first | rfl | decide) (q := 11) rfl ?_
  have hc11_143 : ¬ ((2 : Int32) < (2 : Int32)) := by decide
  refine Go.icmpY X138.here hx (Jvm.hb hby d1_11) (flt hc11_143).2.1 (by decide) (q := 33) rfl ?_
  refine Go.aloadN X138.here hx (Jvm.hb hby d1_33) rfl rfl (q := 34) rfl ?_
  have k144 : Keep h0 h124 [] := k130.ext E124
  have k145 : Keep h0 T133.heap [] := k144.trans K133 (allS (Or.inr y127) all0)
  have k146 : Keep h0 h138 [] := k145.wr W138 (Or.inr y102)
  have f147 := P112_0.wr W117
  have f148 := f147.ext E124
  have ne150 : a106 ≠ a124 := Nat.ne_of_lt (Nat.lt_of_lt_of_le f147.lt (Nat.le_of_eq g124.symm))
  have f149 := f148.keep K133
  have f151 := f149.wr W138
  have f152 := P112_1.other W117 (Or.inl (Ne.symm ne116))
  have f153 := f152.ext E124
  have f154 := f153.keep K133 (ninS ne150 nin0)
  have f155 := f154.other W138 (Or.inl (Ne.symm ne116))
  have f156 := P133_0.wr W138
  have f157 := P133_1.other W138 (Or.inl (Ne.symm ne137))
  refine Go.retA X138 hx hret hlk (Jvm.hb hby d1_34) rfl rfl rfl (by decide) (by decide) ?_
  rw [e138]
  exact ⟨a101, kk101, a106, a124, rfl, N138, k146, y102, y108, y127, R138, f151, f155, f156, f157⟩
set_option maxRecDepth 65536 in
set_option maxHeartbeats 40000000 in
theorem rm_of3 (l : Launch) (Z : State) (a0 : Array Value) (hw : ∀ d ∈ tables_1, d.before a0 Z = true) (a1 : Addr) (k1 : ClassId) (x0 : UInt64) (x1 : UInt64) (x2 : UInt64) (h0 : Heap) (n0 : Nat) (Z0 : n0 ≤ h0.size) (R1 : Row Z h0 a1 .double k1 [(.double x0), (.double x1), (.double x2)]) :
    Con l Z (⟨"com/example/nordwind/nordwind/DoubleReal", "ofAll", "([D)[Lcom/example/nordwind/nordwind/DoubleReal;"⟩ : MethodName) prog_22_method_3_code 3 (some (.array (.object "com/example/nordwind/nordwind/DoubleReal"))) ({ frames := 2, cells := 4, slots := 6, locals := 30 } : Room) #[(.ref a1)] h0 (fun vR hR LR => ∃ (b : Addr) (kb : ClassId) (d0 : Addr) (d1 : Addr) (d2 : Addr), vR = some (.ref b) ∧ Fr n0 LR ∧ Keep h0 hR [] ∧ h0.size ≤ b ∧ h0.size ≤ d0 ∧ h0.size ≤ d1 ∧ h0.size ≤ d2 ∧ Row Z hR b (.object "com/example/nordwind/nordwind/DoubleReal") kb [(.ref d0), (.ref d1), (.ref d2)] ∧ Exa Z hR d0 "com/example/nordwind/nordwind/DoubleReal" ∧ Fld Z hR d0 "com/example/nordwind/nordwind/DoubleReal" "value" "D" (.double x0) ∧ Exa Z hR d1 "com/example/nordwind/nordwind/DoubleReal" ∧ Fld Z hR d1 "com/example/nordwind/nordwind/DoubleReal" "value" "D" (.double x1) ∧ Exa Z hR d2 "com/example/nordwind/nordwind/DoubleReal" ∧ Fld Z hR d2 "com/example/nordwind/nordwind/DoubleReal" "value" "D" (.double x2)) := by
  refine enter (l := l) (Z := Z) (y := (⟨"com/example/nordwind/nordwind/DoubleReal", "ofAll", "([D)[Lcom/example/nordwind/nordwind/DoubleReal;"⟩ : MethodName)) (bytes := prog_22_method_3_code) (maxL := 3) (ret := (some (.array (.object "com/example/nordwind/nordwind/DoubleReal")))) (ws := []) (rm := ({ frames := 2, cells := 4, slots := 6, locals := 30 } : Room)) (as' := #[(.ref a1)]) (h0 := h0) (Qv := (fun vR hR LR => ∃ (b : Addr) (kb : ClassId) (d0 : Addr) (d1 : Addr) (d2 : Addr), vR = some (.ref b) ∧ Fr n0 LR ∧ Keep h0 hR [] ∧ h0.size ≤ b ∧ h0.size ≤ d0 ∧ h0.size ≤ d1 ∧ h0.size ≤ d2 ∧ Row Z hR b (.object "com/example/nordwind/nordwind/DoubleReal") kb [(.ref d0), (.ref d1), (.ref d2)] ∧ Exa Z hR d0 "com/example/nordwind/nordwind/DoubleReal" ∧ Fld Z hR d0 "com/example/nordwind/nordwind/DoubleReal" "value" "D" (.double x0) ∧ Exa Z hR d1 "com/example/nordwind/nordwind/DoubleReal" ∧ Fld Z hR d1 "com/example/nordwind/nordwind/DoubleReal" "value" "D" (.double x1) ∧ Exa Z hR d2 "com/example/nordwind/nordwind/DoubleReal" ∧ Fld Z hR d2 "com/example/nordwind/nordwind/DoubleReal" "value" "D" (.double x2))) (kc := 4) (ks := 6) (by first | exact plainFor_of_name (by first | (simp [plainName, overriddenIn]; done) | decide +kernel) | decide +kernel) (Ls := #[.val (.ref a1), .unset, .unset]) (fun m => by first | (simp [entryFrame, mkF, argsToLocals, Value.category]; done) | rfl) ?_
  intro p e s m below meth c s₁ hx hby hml hown hnm hret hlk hZ X0 e0
  have hown : s.vm.findClass "com/example/nordwind/nordwind/DoubleReal" = some m.cls := hown
  have hml : c.maxLocals = 3 := hml
  have N0 := Fr.nil n0
  refine Go.aloadN X0.here hx (Jvm.hb hby d1_0) rfl rfl (q := 1) rfl ?_
  refine Go.alen X0 hx hZ e0 R1 (Jvm.hb hby d1_1) (n := (3 : Int32)) (by first | rfl | decide) (q := 2) rfl ?_
  refine Go.newobjs X0 hx hZ hown (word hw 5 rfl) (word hw 6 rfl) e0 (Jvm.hb hby d1_2) (by decide) (k := 3) (by decide) (by decide) (by decide) (by decide) (ad := "[Lcom/example/nordwind/nordwind/DoubleReal;") (by decide) (q := 5) rfl ?_
  intro T101 h101 a101 kk101 g101 X101 e101 E101 R101 O101 A101
  have r102 : n0 ≤ a101 := Nat.le_trans Z0 (Nat.le_of_eq g101.symm)
  have y102 : h0.size ≤ a101 := Nat.le_trans (Keep.refl h0 []).1 (Nat.le_of_eq g101.symm)
  have R101 : Row Z h101 a101 (.object "com/example/nordwind/nordwind/DoubleReal") kk101 [.null, .null, .null] := R101
  refine Go.astoreN X101.here hx (Jvm.hb hby d1_5) rfl (l2 := #[.val (.ref a1), .val (.ref a101), .unset]) rfl (q := 6) rfl ?_
  refine Go.iconst X101.here hx (Jvm.hb hby d1_6) (v := (0 : Int32)) rfl (q := 7) rfl ?_
  refine Go.istoreN X101.here hx (Jvm.hb hby d1_7) (l2 := #[.val (.ref a1), .val (.ref a101), .val (.int (0 : Int32))]) rfl (q := 8) rfl ?_
  refine Go.iloadN X101.here hx (Jvm.hb hby d1_8) rfl (q := 9) rfl ?_
  refine Go.aloadN X101.here hx (Jvm.hb hby d1_9) rfl rfl (q := 10) rfl ?_
  have f103 := R1.ext E101
  refine Go.alen X101 hx hZ e101 f103 (Jvm.hb hby d1_10) (n := (3 : Int32)) (by first | rfl | decide) (q := 11) rfl ?_
  have hc11_105 : (0 : Int32) < (3 : Int32) := by decide
  refine Go.icmpN X101.here hx (Jvm.hb hby d1_11) (tlt hc11_105).2.1 (q := 14) rfl ?_
  refine Go.aloadN X101.here hx (Jvm.hb hby d1_14) rfl rfl (q := 15) rfl ?_
  refine Go.iloadN X101.here hx (Jvm.hb hby d1_15) rfl (q := 16) rfl ?_
  refine Go.new X101 hx hZ hown (word hw 5 rfl) (word hw 7 rfl) (word hw 3 rfl) e101 (Jvm.hb hby d1_16) (by decide) (by decide) (q := 19) rfl ?_
  intro T106 h106 a106 g106 X106 e106 E106 A106 D106
  have z107 : n0 ≤ h101.size := Nat.le_trans Z0 E101.1
  have r108 : n0 ≤ a106 := Nat.le_trans z107 (Nat.le_of_eq g106.symm)
  have k109 : Keep h0 h101 [] := (Keep.refl h0 []).ext E101
  have y108 : h0.size ≤ a106 := Nat.le_trans k109.1 (Nat.le_of_eq g106.symm)
  have F110 : Fld Z h106 a106 "com/example/nordwind/nordwind/DoubleReal" "value" "D" (.double (0 : UInt64)) := D106 (Or.inr (word hw 15 rfl)) (ty := .double) (by decide)
  refine Go.dup X106.here hx (Jvm.hb hby d1_19) rfl (q := 20) rfl ?_
  refine Go.aloadN X106.here hx (Jvm.hb hby d1_20) rfl rfl (q := 21) rfl ?_
  refine Go.iloadN X106.here hx (Jvm.hb hby d1_21) rfl (q := 22) rfl ?_
  have f111 := f103.ext E106
  refine Go.daload X106 hx hZ e106 f111 (Jvm.hb hby d1_22) (i := 0) (by decide) (by decide) rfl (q := 23) rfl ?_
  have z113 : n0 ≤ h106.size := Nat.le_trans z107 E106.1
  refine Go.special X106 hx hZ (y := (⟨"com/example/nordwind/nordwind/DoubleReal", "<init>", "(D)V"⟩ : MethodName)) rfl hown (word hw 8 rfl) (word hw 9 rfl) (word hw 10 rfl) (word hw 3 rfl) (by decide) (rm_init l Z a0 hw a106 x0 (.double (0 : UInt64)) h106 n0 z113 A106 F110 r108) e106 (a := a106) (argsL := [(.double x0)]) (rest := [(.ref a106), (.int (0 : Int32)), (.ref a101)]) (W := 3) (Jvm.hb hby d1_23) rfl rfl (lenOf (pd0) rfl) (by rw [hml]; rfl) (Nat.le_of_eq rfl) (by decide) (by decide) (by decide) (by decide) (q := 26) rfl ?_
  intro T112 L112 w112 X112 hQ112
  obtain ⟨rfl, M112, K112, P112_0, P112_1⟩ := hQ112
  have N112 := Fr.app N0 M112
  show Go p e below _ (T112.setTop (mkF m 26 #[.val (.ref a1), .val (.ref a101), .val (.int (0 : Int32))] [(.ref a106), (.int (0 : Int32)), (.ref a101)]))
  have f114 := R101.ext E106
  have ne116 : a101 ≠ a106 := Nat.ne_of_lt (Nat.lt_of_lt_of_le R101.lt (Nat.le_of_eq g106.symm))
  have f115 := f114.keep K112 (ninS ne116 nin0)
  refine Go.aastore X112 hx hZ rfl f115 rfl O101 (Ins.self P112_0) (Jvm.hb hby d1_26) (i := 0) (by decide) (by decide) rfl (q := 27) rfl ?_
  intro T117 h117 X117 e117 W117 R117
  have N117 := Fr.snoc X117 N112 r102
  have R117 : Row Z h117 a101 (.object "com/example/nordwind/nordwind/DoubleReal") kk101 [(.ref a106), .null, .null] := R117
  refine Go.iinc X117.here hx (Jvm.hb hby d1_27) rfl (v := (1 : Int32)) (by decide) (l2 := #[.val (.ref a1), .val (.ref a101), .val (.int (1 : Int32))]) rfl (q := 30) rfl ?_
  refine Go.goto X117.here hx (Jvm.hb hby d1_30) (by decide) (q := 8) rfl ?_
  refine Go.iloadN X117.here hx (Jvm.hb hby d1_8) rfl (q := 9) rfl ?_
  refine Go.aloadN X117.here hx (Jvm.hb hby d1_9) rfl rfl (q := 10) rfl ?_
  have ne119 : a1 ≠ a106 := Nat.ne_of_lt (Nat.lt_of_lt_of_le f103.lt (Nat.le_of_eq g106.symm))
  have f118 := f111.keep K112 (ninS ne119 nin0)
  have ne121 : a1 ≠ a101 := Nat.ne_of_lt (Nat.lt_of_lt_of_le R1.lt (Nat.le_of_eq g101.symm))
  have f120 := f118.other W117 ne121
  refine Go.alen X117 hx hZ e117 f120 (Jvm.hb hby d1_10) (n := (3 : Int32)) (by first | rfl | decide) (q := 11) rfl ?_
  have hc11_123 : (1 : Int32) < (3 : Int32) := by decide
  refine Go.icmpN X117.here hx (Jvm.hb hby d1_11) (tlt hc11_123).2.1 (q := 14) rfl ?_
  refine Go.aloadN X117.here hx (Jvm.hb hby d1_14) rfl rfl (q := 15) rfl ?_
  refine Go.iloadN X117.here hx (Jvm.hb hby d1_15) rfl (q := 16) rfl ?_
  refine Go.new X117 hx hZ hown (word hw 5 rfl) (word hw 7 rfl) (word hw 3 rfl) e117 (Jvm.hb hby d1_16) (by decide) (by decide) (q := 19) rfl ?_
  intro T124 h124 a124 g124 X124 e124 E124 A124 D124
  have z125 : n0 ≤ T112.heap.size := Nat.le_trans z113 K112.1
  have z126 : n0 ≤ h117.size := Nat.le_trans z125 (Nat.le_of_eq W117.size.symm)
  have r127 : n0 ≤ a124 := Nat.le_trans z126 (Nat.le_of_eq g124.symm)
  have k128 : Keep h0 h106 [] := k109.ext E106
  have k129 : Keep h0 T112.heap [] := k128.trans K112 (allS (Or.inr y108) all0)
  have k130 : Keep h0 h117 [] := k129.wr W117 (Or.inr y102)
  have y127 : h0.size ≤ a124 := Nat.le_trans k130.1 (Nat.le_of_eq g124.symm)
  have F131 : Fld Z h124 a124 "com/example/nordwind/nordwind/DoubleReal" "value" "D" (.double (0 : UInt64)) := D124 (Or.inr (word hw 15 rfl)) (ty := .double) (by decide)
  refine Go.dup X124.here hx (Jvm.hb hby d1_19) rfl (q := 20) rfl ?_
  refine Go.aloadN X124.here hx (Jvm.hb hby d1_20) rfl rfl (q := 21) rfl ?_
  refine Go.iloadN X124.here hx (Jvm.hb hby d1_21) rfl (q := 22) rfl ?_
  have f132 := f120.ext E124
  refine Go.daload X124 hx hZ e124 f132 (Jvm.hb hby d1_22) (i := 1) (by decide) (by decide) rfl (q := 23) rfl ?_
  have z134 : n0 ≤ h124.size := Nat.le_trans z126 E124.1
  refine Go.special X124 hx hZ (y := (⟨"com/example/nordwind/nordwind/DoubleReal", "<init>", "(D)V"⟩ : MethodName)) rfl hown (word hw 8 rfl) (word hw 9 rfl) (word hw 10 rfl) (word hw 3 rfl) (by decide) (rm_init l Z a0 hw a124 x1 (.double (0 : UInt64)) h124 n0 z134 A124 F131 r127) e124 (a := a124) (argsL := [(.double x1)]) (rest := [(.ref a124), (.int (1 : Int32)), (.ref a101)]) (W := 3) (Jvm.hb hby d1_23) rfl rfl (lenOf (pd0) rfl) (by rw [hml]; rfl) (Nat.le_of_eq rfl) (by decide) (by decide) (by decide) (by decide) (q := 26) rfl ?_
  intro T133 L133 w133 X133 hQ133
  obtain ⟨rfl, M133, K133, P133_0, P133_1⟩ := hQ133
  have N133 := Fr.app N117 M133
  show Go p e below _ (T133.setTop (mkF m 26 #[.val (.ref a1), .val (.ref a101), .val (.int (1 : Int32))] [(.ref a124), (.int (1 : Int32)), (.ref a101)]))
  have f135 := R117.ext E124
  have ne137 : a101 ≠ a124 := Nat.ne_of_lt (Nat.lt_of_lt_of_le R117.lt (Nat.le_of_eq g124.symm))
  have f136 := f135.keep K133 (ninS ne137 nin0)
  refine Go.aastore X133 hx hZ rfl f136 rfl O101 (Ins.self P133_0) (Jvm.hb hby d1_26) (i := 1) (by decide) (by decide) rfl (q := 27) rfl ?_
  intro T138 h138 X138 e138 W138 R138
  have N138 := Fr.snoc X138 N133 r102
  have R138 : Row Z h138 a101 (.object "com/example/nordwind/nordwind/DoubleReal") kk101 [(.ref a106), (.ref a124), .null] := R138
  refine Go.iinc X138.here hx (Jvm.hb hby d1_27) rfl (v := (2 : Int32)) (by decide) (l2 := #[.val (.ref a1), .val (.ref a101), .val (.int (2 : Int32))]) rfl (q := 30) rfl ?_
  refine Go.goto X138.here hx (Jvm.hb hby d1_30) (by decide) (q := 8) rfl ?_
  refine Go.iloadN X138.here hx (Jvm.hb hby d1_8) rfl (q := 9) rfl ?_
  refine Go.aloadN X138.here hx (Jvm.hb hby d1_9) rfl rfl (q := 10) rfl ?_
  have ne140 : a1 ≠ a124 := Nat.ne_of_lt (Nat.lt_of_lt_of_le f120.lt (Nat.le_of_eq g124.symm))
  have f139 := f132.keep K133 (ninS ne140 nin0)
  have f141 := f139.other W138 ne121
  refine Go.alen X138 hx hZ e138 f141 (Jvm.hb hby d1_10) (n := (3 : Int32)) (by first | rfl | decide) (q := 11) rfl ?_
  have hc11_143 : (2 : Int32) < (3 : Int32) := by decide
  refine Go.icmpN X138.here hx (Jvm.hb hby d1_11) (tlt hc11_143).2.1 (q := 14) rfl ?_
  refine Go.aloadN X138.here hx (Jvm.hb hby d1_14) rfl rfl (q := 15) rfl ?_
  refine Go.iloadN X138.here hx (Jvm.hb hby d1_15) rfl (q := 16) rfl ?_
  refine Go.new X138 hx hZ hown (word hw 5 rfl) (word hw 7 rfl) (word hw 3 rfl) e138 (Jvm.hb hby d1_16) (by decide) (by decide) (q := 19) rfl ?_
  intro T144 h144 a144 g144 X144 e144 E144 A144 D144
  have z145 : n0 ≤ T133.heap.size := Nat.le_trans z134 K133.1
  have z146 : n0 ≤ h138.size := Nat.le_trans z145 (Nat.le_of_eq W138.size.symm)
  have r147 : n0 ≤ a144 := Nat.le_trans z146 (Nat.le_of_eq g144.symm)
  have k148 : Keep h0 h124 [] := k130.ext E124
  have k149 : Keep h0 T133.heap [] := k148.trans K133 (allS (Or.inr y127) all0)
  have k150 : Keep h0 h138 [] := k149.wr W138 (Or.inr y102)
  have y147 : h0.size ≤ a144 := Nat.le_trans k150.1 (Nat.le_of_eq g144.symm)
  have F151 : Fld Z h144 a144 "com/example/nordwind/nordwind/DoubleReal" "value" "D" (.double (0 : UInt64)) := D144 (Or.inr (word hw 15 rfl)) (ty := .double) (by decide)
  refine Go.dup X144.here hx (Jvm.hb hby d1_19) rfl (q := 20) rfl ?_
  refine Go.aloadN X144.here hx (Jvm.hb hby d1_20) rfl rfl (q := 21) rfl ?_
  refine Go.iloadN X144.here hx (Jvm.hb hby d1_21) rfl (q := 22) rfl ?_
  have f152 := f141.ext E144
  refine Go.daload X144 hx hZ e144 f152 (Jvm.hb hby d1_22) (i := 2) (by decide) (by decide) rfl (q := 23) rfl ?_
  have z154 : n0 ≤ h144.size := Nat.le_trans z146 E144.1
  refine Go.special X144 hx hZ (y := (⟨"com/example/nordwind/nordwind/DoubleReal", "<init>", "(D)V"⟩ : MethodName)) rfl hown (word hw 8 rfl) (word hw 9 rfl) (word hw 10 rfl) (word hw 3 rfl) (by decide) (rm_init l Z a0 hw a144 x2 (.double (0 : UInt64)) h144 n0 z154 A144 F151 r147) e144 (a := a144) (argsL := [(.double x2)]) (rest := [(.ref a144), (.int (2 : Int32)), (.ref a101)]) (W := 3) (Jvm.hb hby d1_23) rfl rfl (lenOf (pd0) rfl) (by rw [hml]; rfl) (Nat.le_of_eq rfl) (by decide) (by decide) (by decide) (by decide) (q := 26) rfl ?_
  intro T153 L153 w153 X153 hQ153
  obtain ⟨rfl, M153, K153, P153_0, P153_1⟩ := hQ153
  have N153 := Fr.app N138 M153
  show Go p e below _ (T153.setTop (mkF m 26 #[.val (.ref a1), .val (.ref a101), .val (.int (2 : Int32))] [(.ref a144), (.int (2 : Int32)), (.ref a101)]))
  have f155 := R138.ext E144
  have ne157 : a101 ≠ a144 := Nat.ne_of_lt (Nat.lt_of_lt_of_le R138.lt (Nat.le_of_eq g144.symm))
  have f156 := f155.keep K153 (ninS ne157 nin0)
  refine Go.aastore X153 hx hZ rfl f156 rfl O101 (Ins.self P153_0) (Jvm.hb hby d1_26) (i := 2) (by decide) (by decide) rfl (q := 27) rfl ?_
  intro T158 h158 X158 e158 W158 R158
  have N158 := Fr.snoc X158 N153 r102
  have R158 : Row Z h158 a101 (.object "com/example/nordwind/nordwind/DoubleReal") kk101 [(.ref a106), (.ref a124), (.ref a144)] := R158
  refine Go.iinc X158.here hx (Jvm.hb hby d1_27) rfl (v := (3 : Int32)) (by decide) (l2 := #[.val (.ref a1), .val (.ref a101), .val (.int (3 : Int32))]) rfl (q := 30) rfl ?_
  refine Go.goto X158.here hx (Jvm.hb hby d1_30) (by decide) (q := 8) rfl ?_
  refine Go.iloadN X158.here hx (Jvm.hb hby d1_8) rfl (q := 9) rfl ?_
  refine Go.aloadN X158.here hx (Jvm.hb hby d1_9) rfl rfl (q := 10) rfl ?_
  have ne160 : a1 ≠ a144 := Nat.ne_of_lt (Nat.lt_of_lt_of_le f141.lt (Nat.le_of_eq g144.symm))
  have f159 := f152.keep K153 (ninS ne160 nin0)
  have f161 := f159.other W158 ne121
  refine Go.alen X158 hx hZ e158 f161 (Jvm.hb hby d1_10) (n := (3 : Int32)) (by first | rfl | decide) (q := 11) rfl ?_
  have hc11_163 : ¬ ((3 : Int32) < (3 : Int32)) := by decide
  refine Go.icmpY X158.here hx (Jvm.hb hby d1_11) (flt hc11_163).2.1 (by decide) (q := 33) rfl ?_
  refine Go.aloadN X158.here hx (Jvm.hb hby d1_33) rfl rfl (q := 34) rfl ?_
  have k164 : Keep h0 h144 [] := k150.ext E144
  have k165 : Keep h0 T153.heap [] := k164.trans K153 (allS (Or.inr y147) all0)
  have k166 : Keep h0 h158 [] := k165.wr W158 (Or.inr y102)
  have f167 := P112_0.wr W117
  have f168 := f167.ext E124
  have ne170 : a106 ≠ a124 := Nat.ne_of_lt (Nat.lt_of_lt_of_le f167.lt (Nat.le_of_eq g124.symm))
  have f169 := f168.keep K133
  have f171 := f169.wr W138
  have f172 := f171.ext E144
  have ne174 : a106 ≠ a144 := Nat.ne_of_lt (Nat.lt_of_lt_of_le f171.lt (Nat.le_of_eq g144.symm))
  have f173 := f172.keep K153
  have f175 := f173.wr W158
  have f176 := P112_1.other W117 (Or.inl (Ne.symm ne116))
  have f177 := f176.ext E124
  have f178 := f177.keep K133 (ninS ne170 nin0)
  have f179 := f178.other W138 (Or.inl (Ne.symm ne116))
  have f180 := f179.ext E144
  have f181 := f180.keep K153 (ninS ne174 nin0)
  have f182 := f181.other W158 (Or.inl (Ne.symm ne116))
  have f183 := P133_0.wr W138
  have f184 := f183.ext E144
  have ne186 : a124 ≠ a144 := Nat.ne_of_lt (Nat.lt_of_lt_of_le f183.lt (Nat.le_of_eq g144.symm))
  have f185 := f184.keep K153
  have f187 := f185.wr W158
  have f188 := P133_1.other W138 (Or.inl (Ne.symm ne137))
  have f189 := f188.ext E144
  have f190 := f189.keep K153 (ninS ne186 nin0)
  have f191 := f190.other W158 (Or.inl (Ne.symm ne137))
  have f192 := P153_0.wr W158
  have f193 := P153_1.other W158 (Or.inl (Ne.symm ne157))
  refine Go.retA X158 hx hret hlk (Jvm.hb hby d1_34) rfl rfl rfl (by decide) (by decide) ?_
  rw [e158]
  exact ⟨a101, kk101, a106, a124, a144, rfl, N158, k166, y102, y108, y127, y147, R158, f175, f182, f187, f191, f192, f193⟩
theorem d5_0 : decode prog_22_method_13_code 0 = .ok (.aload_n 0, 1) := by decide +kernel
theorem d5_1 : decode prog_22_method_13_code 1 = .ok (.getfield 7, 3) := by decide +kernel
theorem d5_4 : decode prog_22_method_13_code 4 = .ok (.dreturn, 1) := by decide +kernel
set_option maxRecDepth 65536 in
set_option maxHeartbeats 40000000 in
theorem rm_to (l : Launch) (Z : State) (a0 : Array Value) (hw : ∀ d ∈ tables_1, d.before a0 Z = true) (a1 : Addr) (x : UInt64) (h0 : Heap) (n0 : Nat) (Z0 : n0 ≤ h0.size) (F1 : Fld Z h0 a1 "com/example/nordwind/nordwind/DoubleReal" "value" "D" (.double x)) :
    Con l Z (⟨"com/example/nordwind/nordwind/DoubleReal", "toDouble", "()D"⟩ : MethodName) prog_22_method_13_code 1 (some .double) ({ frames := 0, cells := 0, slots := 0, locals := 0 } : Room) #[(.ref a1)] h0 (fun vR hR LR => vR = some (.double x) ∧ Fr n0 LR ∧ hR = h0) := by
  refine enter (l := l) (Z := Z) (y := (⟨"com/example/nordwind/nordwind/DoubleReal", "toDouble", "()D"⟩ : MethodName)) (bytes := prog_22_method_13_code) (maxL := 1) (ret := (some .double)) (ws := []) (rm := ({ frames := 0, cells := 0, slots := 0, locals := 0 } : Room)) (as' := #[(.ref a1)]) (h0 := h0) (Qv := (fun vR hR LR => vR = some (.double x) ∧ Fr n0 LR ∧ hR = h0)) (kc := 0) (ks := 0) (by first | exact plainFor_of_name (by first | (simp [plainName, overriddenIn]; done) | decide +kernel) | decide +kernel) (Ls := #[.val (.ref a1)]) (fun m => by first | (simp [entryFrame, mkF, argsToLocals, Value.category]; done) | rfl) ?_
  intro p e s m below meth c s₁ hx hby hml hown hnm hret hlk hZ X0 e0
  have hown : s.vm.findClass "com/example/nordwind/nordwind/DoubleReal" = some m.cls := hown
  have hml : c.maxLocals = 1 := hml
  have N0 := Fr.nil n0
  refine Go.aloadN X0.here hx (Jvm.hb hby d5_0) rfl rfl (q := 1) rfl ?_
  refine Go.getf X0 hx hZ hown (word hw 14 rfl) e0 F1 (Jvm.hb hby d5_1) (q := 4) rfl ?_
  intro T101 X101 e101
  refine Go.retD X101 hx hret hlk (Jvm.hb hby d5_4) (by decide) (by decide) ?_
  exact ⟨rfl, N0, e101⟩
theorem d4_0 : decode method_3_code 0 = .ok (.aload_n 0, 1) := by decide +kernel
theorem d4_1 : decode method_3_code 1 = .ok (.ifnull 17, 3) := by decide +kernel
theorem d4_4 : decode method_3_code 4 = .ok (.aload_n 0, 1) := by decide +kernel
theorem d4_5 : decode method_3_code 5 = .ok (.invokevirtual 19, 3) := by decide +kernel
theorem d4_8 : decode method_3_code 8 = .ok (.iload_n 1, 1) := by decide +kernel
theorem d4_9 : decode method_3_code 9 = .ok (.i2d, 1) := by decide +kernel
theorem d4_10 : decode method_3_code 10 = .ok (.dcmp .l, 1) := by decide +kernel
theorem d4_11 : decode method_3_code 11 = .ok (.ifCond .ne 7, 3) := by decide +kernel
theorem d4_14 : decode method_3_code 14 = .ok (.iconst 1, 1) := by decide +kernel
theorem d4_15 : decode method_3_code 15 = .ok (.goto 4, 3) := by decide +kernel
theorem d4_18 : decode method_3_code 18 = .ok (.iconst 0, 1) := by decide +kernel
theorem d4_19 : decode method_3_code 19 = .ok (.ireturn, 1) := by decide +kernel
set_option maxRecDepth 65536 in
set_option maxHeartbeats 40000000 in
theorem rm_holds (l : Launch) (Z : State) (a0 : Array Value) (hw : ∀ d ∈ tables_1, d.before a0 Z = true) (a1 : Addr) (n : Int32) (x : UInt64) (h0 : Heap) (n0 : Nat) (Z0 : n0 ≤ h0.size) (E1 : Exa Z h0 a1 "com/example/nordwind/nordwind/DoubleReal") (F1 : Fld Z h0 a1 "com/example/nordwind/nordwind/DoubleReal" "value" "D" (.double x)) (hx0 : FP.i2d n = x) :
    Con l Z (⟨"com/example/nordwind/nordwind/DoubleRealOfAllPinLaw", "holds", "(Lcom/example/nordwind/nordwind/DoubleReal;I)Z"⟩ : MethodName) method_3_code 2 (some .boolean) ({ frames := 1, cells := 0, slots := 0, locals := 12 } : Room) #[(.ref a1), (.int n)] h0 (fun vR hR LR => vR = some (.int (1 : Int32)) ∧ Fr n0 LR ∧ hR = h0) := by
  refine enter (l := l) (Z := Z) (y := (⟨"com/example/nordwind/nordwind/DoubleRealOfAllPinLaw", "holds", "(Lcom/example/nordwind/nordwind/DoubleReal;I)Z"⟩ : MethodName)) (bytes := method_3_code) (maxL := 2) (ret := (some .boolean)) (ws := []) (rm := ({ frames := 1, cells := 0, slots := 0, locals := 12 } : Room)) (as' := #[(.ref a1), (.int n)]) (h0 := h0) (Qv := (fun vR hR LR => vR = some (.int (1 : Int32)) ∧ Fr n0 LR ∧ hR = h0)) (kc := 0) (ks := 0) (by first | exact plainFor_of_name (by first | (simp [plainName, overriddenIn]; done) | decide +kernel) | decide +kernel) (Ls := #[.val (.ref a1), .val (.int n)]) (fun m => by first | (simp [entryFrame, mkF, argsToLocals, Value.category]; done) | rfl) ?_
  intro p e s m below meth c s₁ hx hby hml hown hnm hret hlk hZ X0 e0
  have hown : s.vm.findClass "com/example/nordwind/nordwind/DoubleRealOfAllPinLaw" = some m.cls := hown
  have hml : c.maxLocals = 2 := hml
  have N0 := Fr.nil n0
  refine Go.aloadN X0.here hx (Jvm.hb hby d4_0) rfl rfl (q := 1) rfl ?_
  refine Go.nullN X0.here hx (Jvm.hb hby d4_1) (q := 4) rfl ?_
  refine Go.aloadN X0.here hx (Jvm.hb hby d4_4) rfl rfl (q := 5) rfl ?_
  refine Go.virtual X0 hx hZ (y := (⟨"com/example/nordwind/nordwind/DoubleReal", "toDouble", "()D"⟩ : MethodName)) hown (word hw 21 rfl) (word hw 22 rfl) (word hw 24 rfl) (word hw 23 rfl) (word hw 25 rfl) (word hw 3 rfl) (by decide) (rm_to l Z a0 hw a1 x h0 n0 Z0 F1) e0 E1  (argsL := []) (rest := []) (W := 0) (Jvm.hb hby d4_5) rfl rfl (lenOf (pd1) rfl) (by rw [hml]; rfl) (Nat.le_of_eq rfl) (by decide) (by decide) (by decide) (by decide) (q := 8) rfl ?_
  intro T101 L101 w101 X101 hQ101
  obtain ⟨rfl, M101, q101⟩ := hQ101
  have N101 := Fr.app N0 M101
  show Go p e below _ (T101.setTop (mkF m 8 #[.val (.ref a1), .val (.int n)] [(.double x)]))
  refine Go.iloadN X101.here hx (Jvm.hb hby d4_8) rfl (q := 9) rfl ?_
  obtain ⟨u9, hu9⟩ : ∃ zq, FP.i2d n = zq := ⟨_, rfl⟩
  refine Go.i2d X101.here hx (Jvm.hb hby d4_9) hu9 (q := 10) rfl ?_
  obtain ⟨u10, hu10⟩ : ∃ zq, cmpValue (FP.dcmp x u9) .l = zq := ⟨_, rfl⟩
  refine Go.dcmp X101.here hx (Jvm.hb hby d4_10) hu10 (q := 11) rfl ?_
  have hc11 : u10 = (0 : Int32) := by rw [← hu10]; exact own_same hx0 hu9 _
  refine Go.ifN X101.here hx (Jvm.hb hby d4_11) ((if0 _ _).trans (teq hc11).2) (q := 14) rfl ?_
  refine Go.iconst X101.here hx (Jvm.hb hby d4_14) (v := (1 : Int32)) rfl (q := 15) rfl ?_
  refine Go.goto X101.here hx (Jvm.hb hby d4_15) (by decide) (q := 19) rfl ?_
  refine Go.retZ X101 hx hret hlk (Jvm.hb hby d4_19) (Or.inr rfl) (by decide) (by decide) ?_
  exact ⟨rfl, N101, q101⟩
set_option maxRecDepth 65536 in
set_option maxHeartbeats 40000000 in
theorem rm_law (l : Launch) (Z : State) (a0 : Array Value) (hw : ∀ d ∈ tables_1, d.before a0 Z = true) (ws : List Jvm.Cond) (q1 : Int32) (q2 : Int32) (q3 : Int32) (q4 : Int32) (h0 : Heap) (n0 : Nat) (Z0 : n0 ≤ h0.size)  :
    MetFree l x (head1 (Jvm.Cond.code x code maxLocals ret :: ws) room_1) (fun a U => a = #[(.int q1), (.int q2), (.int q3), (.int q4)] ∧ Z.Warmed39 U.vm ∧ U.heap = h0) (fun _ _ _ _ _ => True) (fun _ U o U' => ∃ v L, o = .returned v ∧ (fun vR hR LR => vR = some (.int (1 : Int32)) ∧ Fr n0 LR) v U'.heap L ∧ FrameEnd U o U' L 24 128) := by
  refine enter (l := l) (Z := Z) (y := x) (bytes := code) (maxL := maxLocals) (ret := ret) (ws := ws) (rm := room_1) (as' := #[(.int q1), (.int q2), (.int q3), (.int q4)]) (h0 := h0) (Qv := (fun vR hR LR => vR = some (.int (1 : Int32)) ∧ Fr n0 LR)) (kc := 24) (ks := 128) (by first | exact plainFor_of_name (by first | (simp [plainName, overriddenIn]; done) | decide +kernel) | decide +kernel) (Ls := #[.val (.int q1), .val (.int q2), .val (.int q3), .val (.int q4), .unset, .unset, .unset, .unset]) (fun m => by first | (simp [entryFrame, mkF, argsToLocals, Value.category, maxLocals]; done) | rfl) ?_
  intro p e s m below meth c s₁ hx hby hml hown hnm hret hlk hZ X0 e0
  have hown : s.vm.findClass "com/example/nordwind/nordwind/DoubleRealOfAllPinLaw" = some m.cls := hown
  have hml : c.maxLocals = 8 := hml
  have N0 := Fr.nil n0
  refine Go.iloadN X0.here hx (Jvm.hb hby at_0) rfl (q := 1) rfl ?_
  refine Go.iconst X0.here hx (Jvm.hb hby at_1) (v := (3 : Int32)) rfl (q := 2) rfl ?_
  obtain ⟨u2, hu2⟩ : ∃ zq, q1 &&& (3 : Int32) = zq := ⟨_, rfl⟩
  refine Go.iand X0.here hx (Jvm.hb hby at_2) hu2 (q := 3) rfl ?_
  rcases own_four hu2 with rfl | rfl | rfl | rfl
  · -- u2 = 0
    refine Go.istore X0.here hx (Jvm.hb hby at_3) (l2 := #[.val (.int q1), .val (.int q2), .val (.int q3), .val (.int q4), .val (.int (0 : Int32)), .unset, .unset, .unset]) rfl (q := 5) rfl ?_
    refine Go.iload X0.here hx (Jvm.hb hby at_5) rfl (q := 7) rfl ?_
    refine Go.newarr X0 hx hZ (aty := .double) (word hw 0 rfl) e0 (Jvm.hb hby at_7) (by decide) (k := 0) (by decide) (by decide) (by decide) (by decide) (ad := "[D") (by decide) (q := 9) rfl ?_
    intro T101 h101 a101 kk101 g101 X101 e101 E101 R101 A101
    have r102 : n0 ≤ a101 := Nat.le_trans Z0 (Nat.le_of_eq g101.symm)
    have R101 : Row Z h101 a101 .double kk101 [] := R101
    refine Go.astore X101.here hx (Jvm.hb hby at_9) rfl (l2 := #[.val (.int q1), .val (.int q2), .val (.int q3), .val (.int q4), .val (.int (0 : Int32)), .val (.ref a101), .unset, .unset]) rfl (q := 11) rfl ?_
    refine Go.iload X101.here hx (Jvm.hb hby at_11) rfl (q := 13) rfl ?_
    have hc13_104 : ¬ ((0 : Int32) < (0 : Int32)) := by decide
    refine Go.ifY X101.here hx (Jvm.hb hby at_13) ((if0 _ _).trans (flt hc13_104).2.2.2) (by decide) (q := 22) rfl ?_
    refine Go.iload X101.here hx (Jvm.hb hby at_22) rfl (q := 24) rfl ?_
    refine Go.iconst X101.here hx (Jvm.hb hby at_24) (v := (1 : Int32)) rfl (q := 25) rfl ?_
    have hc25_106 : ¬ ((1 : Int32) < (0 : Int32)) := by decide
    refine Go.icmpY X101.here hx (Jvm.hb hby at_25) (flt hc25_106).2.2.2 (by decide) (q := 34) rfl ?_
    refine Go.iload X101.here hx (Jvm.hb hby at_34) rfl (q := 36) rfl ?_
    refine Go.iconst X101.here hx (Jvm.hb hby at_36) (v := (2 : Int32)) rfl (q := 37) rfl ?_
    have hc37_108 : ¬ ((2 : Int32) < (0 : Int32)) := by decide
    refine Go.icmpY X101.here hx (Jvm.hb hby at_37) (flt hc37_108).2.2.2 (by decide) (q := 46) rfl ?_
    refine Go.aload X101.here hx (Jvm.hb hby at_46) rfl rfl (q := 48) rfl ?_
    have z110 : n0 ≤ h101.size := Nat.le_trans Z0 E101.1
    refine Go.static X101 hx hZ (y := (⟨"com/example/nordwind/nordwind/DoubleReal", "ofAll", "([D)[Lcom/example/nordwind/nordwind/DoubleReal;"⟩ : MethodName)) hown (word hw 1 rfl) (word hw 2 rfl) (word hw 4 rfl) (word hw 3 rfl) (by decide) (rm_of0 l Z a0 hw a101 kk101 h101 n0 z110 R101) e101  (argsL := [(.ref a101)]) (rest := []) (W := 0) (Jvm.hb hby at_48) rfl rfl (lenOf (pd2) rfl) (by rw [hml]; rfl) (Nat.le_of_eq rfl) (by decide) (by decide) (by decide) (by decide) (q := 51) rfl ?_
    intro T109 L109 w109 X109 hQ109
    obtain ⟨a109, kk109_1, rfl, M109, K109, G109_0, P109_0⟩ := hQ109
    have N109 := Fr.app N0 M109
    have r111 : n0 ≤ a109 := Nat.le_trans z110 (G109_0)
    show Go p e below _ (T109.setTop (mkF m 51 #[.val (.int q1), .val (.int q2), .val (.int q3), .val (.int q4), .val (.int (0 : Int32)), .val (.ref a101), .unset, .unset] [(.ref a109)]))
    refine Go.astore X109.here hx (Jvm.hb hby at_51) rfl (l2 := #[.val (.int q1), .val (.int q2), .val (.int q3), .val (.int q4), .val (.int (0 : Int32)), .val (.ref a101), .val (.ref a109), .unset]) rfl (q := 53) rfl ?_
    refine Go.aload X109.here hx (Jvm.hb hby at_53) rfl rfl (q := 55) rfl ?_
    refine Go.nullN X109.here hx (Jvm.hb hby at_55) (q := 58) rfl ?_
    refine Go.aload X109.here hx (Jvm.hb hby at_58) rfl rfl (q := 60) rfl ?_
    refine Go.alen X109 hx hZ rfl P109_0 (Jvm.hb hby at_60) (n := (0 : Int32)) (by first | rfl | decide) (q := 61) rfl ?_
    refine Go.iload X109.here hx (Jvm.hb hby at_61) rfl (q := 63) rfl ?_
    have hc63_113 : (0 : Int32) = (0 : Int32) := by decide
    refine Go.icmpY X109.here hx (Jvm.hb hby at_63) (teq hc63_113).1 (by decide) (q := 68) rfl ?_
    refine Go.iconst X109.here hx (Jvm.hb hby at_68) (v := (1 : Int32)) rfl (q := 69) rfl ?_
    refine Go.istore X109.here hx (Jvm.hb hby at_69) (l2 := #[.val (.int q1), .val (.int q2), .val (.int q3), .val (.int q4), .val (.int (0 : Int32)), .val (.ref a101), .val (.ref a109), .val (.int (1 : Int32))]) rfl (q := 71) rfl ?_
    refine Go.iload X109.here hx (Jvm.hb hby at_71) rfl (q := 73) rfl ?_
    have hc73_115 : ¬ ((0 : Int32) < (0 : Int32)) := by decide
    refine Go.ifY X109.here hx (Jvm.hb hby at_73) ((if0 _ _).trans (flt hc73_115).2.2.2) (by decide) (q := 109) rfl ?_
    refine Go.iload X109.here hx (Jvm.hb hby at_109) rfl (q := 111) rfl ?_
    refine Go.iconst X109.here hx (Jvm.hb hby at_111) (v := (1 : Int32)) rfl (q := 112) rfl ?_
    have hc112_117 : ¬ ((1 : Int32) < (0 : Int32)) := by decide
    refine Go.icmpY X109.here hx (Jvm.hb hby at_112) (flt hc112_117).2.2.2 (by decide) (q := 148) rfl ?_
    refine Go.iload X109.here hx (Jvm.hb hby at_148) rfl (q := 150) rfl ?_
    refine Go.iconst X109.here hx (Jvm.hb hby at_150) (v := (2 : Int32)) rfl (q := 151) rfl ?_
    have hc151_119 : ¬ ((2 : Int32) < (0 : Int32)) := by decide
    refine Go.icmpY X109.here hx (Jvm.hb hby at_151) (flt hc151_119).2.2.2 (by decide) (q := 187) rfl ?_
    refine Go.iload X109.here hx (Jvm.hb hby at_187) rfl (q := 189) rfl ?_
    refine Go.retZ X109 hx hret hlk (Jvm.hb hby at_189) (Or.inr rfl) (by decide) (by decide) ?_
    exact ⟨rfl, N109⟩
  · -- u2 = 1
    refine Go.istore X0.here hx (Jvm.hb hby at_3) (l2 := #[.val (.int q1), .val (.int q2), .val (.int q3), .val (.int q4), .val (.int (1 : Int32)), .unset, .unset, .unset]) rfl (q := 5) rfl ?_
    refine Go.iload X0.here hx (Jvm.hb hby at_5) rfl (q := 7) rfl ?_
    refine Go.newarr X0 hx hZ (aty := .double) (word hw 0 rfl) e0 (Jvm.hb hby at_7) (by decide) (k := 1) (by decide) (by decide) (by decide) (by decide) (ad := "[D") (by decide) (q := 9) rfl ?_
    intro T120 h120 a120 kk120 g120 X120 e120 E120 R120 A120
    have r121 : n0 ≤ a120 := Nat.le_trans Z0 (Nat.le_of_eq g120.symm)
    have R120 : Row Z h120 a120 .double kk120 [(.double (0 : UInt64))] := R120
    refine Go.astore X120.here hx (Jvm.hb hby at_9) rfl (l2 := #[.val (.int q1), .val (.int q2), .val (.int q3), .val (.int q4), .val (.int (1 : Int32)), .val (.ref a120), .unset, .unset]) rfl (q := 11) rfl ?_
    refine Go.iload X120.here hx (Jvm.hb hby at_11) rfl (q := 13) rfl ?_
    have hc13_123 : (0 : Int32) < (1 : Int32) := by decide
    refine Go.ifN X120.here hx (Jvm.hb hby at_13) ((if0 _ _).trans (tlt hc13_123).2.2.2) (q := 16) rfl ?_
    refine Go.aload X120.here hx (Jvm.hb hby at_16) rfl rfl (q := 18) rfl ?_
    refine Go.iconst X120.here hx (Jvm.hb hby at_18) (v := (0 : Int32)) rfl (q := 19) rfl ?_
    refine Go.iloadN X120.here hx (Jvm.hb hby at_19) rfl (q := 20) rfl ?_
    obtain ⟨y0, hy0⟩ : ∃ zq, FP.i2d q2 = zq := ⟨_, rfl⟩
    refine Go.i2d X120.here hx (Jvm.hb hby at_20) hy0 (q := 21) rfl ?_
    refine Go.dastore X120 hx hZ e120 R120 (Jvm.hb hby at_21) (i := 0) (by decide) (by decide) rfl (q := 22) rfl ?_
    intro T124 h124 X124 e124 W124 R124
    have N124 := Fr.snoc X124 N0 r121
    have R124 : Row Z h124 a120 .double kk120 [(.double y0)] := R124
    refine Go.iload X124.here hx (Jvm.hb hby at_22) rfl (q := 24) rfl ?_
    refine Go.iconst X124.here hx (Jvm.hb hby at_24) (v := (1 : Int32)) rfl (q := 25) rfl ?_
    have hc25_126 : ¬ ((1 : Int32) < (1 : Int32)) := by decide
    refine Go.icmpY X124.here hx (Jvm.hb hby at_25) (flt hc25_126).2.2.2 (by decide) (q := 34) rfl ?_
    refine Go.iload X124.here hx (Jvm.hb hby at_34) rfl (q := 36) rfl ?_
    refine Go.iconst X124.here hx (Jvm.hb hby at_36) (v := (2 : Int32)) rfl (q := 37) rfl ?_
    have hc37_128 : ¬ ((2 : Int32) < (1 : Int32)) := by decide
    refine Go.icmpY X124.here hx (Jvm.hb hby at_37) (flt hc37_128).2.2.2 (by decide) (q := 46) rfl ?_
    refine Go.aload X124.here hx (Jvm.hb hby at_46) rfl rfl (q := 48) rfl ?_
    have z130 : n0 ≤ h120.size := Nat.le_trans Z0 E120.1
    have z131 : n0 ≤ h124.size := Nat.le_trans z130 (Nat.le_of_eq W124.size.symm)
    refine Go.static X124 hx hZ (y := (⟨"com/example/nordwind/nordwind/DoubleReal", "ofAll", "([D)[Lcom/example/nordwind/nordwind/DoubleReal;"⟩ : MethodName)) hown (word hw 1 rfl) (word hw 2 rfl) (word hw 4 rfl) (word hw 3 rfl) (by decide) (rm_of1 l Z a0 hw a120 kk120 y0 h124 n0 z131 R124) e124  (argsL := [(.ref a120)]) (rest := []) (W := 0) (Jvm.hb hby at_48) rfl rfl (lenOf (pd2) rfl) (by rw [hml]; rfl) (Nat.le_of_eq rfl) (by decide) (by decide) (by decide) (by decide) (q := 51) rfl ?_
    intro T129 L129 w129 X129 hQ129
    obtain ⟨a129, kk129_1, a129_2, rfl, M129, K129, G129_0, G129_1, P129_0, P129_1, P129_2⟩ := hQ129
    have N129 := Fr.app N124 M129
    have r132 : n0 ≤ a129 := Nat.le_trans z131 (G129_0)
    have r133 : n0 ≤ a129_2 := Nat.le_trans z131 (G129_1)
    show Go p e below _ (T129.setTop (mkF m 51 #[.val (.int q1), .val (.int q2), .val (.int q3), .val (.int q4), .val (.int (1 : Int32)), .val (.ref a120), .unset, .unset] [(.ref a129)]))
    refine Go.astore X129.here hx (Jvm.hb hby at_51) rfl (l2 := #[.val (.int q1), .val (.int q2), .val (.int q3), .val (.int q4), .val (.int (1 : Int32)), .val (.ref a120), .val (.ref a129), .unset]) rfl (q := 53) rfl ?_
    refine Go.aload X129.here hx (Jvm.hb hby at_53) rfl rfl (q := 55) rfl ?_
    refine Go.nullN X129.here hx (Jvm.hb hby at_55) (q := 58) rfl ?_
    refine Go.aload X129.here hx (Jvm.hb hby at_58) rfl rfl (q := 60) rfl ?_
    refine Go.alen X129 hx hZ rfl P129_0 (Jvm.hb hby at_60) (n := (1 : Int32)) (by first | rfl | decide) (q := 61) rfl ?_
    refine Go.iload X129.here hx (Jvm.hb hby at_61) rfl (q := 63) rfl ?_
    have hc63_135 : (1 : Int32) = (1 : Int32) := by decide
    refine Go.icmpY X129.here hx (Jvm.hb hby at_63) (teq hc63_135).1 (by decide) (q := 68) rfl ?_
    refine Go.iconst X129.here hx (Jvm.hb hby at_68) (v := (1 : Int32)) rfl (q := 69) rfl ?_
    refine Go.istore X129.here hx (Jvm.hb hby at_69) (l2 := #[.val (.int q1), .val (.int q2), .val (.int q3), .val (.int q4), .val (.int (1 : Int32)), .val (.ref a120), .val (.ref a129), .val (.int (1 : Int32))]) rfl (q := 71) rfl ?_
    refine Go.iload X129.here hx (Jvm.hb hby at_71) rfl (q := 73) rfl ?_
    have hc73_137 : (0 : Int32) < (1 : Int32) := by decide
    refine Go.ifN X129.here hx (Jvm.hb hby at_73) ((if0 _ _).trans (tlt hc73_137).2.2.2) (q := 76) rfl ?_
    refine Go.iload X129.here hx (Jvm.hb hby at_76) rfl (q := 78) rfl ?_
    have hc78_139 : ¬ ((1 : Int32) = (0 : Int32)) := by decide
    refine Go.ifN X129.here hx (Jvm.hb hby at_78) ((if0 _ _).trans (feq hc78_139).1) (q := 81) rfl ?_
    refine Go.aload X129.here hx (Jvm.hb hby at_81) rfl rfl (q := 83) rfl ?_
    refine Go.iconst X129.here hx (Jvm.hb hby at_83) (v := (0 : Int32)) rfl (q := 84) rfl ?_
    refine Go.aaload X129 hx hZ rfl P129_0 rfl (Jvm.hb hby at_84) (i := 0) (by decide) (by decide) rfl (q := 85) rfl ?_
    refine Go.iloadN X129.here hx (Jvm.hb hby at_85) rfl (q := 86) rfl ?_
    have z141 : n0 ≤ T129.heap.size := Nat.le_trans z131 K129.1
    refine Go.static X129 hx hZ (y := (⟨"com/example/nordwind/nordwind/DoubleRealOfAllPinLaw", "holds", "(Lcom/example/nordwind/nordwind/DoubleReal;I)Z"⟩ : MethodName)) hown (word hw 17 rfl) (word hw 18 rfl) (word hw 20 rfl) (word hw 19 rfl) (by decide) (rm_holds l Z a0 hw a129_2 q2 y0 T129.heap n0 z141 P129_1 P129_2 hy0) rfl  (argsL := [(.ref a129_2), (.int q2)]) (rest := []) (W := 0) (Jvm.hb hby at_86) rfl rfl (lenOf (pd3) rfl) (by rw [hml]; rfl) (Nat.le_of_eq rfl) (by decide) (by decide) (by decide) (by decide) (q := 89) rfl ?_
    intro T140 L140 w140 X140 hQ140
    obtain ⟨rfl, M140, q140⟩ := hQ140
    have N140 := Fr.app N129 M140
    show Go p e below _ (T140.setTop (mkF m 89 #[.val (.int q1), .val (.int q2), .val (.int q3), .val (.int q4), .val (.int (1 : Int32)), .val (.ref a120), .val (.ref a129), .val (.int (1 : Int32))] [(.int (1 : Int32))]))
    have hc89_143 : ¬ ((1 : Int32) = (0 : Int32)) := by decide
    refine Go.ifN X140.here hx (Jvm.hb hby at_89) ((if0 _ _).trans (feq hc89_143).1) (q := 92) rfl ?_
    refine Go.aload X140.here hx (Jvm.hb hby at_92) rfl rfl (q := 94) rfl ?_
    refine Go.iconst X140.here hx (Jvm.hb hby at_94) (v := (0 : Int32)) rfl (q := 95) rfl ?_
    have f144 := R124.keep K129 (by simp)
    refine Go.daload X140 hx hZ q140 f144 (Jvm.hb hby at_95) (i := 0) (by decide) (by decide) rfl (q := 96) rfl ?_
    refine Go.iloadN X140.here hx (Jvm.hb hby at_96) rfl (q := 97) rfl ?_
    obtain ⟨u97, hu97⟩ : ∃ zq, FP.i2d q2 = zq := ⟨_, rfl⟩
    refine Go.i2d X140.here hx (Jvm.hb hby at_97) hu97 (q := 98) rfl ?_
    obtain ⟨u98, hu98⟩ : ∃ zq, cmpValue (FP.dcmp y0 u97) .l = zq := ⟨_, rfl⟩
    refine Go.dcmp X140.here hx (Jvm.hb hby at_98) hu98 (q := 99) rfl ?_
    have hc99 : u98 = (0 : Int32) := by rw [← hu98]; exact own_same hy0 hu97 _
    refine Go.ifN X140.here hx (Jvm.hb hby at_99) ((if0 _ _).trans (teq hc99).2) (q := 102) rfl ?_
    refine Go.iconst X140.here hx (Jvm.hb hby at_102) (v := (1 : Int32)) rfl (q := 103) rfl ?_
    refine Go.goto X140.here hx (Jvm.hb hby at_103) (by decide) (q := 107) rfl ?_
    refine Go.istore X140.here hx (Jvm.hb hby at_107) (l2 := #[.val (.int q1), .val (.int q2), .val (.int q3), .val (.int q4), .val (.int (1 : Int32)), .val (.ref a120), .val (.ref a129), .val (.int (1 : Int32))]) rfl (q := 109) rfl ?_
    refine Go.iload X140.here hx (Jvm.hb hby at_109) rfl (q := 111) rfl ?_
    refine Go.iconst X140.here hx (Jvm.hb hby at_111) (v := (1 : Int32)) rfl (q := 112) rfl ?_
    have hc112_147 : ¬ ((1 : Int32) < (1 : Int32)) := by decide
    refine Go.icmpY X140.here hx (Jvm.hb hby at_112) (flt hc112_147).2.2.2 (by decide) (q := 148) rfl ?_
    refine Go.iload X140.here hx (Jvm.hb hby at_148) rfl (q := 150) rfl ?_
    refine Go.iconst X140.here hx (Jvm.hb hby at_150) (v := (2 : Int32)) rfl (q := 151) rfl ?_
    have hc151_149 : ¬ ((2 : Int32) < (1 : Int32)) := by decide
    refine Go.icmpY X140.here hx (Jvm.hb hby at_151) (flt hc151_149).2.2.2 (by decide) (q := 187) rfl ?_
    refine Go.iload X140.here hx (Jvm.hb hby at_187) rfl (q := 189) rfl ?_
    refine Go.retZ X140 hx hret hlk (Jvm.hb hby at_189) (Or.inr rfl) (by decide) (by decide) ?_
    exact ⟨rfl, N140⟩
  · -- u2 = 2
    refine Go.istore X0.here hx (Jvm.hb hby at_3) (l2 := #[.val (.int q1), .val (.int q2), .val (.int q3), .val (.int q4), .val (.int (2 : Int32)), .unset, .unset, .unset]) rfl (q := 5) rfl ?_
    refine Go.iload X0.here hx (Jvm.hb hby at_5) rfl (q := 7) rfl ?_
    refine Go.newarr X0 hx hZ (aty := .double) (word hw 0 rfl) e0 (Jvm.hb hby at_7) (by decide) (k := 2) (by decide) (by decide) (by decide) (by decide) (ad := "[D") (by decide) (q := 9) rfl ?_
    intro T150 h150 a150 kk150 g150 X150 e150 E150 R150 A150
    have r151 : n0 ≤ a150 := Nat.le_trans Z0 (Nat.le_of_eq g150.symm)
    have R150 : Row Z h150 a150 .double kk150 [(.double (0 : UInt64)), (.double (0 : UInt64))] := R150
    refine Go.astore X150.here hx (Jvm.hb hby at_9) rfl (l2 := #[.val (.int q1), .val (.int q2), .val (.int q3), .val (.int q4), .val (.int (2 : Int32)), .val (.ref a150), .unset, .unset]) rfl (q := 11) rfl ?_
    refine Go.iload X150.here hx (Jvm.hb hby at_11) rfl (q := 13) rfl ?_
    have hc13_153 : (0 : Int32) < (2 : Int32) := by decide
    refine Go.ifN X150.here hx (Jvm.hb hby at_13) ((if0 _ _).trans (tlt hc13_153).2.2.2) (q := 16) rfl ?_
    refine Go.aload X150.here hx (Jvm.hb hby at_16) rfl rfl (q := 18) rfl ?_
    refine Go.iconst X150.here hx (Jvm.hb hby at_18) (v := (0 : Int32)) rfl (q := 19) rfl ?_
    refine Go.iloadN X150.here hx (Jvm.hb hby at_19) rfl (q := 20) rfl ?_
    obtain ⟨y0, hy0⟩ : ∃ zq, FP.i2d q2 = zq := ⟨_, rfl⟩
    refine Go.i2d X150.here hx (Jvm.hb hby at_20) hy0 (q := 21) rfl ?_
    refine Go.dastore X150 hx hZ e150 R150 (Jvm.hb hby at_21) (i := 0) (by decide) (by decide) rfl (q := 22) rfl ?_
    intro T154 h154 X154 e154 W154 R154
    have N154 := Fr.snoc X154 N0 r151
    have R154 : Row Z h154 a150 .double kk150 [(.double y0), (.double (0 : UInt64))] := R154
    refine Go.iload X154.here hx (Jvm.hb hby at_22) rfl (q := 24) rfl ?_
    refine Go.iconst X154.here hx (Jvm.hb hby at_24) (v := (1 : Int32)) rfl (q := 25) rfl ?_
    have hc25_156 : (1 : Int32) < (2 : Int32) := by decide
    refine Go.icmpN X154.here hx (Jvm.hb hby at_25) (tlt hc25_156).2.2.2 (q := 28) rfl ?_
    refine Go.aload X154.here hx (Jvm.hb hby at_28) rfl rfl (q := 30) rfl ?_
    refine Go.iconst X154.here hx (Jvm.hb hby at_30) (v := (1 : Int32)) rfl (q := 31) rfl ?_
    refine Go.iloadN X154.here hx (Jvm.hb hby at_31) rfl (q := 32) rfl ?_
    obtain ⟨y1, hy1⟩ : ∃ zq, FP.i2d q3 = zq := ⟨_, rfl⟩
    refine Go.i2d X154.here hx (Jvm.hb hby at_32) hy1 (q := 33) rfl ?_
    refine Go.dastore X154 hx hZ e154 R154 (Jvm.hb hby at_33) (i := 1) (by decide) (by decide) rfl (q := 34) rfl ?_
    intro T157 h157 X157 e157 W157 R157
    have N157 := Fr.snoc X157 N154 r151
    have R157 : Row Z h157 a150 .double kk150 [(.double y0), (.double y1)] := R157
    refine Go.iload X157.here hx (Jvm.hb hby at_34) rfl (q := 36) rfl ?_
    refine Go.iconst X157.here hx (Jvm.hb hby at_36) (v := (2 : Int32)) rfl (q := 37) rfl ?_
    have hc37_159 : ¬ ((2 : Int32) < (2 : Int32)) := by decide
    refine Go.icmpY X157.here hx (Jvm.hb hby at_37) (flt hc37_159).2.2.2 (by decide) (q := 46) rfl ?_
    refine Go.aload X157.here hx (Jvm.hb hby at_46) rfl rfl (q := 48) rfl ?_
    have z161 : n0 ≤ h150.size := Nat.le_trans Z0 E150.1
    have z162 : n0 ≤ h154.size := Nat.le_trans z161 (Nat.le_of_eq W154.size.symm)
    have z163 : n0 ≤ h157.size := Nat.le_trans z162 (Nat.le_of_eq W157.size.symm)
    refine Go.static X157 hx hZ (y := (⟨"com/example/nordwind/nordwind/DoubleReal", "ofAll", "([D)[Lcom/example/nordwind/nordwind/DoubleReal;"⟩ : MethodName)) hown (word hw 1 rfl) (word hw 2 rfl) (word hw 4 rfl) (word hw 3 rfl) (by decide) (rm_of2 l Z a0 hw a150 kk150 y0 y1 h157 n0 z163 R157) e157  (argsL := [(.ref a150)]) (rest := []) (W := 0) (Jvm.hb hby at_48) rfl rfl (lenOf (pd2) rfl) (by rw [hml]; rfl) (Nat.le_of_eq rfl) (by decide) (by decide) (by decide) (by decide) (q := 51) rfl ?_
    intro T160 L160 w160 X160 hQ160
    obtain ⟨a160, kk160_1, a160_2, a160_3, rfl, M160, K160, G160_0, G160_1, G160_2, P160_0, P160_1, P160_2, P160_3, P160_4⟩ := hQ160
    have N160 := Fr.app N157 M160
    have r164 : n0 ≤ a160 := Nat.le_trans z163 (G160_0)
    have r165 : n0 ≤ a160_2 := Nat.le_trans z163 (G160_1)
    have r166 : n0 ≤ a160_3 := Nat.le_trans z163 (G160_2)
    show Go p e below _ (T160.setTop (mkF m 51 #[.val (.int q1), .val (.int q2), .val (.int q3), .val (.int q4), .val (.int (2 : Int32)), .val (.ref a150), .unset, .unset] [(.ref a160)]))
    refine Go.astore X160.here hx (Jvm.hb hby at_51) rfl (l2 := #[.val (.int q1), .val (.int q2), .val (.int q3), .val (.int q4), .val (.int (2 : Int32)), .val (.ref a150), .val (.ref a160), .unset]) rfl (q := 53) rfl ?_
    refine Go.aload X160.here hx (Jvm.hb hby at_53) rfl rfl (q := 55) rfl ?_
    refine Go.nullN X160.here hx (Jvm.hb hby at_55) (q := 58) rfl ?_
    refine Go.aload X160.here hx (Jvm.hb hby at_58) rfl rfl (q := 60) rfl ?_
    refine Go.alen X160 hx hZ rfl P160_0 (Jvm.hb hby at_60) (n := (2 : Int32)) (by first | rfl | decide) (q := 61) rfl ?_
    refine Go.iload X160.here hx (Jvm.hb hby at_61) rfl (q := 63) rfl ?_
    have hc63_168 : (2 : Int32) = (2 : Int32) := by decide
    refine Go.icmpY X160.here hx (Jvm.hb hby at_63) (teq hc63_168).1 (by decide) (q := 68) rfl ?_
    refine Go.iconst X160.here hx (Jvm.hb hby at_68) (v := (1 : Int32)) rfl (q := 69) rfl ?_
    refine Go.istore X160.here hx (Jvm.hb hby at_69) (l2 := #[.val (.int q1), .val (.int q2), .val (.int q3), .val (.int q4), .val (.int (2 : Int32)), .val (.ref a150), .val (.ref a160), .val (.int (1 : Int32))]) rfl (q := 71) rfl ?_
    refine Go.iload X160.here hx (Jvm.hb hby at_71) rfl (q := 73) rfl ?_
    have hc73_170 : (0 : Int32) < (2 : Int32) := by decide
    refine Go.ifN X160.here hx (Jvm.hb hby at_73) ((if0 _ _).trans (tlt hc73_170).2.2.2) (q := 76) rfl ?_
    refine Go.iload X160.here hx (Jvm.hb hby at_76) rfl (q := 78) rfl ?_
    have hc78_172 : ¬ ((1 : Int32) = (0 : Int32)) := by decide
    refine Go.ifN X160.here hx (Jvm.hb hby at_78) ((if0 _ _).trans (feq hc78_172).1) (q := 81) rfl ?_
    refine Go.aload X160.here hx (Jvm.hb hby at_81) rfl rfl (q := 83) rfl ?_
    refine Go.iconst X160.here hx (Jvm.hb hby at_83) (v := (0 : Int32)) rfl (q := 84) rfl ?_
    refine Go.aaload X160 hx hZ rfl P160_0 rfl (Jvm.hb hby at_84) (i := 0) (by decide) (by decide) rfl (q := 85) rfl ?_
    refine Go.iloadN X160.here hx (Jvm.hb hby at_85) rfl (q := 86) rfl ?_
    have z174 : n0 ≤ T160.heap.size := Nat.le_trans z163 K160.1
    refine Go.static X160 hx hZ (y := (⟨"com/example/nordwind/nordwind/DoubleRealOfAllPinLaw", "holds", "(Lcom/example/nordwind/nordwind/DoubleReal;I)Z"⟩ : MethodName)) hown (word hw 17 rfl) (word hw 18 rfl) (word hw 20 rfl) (word hw 19 rfl) (by decide) (rm_holds l Z a0 hw a160_2 q2 y0 T160.heap n0 z174 P160_1 P160_2 hy0) rfl  (argsL := [(.ref a160_2), (.int q2)]) (rest := []) (W := 0) (Jvm.hb hby at_86) rfl rfl (lenOf (pd3) rfl) (by rw [hml]; rfl) (Nat.le_of_eq rfl) (by decide) (by decide) (by decide) (by decide) (q := 89) rfl ?_
    intro T173 L173 w173 X173 hQ173
    obtain ⟨rfl, M173, q173⟩ := hQ173
    have N173 := Fr.app N160 M173
    show Go p e below _ (T173.setTop (mkF m 89 #[.val (.int q1), .val (.int q2), .val (.int q3), .val (.int q4), .val (.int (2 : Int32)), .val (.ref a150), .val (.ref a160), .val (.int (1 : Int32))] [(.int (1 : Int32))]))
    have hc89_176 : ¬ ((1 : Int32) = (0 : Int32)) := by decide
    refine Go.ifN X173.here hx (Jvm.hb hby at_89) ((if0 _ _).trans (feq hc89_176).1) (q := 92) rfl ?_
    refine Go.aload X173.here hx (Jvm.hb hby at_92) rfl rfl (q := 94) rfl ?_
    refine Go.iconst X173.here hx (Jvm.hb hby at_94) (v := (0 : Int32)) rfl (q := 95) rfl ?_
    have f177 := R157.keep K160 (by simp)
    refine Go.daload X173 hx hZ q173 f177 (Jvm.hb hby at_95) (i := 0) (by decide) (by decide) rfl (q := 96) rfl ?_
    refine Go.iloadN X173.here hx (Jvm.hb hby at_96) rfl (q := 97) rfl ?_
    obtain ⟨u97, hu97⟩ : ∃ zq, FP.i2d q2 = zq := ⟨_, rfl⟩
    refine Go.i2d X173.here hx (Jvm.hb hby at_97) hu97 (q := 98) rfl ?_
    obtain ⟨u98, hu98⟩ : ∃ zq, cmpValue (FP.dcmp y0 u97) .l = zq := ⟨_, rfl⟩
    refine Go.dcmp X173.here hx (Jvm.hb hby at_98) hu98 (q := 99) rfl ?_
    have hc99 : u98 = (0 : Int32) := by rw [← hu98]; exact own_same hy0 hu97 _
    refine Go.ifN X173.here hx (Jvm.hb hby at_99) ((if0 _ _).trans (teq hc99).2) (q := 102) rfl ?_
    refine Go.iconst X173.here hx (Jvm.hb hby at_102) (v := (1 : Int32)) rfl (q := 103) rfl ?_
    refine Go.goto X173.here hx (Jvm.hb hby at_103) (by decide) (q := 107) rfl ?_
    refine Go.istore X173.here hx (Jvm.hb hby at_107) (l2 := #[.val (.int q1), .val (.int q2), .val (.int q3), .val (.int q4), .val (.int (2 : Int32)), .val (.ref a150), .val (.ref a160), .val (.int (1 : Int32))]) rfl (q := 109) rfl ?_
    refine Go.iload X173.here hx (Jvm.hb hby at_109) rfl (q := 111) rfl ?_
    refine Go.iconst X173.here hx (Jvm.hb hby at_111) (v := (1 : Int32)) rfl (q := 112) rfl ?_
    have hc112_180 : (1 : Int32) < (2 : Int32) := by decide
    refine Go.icmpN X173.here hx (Jvm.hb hby at_112) (tlt hc112_180).2.2.2 (q := 115) rfl ?_
    refine Go.iload X173.here hx (Jvm.hb hby at_115) rfl (q := 117) rfl ?_
    have hc117_182 : ¬ ((1 : Int32) = (0 : Int32)) := by decide
    refine Go.ifN X173.here hx (Jvm.hb hby at_117) ((if0 _ _).trans (feq hc117_182).1) (q := 120) rfl ?_
    refine Go.aload X173.here hx (Jvm.hb hby at_120) rfl rfl (q := 122) rfl ?_
    refine Go.iconst X173.here hx (Jvm.hb hby at_122) (v := (1 : Int32)) rfl (q := 123) rfl ?_
    refine Go.aaload X173 hx hZ q173 P160_0 rfl (Jvm.hb hby at_123) (i := 1) (by decide) (by decide) rfl (q := 124) rfl ?_
    refine Go.iloadN X173.here hx (Jvm.hb hby at_124) rfl (q := 125) rfl ?_
    refine Go.static X173 hx hZ (y := (⟨"com/example/nordwind/nordwind/DoubleRealOfAllPinLaw", "holds", "(Lcom/example/nordwind/nordwind/DoubleReal;I)Z"⟩ : MethodName)) hown (word hw 17 rfl) (word hw 18 rfl) (word hw 20 rfl) (word hw 19 rfl) (by decide) (rm_holds l Z a0 hw a160_3 q3 y1 T160.heap n0 z174 P160_3 P160_4 hy1) q173  (argsL := [(.ref a160_3), (.int q3)]) (rest := []) (W := 0) (Jvm.hb hby at_125) rfl rfl (lenOf (pd3) rfl) (by rw [hml]; rfl) (Nat.le_of_eq rfl) (by decide) (by decide) (by decide) (by decide) (q := 128) rfl ?_
    intro T183 L183 w183 X183 hQ183
    obtain ⟨rfl, M183, q183⟩ := hQ183
    have N183 := Fr.app N173 M183
    show Go p e below _ (T183.setTop (mkF m 128 #[.val (.int q1), .val (.int q2), .val (.int q3), .val (.int q4), .val (.int (2 : Int32)), .val (.ref a150), .val (.ref a160), .val (.int (1 : Int32))] [(.int (1 : Int32))]))
    have hc128_185 : ¬ ((1 : Int32) = (0 : Int32)) := by decide
    refine Go.ifN X183.here hx (Jvm.hb hby at_128) ((if0 _ _).trans (feq hc128_185).1) (q := 131) rfl ?_
    refine Go.aload X183.here hx (Jvm.hb hby at_131) rfl rfl (q := 133) rfl ?_
    refine Go.iconst X183.here hx (Jvm.hb hby at_133) (v := (1 : Int32)) rfl (q := 134) rfl ?_
    refine Go.daload X183 hx hZ q183 f177 (Jvm.hb hby at_134) (i := 1) (by decide) (by decide) rfl (q := 135) rfl ?_
    refine Go.iloadN X183.here hx (Jvm.hb hby at_135) rfl (q := 136) rfl ?_
    obtain ⟨u136, hu136⟩ : ∃ zq, FP.i2d q3 = zq := ⟨_, rfl⟩
    refine Go.i2d X183.here hx (Jvm.hb hby at_136) hu136 (q := 137) rfl ?_
    obtain ⟨u137, hu137⟩ : ∃ zq, cmpValue (FP.dcmp y1 u136) .l = zq := ⟨_, rfl⟩
    refine Go.dcmp X183.here hx (Jvm.hb hby at_137) hu137 (q := 138) rfl ?_
    have hc138 : u137 = (0 : Int32) := by rw [← hu137]; exact own_same hy1 hu136 _
    refine Go.ifN X183.here hx (Jvm.hb hby at_138) ((if0 _ _).trans (teq hc138).2) (q := 141) rfl ?_
    refine Go.iconst X183.here hx (Jvm.hb hby at_141) (v := (1 : Int32)) rfl (q := 142) rfl ?_
    refine Go.goto X183.here hx (Jvm.hb hby at_142) (by decide) (q := 146) rfl ?_
    refine Go.istore X183.here hx (Jvm.hb hby at_146) (l2 := #[.val (.int q1), .val (.int q2), .val (.int q3), .val (.int q4), .val (.int (2 : Int32)), .val (.ref a150), .val (.ref a160), .val (.int (1 : Int32))]) rfl (q := 148) rfl ?_
    refine Go.iload X183.here hx (Jvm.hb hby at_148) rfl (q := 150) rfl ?_
    refine Go.iconst X183.here hx (Jvm.hb hby at_150) (v := (2 : Int32)) rfl (q := 151) rfl ?_
    have hc151_188 : ¬ ((2 : Int32) < (2 : Int32)) := by decide
    refine Go.icmpY X183.here hx (Jvm.hb hby at_151) (flt hc151_188).2.2.2 (by decide) (q := 187) rfl ?_
    refine Go.iload X183.here hx (Jvm.hb hby at_187) rfl (q := 189) rfl ?_
    refine Go.retZ X183 hx hret hlk (Jvm.hb hby at_189) (Or.inr rfl) (by decide) (by decide) ?_
    exact ⟨rfl, N183⟩
  · -- u2 = 3
    refine Go.istore X0.here hx (Jvm.hb hby at_3) (l2 := #[.val (.int q1), .val (.int q2), .val (.int q3), .val (.int q4), .val (.int (3 : Int32)), .unset, .unset, .unset]) rfl (q := 5) rfl ?_
    refine Go.iload X0.here hx (Jvm.hb hby at_5) rfl (q := 7) rfl ?_
    refine Go.newarr X0 hx hZ (aty := .double) (word hw 0 rfl) e0 (Jvm.hb hby at_7) (by decide) (k := 3) (by decide) (by decide) (by decide) (by decide) (ad := "[D") (by decide) (q := 9) rfl ?_
    intro T189 h189 a189 kk189 g189 X189 e189 E189 R189 A189
    have r190 : n0 ≤ a189 := Nat.le_trans Z0 (Nat.le_of_eq g189.symm)
    have R189 : Row Z h189 a189 .double kk189 [(.double (0 : UInt64)), (.double (0 : UInt64)), (.double (0 : UInt64))] := R189
    refine Go.astore X189.here hx (Jvm.hb hby at_9) rfl (l2 := #[.val (.int q1), .val (.int q2), .val (.int q3), .val (.int q4), .val (.int (3 : Int32)), .val (.ref a189), .unset, .unset]) rfl (q := 11) rfl ?_
    refine Go.iload X189.here hx (Jvm.hb hby at_11) rfl (q := 13) rfl ?_
    have hc13_192 : (0 : Int32) < (3 : Int32) := by decide
    refine Go.ifN X189.here hx (Jvm.hb hby at_13) ((if0 _ _).trans (tlt hc13_192).2.2.2) (q := 16) rfl ?_
    refine Go.aload X189.here hx (Jvm.hb hby at_16) rfl rfl (q := 18) rfl ?_
    refine Go.iconst X189.here hx (Jvm.hb hby at_18) (v := (0 : Int32)) rfl (q := 19) rfl ?_
    refine Go.iloadN X189.here hx (Jvm.hb hby at_19) rfl (q := 20) rfl ?_
    obtain ⟨y0, hy0⟩ : ∃ zq, FP.i2d q2 = zq := ⟨_, rfl⟩
    refine Go.i2d X189.here hx (Jvm.hb hby at_20) hy0 (q := 21) rfl ?_
    refine Go.dastore X189 hx hZ e189 R189 (Jvm.hb hby at_21) (i := 0) (by decide) (by decide) rfl (q := 22) rfl ?_
    intro T193 h193 X193 e193 W193 R193
    have N193 := Fr.snoc X193 N0 r190
    have R193 : Row Z h193 a189 .double kk189 [(.double y0), (.double (0 : UInt64)), (.double (0 : UInt64))] := R193
    refine Go.iload X193.here hx (Jvm.hb hby at_22) rfl (q := 24) rfl ?_
    refine Go.iconst X193.here hx (Jvm.hb hby at_24) (v := (1 : Int32)) rfl (q := 25) rfl ?_
    have hc25_195 : (1 : Int32) < (3 : Int32) := by decide
    refine Go.icmpN X193.here hx (Jvm.hb hby at_25) (tlt hc25_195).2.2.2 (q := 28) rfl ?_
    refine Go.aload X193.here hx (Jvm.hb hby at_28) rfl rfl (q := 30) rfl ?_
    refine Go.iconst X193.here hx (Jvm.hb hby at_30) (v := (1 : Int32)) rfl (q := 31) rfl ?_
    refine Go.iloadN X193.here hx (Jvm.hb hby at_31) rfl (q := 32) rfl ?_
    obtain ⟨y1, hy1⟩ : ∃ zq, FP.i2d q3 = zq := ⟨_, rfl⟩
    refine Go.i2d X193.here hx (Jvm.hb hby at_32) hy1 (q := 33) rfl ?_
    refine Go.dastore X193 hx hZ e193 R193 (Jvm.hb hby at_33) (i := 1) (by decide) (by decide) rfl (q := 34) rfl ?_
    intro T196 h196 X196 e196 W196 R196
    have N196 := Fr.snoc X196 N193 r190
    have R196 : Row Z h196 a189 .double kk189 [(.double y0), (.double y1), (.double (0 : UInt64))] := R196
    refine Go.iload X196.here hx (Jvm.hb hby at_34) rfl (q := 36) rfl ?_
    refine Go.iconst X196.here hx (Jvm.hb hby at_36) (v := (2 : Int32)) rfl (q := 37) rfl ?_
    have hc37_198 : (2 : Int32) < (3 : Int32) := by decide
    refine Go.icmpN X196.here hx (Jvm.hb hby at_37) (tlt hc37_198).2.2.2 (q := 40) rfl ?_
    refine Go.aload X196.here hx (Jvm.hb hby at_40) rfl rfl (q := 42) rfl ?_
    refine Go.iconst X196.here hx (Jvm.hb hby at_42) (v := (2 : Int32)) rfl (q := 43) rfl ?_
    refine Go.iloadN X196.here hx (Jvm.hb hby at_43) rfl (q := 44) rfl ?_
    obtain ⟨y2, hy2⟩ : ∃ zq, FP.i2d q4 = zq := ⟨_, rfl⟩
    refine Go.i2d X196.here hx (Jvm.hb hby at_44) hy2 (q := 45) rfl ?_
    refine Go.dastore X196 hx hZ e196 R196 (Jvm.hb hby at_45) (i := 2) (by decide) (by decide) rfl (q := 46) rfl ?_
    intro T199 h199 X199 e199 W199 R199
    have N199 := Fr.snoc X199 N196 r190
    have R199 : Row Z h199 a189 .double kk189 [(.double y0), (.double y1), (.double y2)] := R199
    refine Go.aload X199.here hx (Jvm.hb hby at_46) rfl rfl (q := 48) rfl ?_
    have z201 : n0 ≤ h189.size := Nat.le_trans Z0 E189.1
    have z202 : n0 ≤ h193.size := Nat.le_trans z201 (Nat.le_of_eq W193.size.symm)
    have z203 : n0 ≤ h196.size := Nat.le_trans z202 (Nat.le_of_eq W196.size.symm)
    have z204 : n0 ≤ h199.size := Nat.le_trans z203 (Nat.le_of_eq W199.size.symm)
    refine Go.static X199 hx hZ (y := (⟨"com/example/nordwind/nordwind/DoubleReal", "ofAll", "([D)[Lcom/example/nordwind/nordwind/DoubleReal;"⟩ : MethodName)) hown (word hw 1 rfl) (word hw 2 rfl) (word hw 4 rfl) (word hw 3 rfl) (by decide) (rm_of3 l Z a0 hw a189 kk189 y0 y1 y2 h199 n0 z204 R199) e199  (argsL := [(.ref a189)]) (rest := []) (W := 0) (Jvm.hb hby at_48) rfl rfl (lenOf (pd2) rfl) (by rw [hml]; rfl) (Nat.le_of_eq rfl) (by decide) (by decide) (by decide) (by decide) (q := 51) rfl ?_
    intro T200 L200 w200 X200 hQ200
    obtain ⟨a200, kk200_1, a200_2, a200_3, a200_4, rfl, M200, K200, G200_0, G200_1, G200_2, G200_3, P200_0, P200_1, P200_2, P200_3, P200_4, P200_5, P200_6⟩ := hQ200
    have N200 := Fr.app N199 M200
    have r205 : n0 ≤ a200 := Nat.le_trans z204 (G200_0)
    have r206 : n0 ≤ a200_2 := Nat.le_trans z204 (G200_1)
    have r207 : n0 ≤ a200_3 := Nat.le_trans z204 (G200_2)
    have r208 : n0 ≤ a200_4 := Nat.le_trans z204 (G200_3)
    show Go p e below _ (T200.setTop (mkF m 51 #[.val (.int q1), .val (.int q2), .val (.int q3), .val (.int q4), .val (.int (3 : Int32)), .val (.ref a189), .unset, .unset] [(.ref a200)]))
    refine Go.astore X200.here hx (Jvm.hb hby at_51) rfl (l2 := #[.val (.int q1), .val (.int q2), .val (.int q3), .val (.int q4), .val (.int (3 : Int32)), .val (.ref a189), .val (.ref a200), .unset]) rfl (q := 53) rfl ?_
    refine Go.aload X200.here hx (Jvm.hb hby at_53) rfl rfl (q := 55) rfl ?_
    refine Go.nullN X200.here hx (Jvm.hb hby at_55) (q := 58) rfl ?_
    refine Go.aload X200.here hx (Jvm.hb hby at_58) rfl rfl (q := 60) rfl ?_
    refine Go.alen X200 hx hZ rfl P200_0 (Jvm.hb hby at_60) (n := (3 : Int32)) (by first | rfl | decide) (q := 61) rfl ?_
    refine Go.iload X200.here hx (Jvm.hb hby at_61) rfl (q := 63) rfl ?_
    have hc63_210 : (3 : Int32) = (3 : Int32) := by decide
    refine Go.icmpY X200.here hx (Jvm.hb hby at_63) (teq hc63_210).1 (by decide) (q := 68) rfl ?_
    refine Go.iconst X200.here hx (Jvm.hb hby at_68) (v := (1 : Int32)) rfl (q := 69) rfl ?_
    refine Go.istore X200.here hx (Jvm.hb hby at_69) (l2 := #[.val (.int q1), .val (.int q2), .val (.int q3), .val (.int q4), .val (.int (3 : Int32)), .val (.ref a189), .val (.ref a200), .val (.int (1 : Int32))]) rfl (q := 71) rfl ?_
    refine Go.iload X200.here hx (Jvm.hb hby at_71) rfl (q := 73) rfl ?_
    have hc73_212 : (0 : Int32) < (3 : Int32) := by decide
    refine Go.ifN X200.here hx (Jvm.hb hby at_73) ((if0 _ _).trans (tlt hc73_212).2.2.2) (q := 76) rfl ?_
    refine Go.iload X200.here hx (Jvm.hb hby at_76) rfl (q := 78) rfl ?_
    have hc78_214 : ¬ ((1 : Int32) = (0 : Int32)) := by decide
    refine Go.ifN X200.here hx (Jvm.hb hby at_78) ((if0 _ _).trans (feq hc78_214).1) (q := 81) rfl ?_
    refine Go.aload X200.here hx (Jvm.hb hby at_81) rfl rfl (q := 83) rfl ?_
    refine Go.iconst X200.here hx (Jvm.hb hby at_83) (v := (0 : Int32)) rfl (q := 84) rfl ?_
    refine Go.aaload X200 hx hZ rfl P200_0 rfl (Jvm.hb hby at_84) (i := 0) (by decide) (by decide) rfl (q := 85) rfl ?_
    refine Go.iloadN X200.here hx (Jvm.hb hby at_85) rfl (q := 86) rfl ?_
    have z216 : n0 ≤ T200.heap.size := Nat.le_trans z204 K200.1
    refine Go.static X200 hx hZ (y := (⟨"com/example/nordwind/nordwind/DoubleRealOfAllPinLaw", "holds", "(Lcom/example/nordwind/nordwind/DoubleReal;I)Z"⟩ : MethodName)) hown (word hw 17 rfl) (word hw 18 rfl) (word hw 20 rfl) (word hw 19 rfl) (by decide) (rm_holds l Z a0 hw a200_2 q2 y0 T200.heap n0 z216 P200_1 P200_2 hy0) rfl  (argsL := [(.ref a200_2), (.int q2)]) (rest := []) (W := 0) (Jvm.hb hby at_86) rfl rfl (lenOf (pd3) rfl) (by rw [hml]; rfl) (Nat.le_of_eq rfl) (by decide) (by decide) (by decide) (by decide) (q := 89) rfl ?_
    intro T215 L215 w215 X215 hQ215
    obtain ⟨rfl, M215, q215⟩ := hQ215
    have N215 := Fr.app N200 M215
    show Go p e below _ (T215.setTop (mkF m 89 #[.val (.int q1), .val (.int q2), .val (.int q3), .val (.int q4), .val (.int (3 : Int32)), .val (.ref a189), .val (.ref a200), .val (.int (1 : Int32))] [(.int (1 : Int32))]))
    have hc89_218 : ¬ ((1 : Int32) = (0 : Int32)) := by decide
    refine Go.ifN X215.here hx (Jvm.hb hby at_89) ((if0 _ _).trans (feq hc89_218).1) (q := 92) rfl ?_
    refine Go.aload X215.here hx (Jvm.hb hby at_92) rfl rfl (q := 94) rfl ?_
    refine Go.iconst X215.here hx (Jvm.hb hby at_94) (v := (0 : Int32)) rfl (q := 95) rfl ?_
    have f219 := R199.keep K200 (by simp)
    refine Go.daload X215 hx hZ q215 f219 (Jvm.hb hby at_95) (i := 0) (by decide) (by decide) rfl (q := 96) rfl ?_
    refine Go.iloadN X215.here hx (Jvm.hb hby at_96) rfl (q := 97) rfl ?_
    obtain ⟨u97, hu97⟩ : ∃ zq, FP.i2d q2 = zq := ⟨_, rfl⟩
    refine Go.i2d X215.here hx (Jvm.hb hby at_97) hu97 (q := 98) rfl ?_
    obtain ⟨u98, hu98⟩ : ∃ zq, cmpValue (FP.dcmp y0 u97) .l = zq := ⟨_, rfl⟩
    refine Go.dcmp X215.here hx (Jvm.hb hby at_98) hu98 (q := 99) rfl ?_
    have hc99 : u98 = (0 : Int32) := by rw [← hu98]; exact own_same hy0 hu97 _
    refine Go.ifN X215.here hx (Jvm.hb hby at_99) ((if0 _ _).trans (teq hc99).2) (q := 102) rfl ?_
    refine Go.iconst X215.here hx (Jvm.hb hby at_102) (v := (1 : Int32)) rfl (q := 103) rfl ?_
    refine Go.goto X215.here hx (Jvm.hb hby at_103) (by decide) (q := 107) rfl ?_
    refine Go.istore X215.here hx (Jvm.hb hby at_107) (l2 := #[.val (.int q1), .val (.int q2), .val (.int q3), .val (.int q4), .val (.int (3 : Int32)), .val (.ref a189), .val (.ref a200), .val (.int (1 : Int32))]) rfl (q := 109) rfl ?_
    refine Go.iload X215.here hx (Jvm.hb hby at_109) rfl (q := 111) rfl ?_
    refine Go.iconst X215.here hx (Jvm.hb hby at_111) (v := (1 : Int32)) rfl (q := 112) rfl ?_
    have hc112_222 : (1 : Int32) < (3 : Int32) := by decide
    refine Go.icmpN X215.here hx (Jvm.hb hby at_112) (tlt hc112_222).2.2.2 (q := 115) rfl ?_
    refine Go.iload X215.here hx (Jvm.hb hby at_115) rfl (q := 117) rfl ?_
    have hc117_224 : ¬ ((1 : Int32) = (0 : Int32)) := by decide
    refine Go.ifN X215.here hx (Jvm.hb hby at_117) ((if0 _ _).trans (feq hc117_224).1) (q := 120) rfl ?_
    refine Go.aload X215.here hx (Jvm.hb hby at_120) rfl rfl (q := 122) rfl ?_
    refine Go.iconst X215.here hx (Jvm.hb hby at_122) (v := (1 : Int32)) rfl (q := 123) rfl ?_
    refine Go.aaload X215 hx hZ q215 P200_0 rfl (Jvm.hb hby at_123) (i := 1) (by decide) (by decide) rfl (q := 124) rfl ?_
    refine Go.iloadN X215.here hx (Jvm.hb hby at_124) rfl (q := 125) rfl ?_
    refine Go.static X215 hx hZ (y := (⟨"com/example/nordwind/nordwind/DoubleRealOfAllPinLaw", "holds", "(Lcom/example/nordwind/nordwind/DoubleReal;I)Z"⟩ : MethodName)) hown (word hw 17 rfl) (word hw 18 rfl) (word hw 20 rfl) (word hw 19 rfl) (by decide) (rm_holds l Z a0 hw a200_3 q3 y1 T200.heap n0 z216 P200_3 P200_4 hy1) q215  (argsL := [(.ref a200_3), (.int q3)]) (rest := []) (W := 0) (Jvm.hb hby at_125) rfl rfl (lenOf (pd3) rfl) (by rw [hml]; rfl) (Nat.le_of_eq rfl) (by decide) (by decide) (by decide) (by decide) (q := 128) rfl ?_
    intro T225 L225 w225 X225 hQ225
    obtain ⟨rfl, M225, q225⟩ := hQ225
    have N225 := Fr.app N215 M225
    show Go p e below _ (T225.setTop (mkF m 128 #[.val (.int q1), .val (.int q2), .val (.int q3), .val (.int q4), .val (.int (3 : Int32)), .val (.ref a189), .val (.ref a200), .val (.int (1 : Int32))] [(.int (1 : Int32))]))
    have hc128_227 : ¬ ((1 : Int32) = (0 : Int32)) := by decide
    refine Go.ifN X225.here hx (Jvm.hb hby at_128) ((if0 _ _).trans (feq hc128_227).1) (q := 131) rfl ?_
    refine Go.aload X225.here hx (Jvm.hb hby at_131) rfl rfl (q := 133) rfl ?_
    refine Go.iconst X225.here hx (Jvm.hb hby at_133) (v := (1 : Int32)) rfl (q := 134) rfl ?_
    refine Go.daload X225 hx hZ q225 f219 (Jvm.hb hby at_134) (i := 1) (by decide) (by decide) rfl (q := 135) rfl ?_
    refine Go.iloadN X225.here hx (Jvm.hb hby at_135) rfl (q := 136) rfl ?_
    obtain ⟨u136, hu136⟩ : ∃ zq, FP.i2d q3 = zq := ⟨_, rfl⟩
    refine Go.i2d X225.here hx (Jvm.hb hby at_136) hu136 (q := 137) rfl ?_
    obtain ⟨u137, hu137⟩ : ∃ zq, cmpValue (FP.dcmp y1 u136) .l = zq := ⟨_, rfl⟩
    refine Go.dcmp X225.here hx (Jvm.hb hby at_137) hu137 (q := 138) rfl ?_
    have hc138 : u137 = (0 : Int32) := by rw [← hu137]; exact own_same hy1 hu136 _
    refine Go.ifN X225.here hx (Jvm.hb hby at_138) ((if0 _ _).trans (teq hc138).2) (q := 141) rfl ?_
    refine Go.iconst X225.here hx (Jvm.hb hby at_141) (v := (1 : Int32)) rfl (q := 142) rfl ?_
    refine Go.goto X225.here hx (Jvm.hb hby at_142) (by decide) (q := 146) rfl ?_
    refine Go.istore X225.here hx (Jvm.hb hby at_146) (l2 := #[.val (.int q1), .val (.int q2), .val (.int q3), .val (.int q4), .val (.int (3 : Int32)), .val (.ref a189), .val (.ref a200), .val (.int (1 : Int32))]) rfl (q := 148) rfl ?_
    refine Go.iload X225.here hx (Jvm.hb hby at_148) rfl (q := 150) rfl ?_
    refine Go.iconst X225.here hx (Jvm.hb hby at_150) (v := (2 : Int32)) rfl (q := 151) rfl ?_
    have hc151_230 : (2 : Int32) < (3 : Int32) := by decide
    refine Go.icmpN X225.here hx (Jvm.hb hby at_151) (tlt hc151_230).2.2.2 (q := 154) rfl ?_
    refine Go.iload X225.here hx (Jvm.hb hby at_154) rfl (q := 156) rfl ?_
    have hc156_232 : ¬ ((1 : Int32) = (0 : Int32)) := by decide
    refine Go.ifN X225.here hx (Jvm.hb hby at_156) ((if0 _ _).trans (feq hc156_232).1) (q := 159) rfl ?_
    refine Go.aload X225.here hx (Jvm.hb hby at_159) rfl rfl (q := 161) rfl ?_
    refine Go.iconst X225.here hx (Jvm.hb hby at_161) (v := (2 : Int32)) rfl (q := 162) rfl ?_
    refine Go.aaload X225 hx hZ q225 P200_0 rfl (Jvm.hb hby at_162) (i := 2) (by decide) (by decide) rfl (q := 163) rfl ?_
    refine Go.iloadN X225.here hx (Jvm.hb hby at_163) rfl (q := 164) rfl ?_
    refine Go.static X225 hx hZ (y := (⟨"com/example/nordwind/nordwind/DoubleRealOfAllPinLaw", "holds", "(Lcom/example/nordwind/nordwind/DoubleReal;I)Z"⟩ : MethodName)) hown (word hw 17 rfl) (word hw 18 rfl) (word hw 20 rfl) (word hw 19 rfl) (by decide) (rm_holds l Z a0 hw a200_4 q4 y2 T200.heap n0 z216 P200_5 P200_6 hy2) q225  (argsL := [(.ref a200_4), (.int q4)]) (rest := []) (W := 0) (Jvm.hb hby at_164) rfl rfl (lenOf (pd3) rfl) (by rw [hml]; rfl) (Nat.le_of_eq rfl) (by decide) (by decide) (by decide) (by decide) (q := 167) rfl ?_
    intro T233 L233 w233 X233 hQ233
    obtain ⟨rfl, M233, q233⟩ := hQ233
    have N233 := Fr.app N225 M233
    show Go p e below _ (T233.setTop (mkF m 167 #[.val (.int q1), .val (.int q2), .val (.int q3), .val (.int q4), .val (.int (3 : Int32)), .val (.ref a189), .val (.ref a200), .val (.int (1 : Int32))] [(.int (1 : Int32))]))
    have hc167_235 : ¬ ((1 : Int32) = (0 : Int32)) := by decide
    refine Go.ifN X233.here hx (Jvm.hb hby at_167) ((if0 _ _).trans (feq hc167_235).1) (q := 170) rfl ?_
    refine Go.aload X233.here hx (Jvm.hb hby at_170) rfl rfl (q := 172) rfl ?_
    refine Go.iconst X233.here hx (Jvm.hb hby at_172) (v := (2 : Int32)) rfl (q := 173) rfl ?_
    refine Go.daload X233 hx hZ q233 f219 (Jvm.hb hby at_173) (i := 2) (by decide) (by decide) rfl (q := 174) rfl ?_
    refine Go.iloadN X233.here hx (Jvm.hb hby at_174) rfl (q := 175) rfl ?_
    obtain ⟨u175, hu175⟩ : ∃ zq, FP.i2d q4 = zq := ⟨_, rfl⟩
    refine Go.i2d X233.here hx (Jvm.hb hby at_175) hu175 (q := 176) rfl ?_
    obtain ⟨u176, hu176⟩ : ∃ zq, cmpValue (FP.dcmp y2 u175) .l = zq := ⟨_, rfl⟩
    refine Go.dcmp X233.here hx (Jvm.hb hby at_176) hu176 (q := 177) rfl ?_
    have hc177 : u176 = (0 : Int32) := by rw [← hu176]; exact own_same hy2 hu175 _
    refine Go.ifN X233.here hx (Jvm.hb hby at_177) ((if0 _ _).trans (teq hc177).2) (q := 180) rfl ?_
    refine Go.iconst X233.here hx (Jvm.hb hby at_180) (v := (1 : Int32)) rfl (q := 181) rfl ?_
    refine Go.goto X233.here hx (Jvm.hb hby at_181) (by decide) (q := 185) rfl ?_
    refine Go.istore X233.here hx (Jvm.hb hby at_185) (l2 := #[.val (.int q1), .val (.int q2), .val (.int q3), .val (.int q4), .val (.int (3 : Int32)), .val (.ref a189), .val (.ref a200), .val (.int (1 : Int32))]) rfl (q := 187) rfl ?_
    refine Go.iload X233.here hx (Jvm.hb hby at_187) rfl (q := 189) rfl ?_
    refine Go.retZ X233 hx hret hlk (Jvm.hb hby at_189) (Or.inr rfl) (by decide) (by decide) ?_
    exact ⟨rfl, N233⟩
set_option maxRecDepth 65536 in
set_option maxHeartbeats 40000000 in
theorem comes_1 {Post : Tables → Env → Array Value → State → Outcome → State → Prop} (hpost : ∀ tb e args s v u, (limb_1_1.after args s (.returned v) u = true ∧ limb_1_2.after args s (.returned v) u = true ∧ True) → FrameEnd s (.returned v) u (Jvm.fieldLocs frame_1_writes args s ++ Jvm.arrayLocs frame_1_arrays args s ++ Jvm.staticLocs frame_1_statics s) 24 128 → Post tb e args s (.returned v) u) :
    ArmFor flags0 classFile x code maxLocals ret World_1 tables_1 room_1 Calls_1 rest_1 Pre_1 Post := by
  intro l hfl _ _ p e ha hc hk s m args below hf hA hF happ hP
  obtain ⟨hcalls, hrest, hpre⟩ := hP
  obtain ⟨-, -, -, hnamed, -, -, -, hat⟩ := (Spec.applies_iff hf).mp happ
  obtain ⟨hg, hn⟩ := and_e (Cond.before_iff.mp (show (Jvm.Cond.and given_1 narrow_1).before args s = true from hpre))
  obtain ⟨g0, hg⟩ := and_e hg
  obtain ⟨w0, w1, w2, w3, rfl⟩ : ∃ w0 w1 w2 w3 : Value, args = #[w0, w1, w2, w3] := by
    have hs : args.size = 4 := by simpa [Cond.value, given_1] using g0
    obtain ⟨L⟩ := args
    match L, hs with
    | [w0, w1, w2, w3], _ => exact ⟨w0, w1, w2, w3, rfl⟩
  have hw := fun d (hd : d ∈ tables_1) => atoms_spec (ws := Jvm.Cond.code x code maxLocals ret :: tables_1) hat d (List.mem_cons_of_mem _ hd)
  obtain ⟨g1, hg⟩ := and_e hg
  obtain ⟨i0, e0⟩ := is_v g1
  obtain rfl : w0 = (.int i0) := Option.some.inj e0
  obtain ⟨g2, hg⟩ := and_e hg
  obtain ⟨i1, e1⟩ := is_v g2
  obtain rfl : w1 = (.int i1) := Option.some.inj e1
  obtain ⟨g3, hg⟩ := and_e hg
  obtain ⟨i2, e2⟩ := is_v g3
  obtain rfl : w2 = (.int i2) := Option.some.inj e2
  obtain ⟨i3, e3⟩ := is_v hg
  obtain rfl : w3 = (.int i3) := Option.some.inj e3
  obtain ⟨n, o, h1, h2, h3, _, L, rfl, ⟨rfl, N⟩, hq⟩ := rm_law l s _ hw tables_1 i0 i1 i2 i3  s.heap s.heap.size (Nat.le_refl _)  p e ha hc hk s m _ below hf ((Spec.applies_iff_loose hf).mp happ).1 ⟨rfl, State.Warmed39.refl s, rfl⟩ trivial
  refine ⟨n, _, h1, h2, h3, hpost _ _ _ _ _ _ ⟨Cond.after_iff.mpr rfl, Cond.after_iff.mpr (eq_i res_at (Term.int_eval (1)) rfl), trivial⟩ ⟨hq.1, hq.2.1, (hq.2.2.sift fun y hy => Or.inr (N y hy)).mono (by decide) (by decide)⟩⟩
theorem main_1_1 : Claimed_1_1 := comes_1 fun _ _ _ _ _ _ h hF => ⟨h.1, hF⟩
theorem main_1_2 : Claimed_1_2 := comes_1 fun _ _ _ _ _ _ h hF => ⟨h.2.1, hF⟩
end Jvm.Pilot.@@N@@
namespace Jvm.Pilot.@@N@@
open Jvm Jvm.ClassFile Sem Op Lib Jvm.Free Jvm.Stand Jvm.Pilot.@@N@@.Jvm.D
/-! MADE BY PROGRAM (witnessworld.py) out of the Statement's table words and the real class files: 14 classes; the members and pool entries that the words name. The judged class is class 1, her method 1. -/
namespace start1
open Jvm.ClassFile
def u (s : String) : CpInfo := .utf8 (stringToUtf16 s)
/-- a pool by its gaps: so many unusable entries, then the entry; so many at the end -/
def gap : Nat → List CpInfo → List CpInfo
  | 0, r => r
  | n + 1, r => .unusable :: gap n r
def poolList (es : List (Nat × CpInfo)) (last : Nat) : List CpInfo := es.foldr (fun e r => gap e.1 (e.2 :: r)) (gap last [])
def pool (es : List (Nat × CpInfo)) (last : Nat) : Array CpInfo := ⟨poolList es last⟩
def fileOf (pool : Array CpInfo) (this : Nat) (attrs : Array Attribute := #[]) (ms : Array MethodInfo := #[]) (fl : Nat := 33) (sup : Nat := 0) (ifs : Array Nat := #[]) (fds : Array FieldInfo := #[]) : ClassFile where
  minorVersion := 0
  majorVersion := 65
  constantPool := pool
  accessFlags := fl
  thisClass := this
  superClass := sup
  interfaces := ifs
  fields := fds
  methods := ms
  attributes := attrs
def plain (name : String) (sup : Option ClassId) : Class where
  name := name
  kind := .ordinary
  loader := none
  accessFlags := 33
  super := sup
  interfaces := #[]
  cf := none
  fields := #[]
  methods := #[]
  instanceTypes := #[]
  staticTypes := #[]
  resolved := #[]
  callSites := []
  init := .initialized
  statics := none
  mirror := none

def pool0 : Array CpInfo := pool [(5, u "<init>"), (0, u "()V"), (1, .class_ 10), (1, u "java/lang/Object")] 113

def k0c0 : Code := { maxStack := 0, maxLocals := 1, code := object_method_1_code, exceptionTable := #[], attributes := #[] }
def k0m0 : Method := { name := "<init>", desc := "()V", sig := { parameters := [], returnType := none }, accessFlags := 1, code := some k0c0 }
/-- java/lang/Object -/
def k0 : Class := { plain "java/lang/Object" none with
  accessFlags := 33
  interfaces := #[]
  cf := some (fileOf pool0 8 #[] #[{ accessFlags := 1, nameIndex := 5, descriptorIndex := 6, attributes := #[] }] 33 0 #[] #[])
  fields := #[]
  methods := #[k0m0]
  instanceTypes := #[]
  staticTypes := #[]
  resolved := Array.replicate 124 none
  statics := none }

def pool1 : Array CpInfo := pool [(2, .class_ 4), (1, u "java/lang/Object"), (0, u "<init>"), (0, u "()V"), (0, .methodref 8 9), (0, .class_ 10), (0, .nameAndType 11 12), (0, u "com/example/nordwind/nordwind/DoubleReal"), (0, u "ofAll"), (0, u "([D)[Lcom/example/nordwind/nordwind/DoubleReal;"), (0, .methodref 14 15), (0, .class_ 16), (0, .nameAndType 17 18), (0, u "com/example/nordwind/nordwind/DoubleRealOfAllPinLaw"), (0, u "holds"), (0, u "(Lcom/example/nordwind/nordwind/DoubleReal;I)Z"), (0, .methodref 8 20), (0, .nameAndType 21 22), (0, u "toDouble"), (0, u "()D"), (2, u "law"), (0, u "(IIII)Z")] 7

def k1m0 : Method := { name := "<init>", desc := "()V", sig := { parameters := [], returnType := none }, accessFlags := 1, code := none }
def k1c1 : Code := { maxStack := 4, maxLocals := 8, code := code, exceptionTable := #[], attributes := #[] }
def k1m1 : Method := { name := "law", desc := "(IIII)Z", sig := { parameters := [.int, .int, .int, .int], returnType := some .boolean }, accessFlags := 9, code := some k1c1 }
def k1c2 : Code := { maxStack := 4, maxLocals := 2, code := method_3_code, exceptionTable := #[], attributes := #[] }
def k1m2 : Method := { name := "holds", desc := "(Lcom/example/nordwind/nordwind/DoubleReal;I)Z", sig := { parameters := [(.object "com/example/nordwind/nordwind/DoubleReal"), .int], returnType := some .boolean }, accessFlags := 10, code := some k1c2 }
/-- com/example/nordwind/nordwind/DoubleRealOfAllPinLaw -/
def k1 : Class := { plain "com/example/nordwind/nordwind/DoubleRealOfAllPinLaw" (some 0) with
  accessFlags := 49
  interfaces := #[]
  cf := some (fileOf pool1 14 #[] #[{ accessFlags := 1, nameIndex := 5, descriptorIndex := 6, attributes := #[] }, { accessFlags := 9, nameIndex := 25, descriptorIndex := 26, attributes := #[] }, { accessFlags := 10, nameIndex := 17, descriptorIndex := 18, attributes := #[] }] 49 2 #[] #[])
  fields := #[]
  methods := #[k1m0, k1m1, k1m2]
  instanceTypes := #[]
  staticTypes := #[]
  resolved := Array.replicate 34 none
  statics := none }

def pool2 : Array CpInfo := pool [(1, .class_ 2), (0, u "java/lang/Comparable"), (0, .class_ 4), (0, u "java/lang/Object")] 7

/-- java/lang/Comparable -/
def k2 : Class := { plain "java/lang/Comparable" (some 0) with
  accessFlags := 1537
  interfaces := #[]
  cf := some (fileOf pool2 1 #[] #[] 1537 3 #[] #[])
  fields := #[]
  methods := #[]
  instanceTypes := #[]
  staticTypes := #[]
  resolved := Array.replicate 12 none
  statics := none }

def pool3 : Array CpInfo := pool [(1, .class_ 2), (0, u "com/example/nordwind/nordwind/Real"), (4, .class_ 8), (0, u "java/lang/Object"), (0, .class_ 10), (0, u "java/lang/Comparable")] 33

/-- com/example/nordwind/nordwind/Real -/
def k3 : Class := { plain "com/example/nordwind/nordwind/Real" (some 0) with
  accessFlags := 1537
  interfaces := #[2]
  cf := some (fileOf pool3 1 #[] #[] 1537 7 #[9] #[])
  fields := #[]
  methods := #[]
  instanceTypes := #[]
  staticTypes := #[]
  resolved := Array.replicate 44 none
  statics := none }

def pool4 : Array CpInfo := pool [(1, .methodref 2 3), (0, .class_ 4), (0, .nameAndType 5 6), (0, u "java/lang/Object"), (0, u "<init>"), (0, u "()V"), (0, .fieldref 8 9), (0, .class_ 10), (0, .nameAndType 11 12), (0, u "com/example/nordwind/nordwind/DoubleReal"), (0, u "value"), (0, u "D"), (0, .methodref 8 14), (0, .nameAndType 5 15), (0, u "(D)V"), (78, .class_ 95), (0, u "com/example/nordwind/nordwind/Real"), (3, u "ofAll"), (0, u "([D)[Lcom/example/nordwind/nordwind/DoubleReal;"), (7, u "toDouble"), (0, u "()D")] 17

def k4c0 : Code := { maxStack := 3, maxLocals := 3, code := prog_22_method_1_code, exceptionTable := #[], attributes := #[] }
def k4m0 : Method := { name := "<init>", desc := "(D)V", sig := { parameters := [.double], returnType := none }, accessFlags := 2, code := some k4c0 }
def k4c1 : Code := { maxStack := 6, maxLocals := 3, code := prog_22_method_3_code, exceptionTable := #[], attributes := #[] }
def k4m1 : Method := { name := "ofAll", desc := "([D)[Lcom/example/nordwind/nordwind/DoubleReal;", sig := { parameters := [(.array .double)], returnType := some (.array (.object "com/example/nordwind/nordwind/DoubleReal")) }, accessFlags := 8, code := some k4c1 }
def k4c2 : Code := { maxStack := 2, maxLocals := 1, code := prog_22_method_13_code, exceptionTable := #[], attributes := #[] }
def k4m2 : Method := { name := "toDouble", desc := "()D", sig := { parameters := [], returnType := some .double }, accessFlags := 1, code := some k4c2 }
/-- com/example/nordwind/nordwind/DoubleReal -/
def k4 : Class := { plain "com/example/nordwind/nordwind/DoubleReal" (some 0) with
  accessFlags := 49
  interfaces := #[3]
  cf := some (fileOf pool4 8 #[] #[{ accessFlags := 2, nameIndex := 5, descriptorIndex := 15, attributes := #[] }, { accessFlags := 8, nameIndex := 99, descriptorIndex := 100, attributes := #[] }, { accessFlags := 1, nameIndex := 108, descriptorIndex := 109, attributes := #[] }] 49 2 #[94] #[{ accessFlags := 18, nameIndex := 11, descriptorIndex := 12, attributes := #[] }])
  fields := #[{ name := "value", type := .double, accessFlags := 18, slot := 0, constantValue := 0 }]
  methods := #[k4m0, k4m1, k4m2]
  instanceTypes := #[.double]
  staticTypes := #[]
  resolved := Array.replicate 127 none
  statics := none }

def pool5 : Array CpInfo := pool [(1, u "java/lang/Cloneable"), (0, .class_ 1), (0, u "java/lang/Object"), (0, .class_ 3)] 3

/-- java/lang/Cloneable -/
def k5 : Class := { plain "java/lang/Cloneable" (some 0) with
  accessFlags := 1537
  interfaces := #[]
  cf := some (fileOf pool5 2 #[] #[] 1537 4 #[] #[])
  fields := #[]
  methods := #[]
  instanceTypes := #[]
  staticTypes := #[]
  resolved := Array.replicate 8 none
  statics := none }

def pool6 : Array CpInfo := pool [(1, u "java/io/Serializable"), (0, .class_ 1), (0, u "java/lang/Object"), (0, .class_ 3)] 3

/-- java/io/Serializable -/
def k6 : Class := { plain "java/io/Serializable" (some 0) with
  accessFlags := 1537
  interfaces := #[]
  cf := some (fileOf pool6 2 #[] #[] 1537 4 #[] #[])
  fields := #[]
  methods := #[]
  instanceTypes := #[]
  staticTypes := #[]
  resolved := Array.replicate 8 none
  statics := none }

/-- the primitive byte -/
def k7 : Class := { plain "byte" none with kind := .primitive 'B', accessFlags := 0x411 }
/-- [B -/
def k8 : Class := { plain "[B" (some 0) with kind := .array 7 .byte, interfaces := #[5, 6], accessFlags := 1041 }

/-- the primitive double -/
def k9 : Class := { plain "double" none with kind := .primitive 'D', accessFlags := 0x411 }
/-- [D -/
def k10 : Class := { plain "[D" (some 0) with kind := .array 9 .double, interfaces := #[5, 6], accessFlags := 1041 }

/-- the primitive int -/
def k11 : Class := { plain "int" none with kind := .primitive 'I', accessFlags := 0x411 }
/-- [I -/
def k12 : Class := { plain "[I" (some 0) with kind := .array 11 .int, interfaces := #[5, 6], accessFlags := 1041 }

/-- [Lcom/example/nordwind/nordwind/DoubleReal; -/
def k13 : Class := { plain "[Lcom/example/nordwind/nordwind/DoubleReal;" (some 0) with kind := .array 4 (.object "com/example/nordwind/nordwind/DoubleReal"), interfaces := #[5, 6], accessFlags := 1041 }

def heap : Heap := #[]
def classes : Array Class := #[k0, k1, k2, k3, k4, k5, k6, k7, k8, k9, k10, k11, k12, k13]
def interned : List (Array UInt16 × Addr) := []
def slotsUsed : Nat := 0
def theMethod : MethodId := ⟨1, 1⟩
def args0 : Array Value := #[.int 2, .int 7, .int 77, .int 777]
def aboutOver (below : List Frame) : State where
  vm := { classes := classes, interned := interned.toArray }
  heap := heap
  slotsUsed := slotsUsed
  threads := #[{ frames := .invoking theMethod args0 :: below }]
def below0 : List Frame := [.native { method := ⟨0, 0⟩, args := #[] }]
def about1 : State := aboutOver below0
def p0 : Program := .bare "" "" ""
def e0 : Env := launch0.env 0 0 0
theorem w_frames : about1.frames = Frame.invoking theMethod args0 :: below0 := rfl
set_option maxRecDepth 65536 in
theorem w_args : argsFit about1.vm theMethod args0 = true := by decide +kernel
set_option maxRecDepth 65536 in
theorem w_heap : heapFits about1 = true := by decide +kernel
set_option maxRecDepth 65536 in
theorem w_runnable : about1.curStatus? = some .runnable := by decide +kernel
set_option maxRecDepth 65536 in
theorem w_alone : about1.alone = true := by decide +kernel
set_option maxRecDepth 65536 in
theorem w_named : about1.methodNamed? x = some theMethod := by decide +kernel
set_option maxRecDepth 65536 in
theorem w_hears : about1.hears theMethod below0 = true := by decide +kernel
set_option maxRecDepth 65536 in
theorem w_ripe : about1.ripe theMethod args0 below0 = true := by decide +kernel
theorem w_running : about1.status = .running := rfl
set_option maxRecDepth 65536 in
theorem w_room : about1.hasRoom e0.platform room_1 = true :=
  launch0.hasRoom_least _ room_1 (by decide +kernel) (by decide +kernel) (by decide +kernel) (by decide +kernel) (by decide +kernel) (by decide +kernel)
theorem allAtoms_all (ts : List Jvm.Cond) (a : Array Jvm.Value) (st : Jvm.State) : (allAtoms ts).before a st = ts.all (fun c => c.before a st) := by
  induction ts with
  | nil => rfl
  | cons c t ih =>
    show (Jvm.Cond.and c (allAtoms t)).before a st = _
    rw [Jvm.Cond.before_and, ih, List.all_cons]
def words1 : List Jvm.Cond := Jvm.Cond.code x code maxLocals ret :: tables_1
/-- a 'code' word, met by the world's own term for the bytes: nothing is compared byte by byte -/
theorem code_word {y : MethodName} {bytes : ByteArray} {mx : Nat} {rt : Option FieldType} {a : Array Value} {s : State} {m : MethodId} {meth : Method} {c : Code} (h1 : s.methodNamed? y = some m) (h2 : s.vm.method? m = some meth) (h3 : meth.code = some c) (h4 : c.code = bytes)
    (h5 : (c.maxLocals == mx && c.exceptionTable.isEmpty && decide (c.maxStack ≤ mostOperands) && decide (meth.sig.returnType = rt) && !meth.locks && decide (parseMethodDescriptor y.desc = some meth.sig)) = true) : (Jvm.Cond.code y bytes mx rt).before a s = true := by
  simp only [Bool.and_eq_true, beq_iff_eq, Bool.not_eq_true', decide_eq_true_eq] at h5
  obtain ⟨⟨⟨⟨⟨g1, g2⟩, g3⟩, g4⟩, g5⟩, g6⟩ := h5
  simp [Cond.before, Cond.holds, Cond.value, h1, h2, h3, h4, g1, g2, g3, g4, g5, g6]
def isCode : Jvm.Cond → Bool
  | .code _ _ _ _ => true
  | _ => false
theorem all_split {L : List Jvm.Cond} {P : Jvm.Cond → Bool} (h1 : L.all (fun c => isCode c || P c) = true) (h2 : ∀ c ∈ L.filter isCode, P c = true) : L.all P = true := by
  refine List.all_eq_true.mpr fun c hc => ?_
  have h := List.all_eq_true.mp h1 c hc
  rcases Bool.eq_false_or_eq_true (isCode c) with hi | hi
  · exact h2 c (List.mem_filter.mpr ⟨hc, hi⟩)
  · simpa [hi] using h
set_option maxRecDepth 65536 in
theorem w_c0 : (Jvm.Cond.code x code maxLocals ret).before args0 about1 = true := code_word (m := ⟨1, 1⟩) (meth := k1m1) (c := k1c1) (by decide +kernel) rfl rfl rfl (by decide +kernel)
set_option maxRecDepth 65536 in
theorem w_c1 : (Jvm.Cond.code ({ cls := "com/example/nordwind/nordwind/DoubleReal", name := "ofAll", desc := "([D)[Lcom/example/nordwind/nordwind/DoubleReal;" } : Jvm.MethodName) prog_22_method_3_code (3 : Nat) (Option.some (Jvm.ClassFile.FieldType.array (Jvm.ClassFile.FieldType.object "com/example/nordwind/nordwind/DoubleReal")))).before args0 about1 = true := code_word (m := ⟨4, 1⟩) (meth := k4m1) (c := k4c1) (by decide +kernel) rfl rfl rfl (by decide +kernel)
set_option maxRecDepth 65536 in
theorem w_c2 : (Jvm.Cond.code ({ cls := "com/example/nordwind/nordwind/DoubleReal", name := "<init>", desc := "(D)V" } : Jvm.MethodName) prog_22_method_1_code (3 : Nat) (Option.none : Option Jvm.ClassFile.FieldType)).before args0 about1 = true := code_word (m := ⟨4, 0⟩) (meth := k4m0) (c := k4c0) (by decide +kernel) rfl rfl rfl (by decide +kernel)
set_option maxRecDepth 65536 in
theorem w_c3 : (Jvm.Cond.code ({ cls := "java/lang/Object", name := "<init>", desc := "()V" } : Jvm.MethodName) object_method_1_code (1 : Nat) (Option.none : Option Jvm.ClassFile.FieldType)).before args0 about1 = true := code_word (m := ⟨0, 0⟩) (meth := k0m0) (c := k0c0) (by decide +kernel) rfl rfl rfl (by decide +kernel)
set_option maxRecDepth 65536 in
theorem w_c4 : (Jvm.Cond.code ({ cls := "com/example/nordwind/nordwind/DoubleRealOfAllPinLaw", name := "holds", desc := "(Lcom/example/nordwind/nordwind/DoubleReal;I)Z" } : Jvm.MethodName) method_3_code (2 : Nat) (Option.some Jvm.ClassFile.FieldType.boolean)).before args0 about1 = true := code_word (m := ⟨1, 2⟩) (meth := k1m2) (c := k1c2) (by decide +kernel) rfl rfl rfl (by decide +kernel)
set_option maxRecDepth 65536 in
theorem w_c5 : (Jvm.Cond.code ({ cls := "com/example/nordwind/nordwind/DoubleReal", name := "toDouble", desc := "()D" } : Jvm.MethodName) prog_22_method_13_code (1 : Nat) (Option.some Jvm.ClassFile.FieldType.double)).before args0 about1 = true := code_word (m := ⟨4, 2⟩) (meth := k4m2) (c := k4c2) (by decide +kernel) rfl rfl rfl (by decide +kernel)
def codes1 : List Jvm.Cond := [Jvm.Cond.code x code maxLocals ret, Jvm.Cond.code ({ cls := "com/example/nordwind/nordwind/DoubleReal", name := "ofAll", desc := "([D)[Lcom/example/nordwind/nordwind/DoubleReal;" } : Jvm.MethodName) prog_22_method_3_code (3 : Nat) (Option.some (Jvm.ClassFile.FieldType.array (Jvm.ClassFile.FieldType.object "com/example/nordwind/nordwind/DoubleReal"))), Jvm.Cond.code ({ cls := "com/example/nordwind/nordwind/DoubleReal", name := "<init>", desc := "(D)V" } : Jvm.MethodName) prog_22_method_1_code (3 : Nat) (Option.none : Option Jvm.ClassFile.FieldType), Jvm.Cond.code ({ cls := "java/lang/Object", name := "<init>", desc := "()V" } : Jvm.MethodName) object_method_1_code (1 : Nat) (Option.none : Option Jvm.ClassFile.FieldType), Jvm.Cond.code ({ cls := "com/example/nordwind/nordwind/DoubleRealOfAllPinLaw", name := "holds", desc := "(Lcom/example/nordwind/nordwind/DoubleReal;I)Z" } : Jvm.MethodName) method_3_code (2 : Nat) (Option.some Jvm.ClassFile.FieldType.boolean), Jvm.Cond.code ({ cls := "com/example/nordwind/nordwind/DoubleReal", name := "toDouble", desc := "()D" } : Jvm.MethodName) prog_22_method_13_code (1 : Nat) (Option.some Jvm.ClassFile.FieldType.double)]
set_option maxRecDepth 65536 in
theorem codes_eq : words1.filter isCode = codes1 := rfl
theorem w_codes : ∀ c ∈ words1.filter isCode, c.before args0 about1 = true := by
  rw [codes_eq]
  intro c hc
  simp only [codes1, List.mem_cons, List.not_mem_nil, or_false] at hc
  rcases hc with rfl | rfl | rfl | rfl | rfl | rfl
  · exact w_c0
  · exact w_c1
  · exact w_c2
  · exact w_c3
  · exact w_c4
  · exact w_c5
set_option maxRecDepth 65536 in
theorem w_t1 : (words1.take 24).all (fun c => isCode c || c.before args0 about1) = true := by decide +kernel
set_option maxRecDepth 65536 in
theorem w_t2 : (words1.drop 24).all (fun c => isCode c || c.before args0 about1) = true := by decide +kernel
theorem w_tables : (allAtoms (Jvm.Cond.code x code maxLocals ret :: tables_1)).before args0 about1 = true := by
  rw [allAtoms_all]
  show words1.all (fun c => c.before args0 about1) = true
  refine all_split ?_ w_codes
  rw [← List.take_append_drop 24 words1, List.all_append, w_t1, w_t2]
  rfl
set_option maxRecDepth 65536 in
theorem w_case : (Jvm.Cond.and given_1 narrow_1).before args0 about1 = true := by decide +kernel
theorem w_applies : (headSpec (Jvm.Cond.code x code maxLocals ret :: tables_1) room_1).applies x e0.platform about1 = true :=
  (Spec.applies_iff w_frames).mpr ⟨w_running, w_runnable, w_alone, w_named, w_hears, w_ripe, w_room, w_tables⟩
theorem atStart : AtStart classFile x code maxLocals ret World_1 tables_1 room_1 Calls_1 rest_1 Pre_1 launch0 p0 e0 about1 theMethod args0 below0 :=
  ⟨lists_1, trivial, launch0.admits_env _ _ _, launch0.least_env, fairChoices_fair.cas, fairChoices_fair.clock, w_frames, w_args, w_heap, w_applies, trivial, trivial, w_case⟩
end start1
theorem witness_1 : WitnessClaimed_1 := ⟨start1.p0, start1.e0, start1.about1, start1.theMethod, start1.args0, start1.below0, start1.atStart⟩
end Jvm.Pilot.@@N@@
