import JvmDerived
import JvmDerived.Pilot.@@N@@Statement
import JvmDerived.Pilot.@@N@@Code
set_option linter.unusedVariables false
set_option linter.unusedSimpArgs false
namespace Jvm.Pilot.@@N@@
open Jvm Jvm.ClassFile Sem Op Lib Jvm.Free Jvm.Stand Jvm.LawKit Jvm.RoadKit Bundle Jvm.Pilot.@@N@@.Jvm.D
/-! own layer 1: doubles as whole numbers of least units (2 to the -1074) -/
section OwnFp
open Jvm.FP Jvm.FP.Core Jvm.Free.Fl
/-- a power of two -/
def P2 (j : Nat) : Int := ((2 ^ j : Nat) : Int)
theorem P2_pos (j : Nat) : 0 < P2 j := Int.natCast_pos.mpr (Nat.two_pow_pos j)
theorem P2_add (i j : Nat) : P2 (i + j) = P2 i * P2 j := by unfold P2; rw [Nat.pow_add, Int.natCast_mul]
theorem P2_one64 : (one64 : Int) = P2 1074 := rfl
/-- the value of a double in least units -/
def Zv (a : UInt64) : Int := zval b64 (val64 a)
/-- some finite double has this value -/
def Rep (V : Int) : Prop := ∃ x : UInt64, DFin x ∧ Zv x = V
theorem own_qmax : b64.qmax = 971 := by decide
theorem own_signed_abs (c : Int) : signed (decide (c < 0)) c.natAbs = c := by
  unfold signed
  by_cases q : c < 0
  · simp [q]; omega
  · simp [q]; omega
theorem rep_core (s : Bool) {c j : Nat} (hc : c < 2 ^ 53) (hj : j ≤ 2045) : ∃ x : UInt64, DFin x ∧ Zv x = signed s (c * 2 ^ j) := by
  obtain ⟨c', q', h1, h2⟩ := round_exact (f := b64) good_b64 s (c := c) (q := (j : Int) - 1074) hc (by rw [qmin_b64]; omega) (by rw [own_qmax]; omega)
  refine ⟨of64 (round b64 (.fin s c ((j : Int) - 1074))), ⟨s, c', q', ?_⟩, ?_⟩
  · rw [val64_of64 (round_fits good_b64 _), h1]
  · unfold Zv
    rw [val64_of64 (round_fits good_b64 _), h1]
    show signed s (inUnits c' q' b64.qmin) = _
    rw [h2]
    unfold inUnits
    rw [show ((j : Int) - 1074 - b64.qmin).toNat = j by rw [qmin_b64]; omega]
theorem rep_mk (c : Int) (j : Nat) (hc : c.natAbs ≤ 2 ^ 53) (hj : j ≤ 2044) : Rep (c * P2 j) := by
  by_cases h : c.natAbs < 2 ^ 53
  · obtain ⟨x, h1, h2⟩ := rep_core (decide (c < 0)) h (j := j) (by omega)
    refine ⟨x, h1, h2.trans ?_⟩
    rw [signed_mul, own_signed_abs]; rfl
  · have h' : c.natAbs = 2 ^ 53 := by omega
    obtain ⟨x, h1, h2⟩ := rep_core (decide (c < 0)) (c := 2 ^ 52) (by decide) (j := j + 1) (by omega)
    refine ⟨x, h1, h2.trans ?_⟩
    have e : 2 ^ 52 * 2 ^ (j + 1) = c.natAbs * 2 ^ j := by
      rw [h', Nat.pow_add 2 j 1]
      generalize 2 ^ j = t
      omega
    rw [e, signed_mul, own_signed_abs]; rfl
theorem rep_of {V : Int} (c : Int) (j : Nat) (hc : c.natAbs ≤ 2 ^ 53) (hj : j ≤ 2044) (h : V = c * P2 j) : Rep V := h ▸ rep_mk c j hc hj
theorem rep_int (n : Int) (h : n.natAbs ≤ 2 ^ 53) : Rep (n * P2 1074) := rep_mk n 1074 h (by decide)
theorem rep_zero : Rep 0 := rep_of 0 0 (by decide) (by decide) (by simp)
theorem rep_self {x : UInt64} (h : DFin x) : Rep (Zv x) := ⟨x, h, rfl⟩
theorem rep_neg {V : Int} (h : Rep V) : Rep (-V) := by
  obtain ⟨x, hx, rfl⟩ := h
  obtain ⟨s, c, q, hv⟩ := hx
  refine ⟨Core.dneg x, ⟨!s, c, q, ?_⟩, ?_⟩
  · rw [Core.val64_dneg, hv]; rfl
  · unfold Zv; rw [Core.val64_dneg, zval_negate]
/-- between two finite values: finite -/
theorem fin_between {x : UInt64} (hn : val64 x ≠ .nan) {L H : Int} (hL : Rep L) (hH : Rep H) (h1 : L ≤ Zv x) (h2 : Zv x ≤ H) : DFin x := by
  cases hv : val64 x with
  | nan => exact absurd hv hn
  | fin s c q => exact ⟨s, c, q, hv⟩
  | inf s =>
    exfalso
    obtain ⟨y, hy, rfl⟩ := hL
    obtain ⟨z, hz, rfl⟩ := hH
    have a1 := hy.zval_lt
    have a2 := hz.zval_lt
    have e : Zv x = signed s (b64.tails * 2 ^ (b64.exps - 2)) := by unfold Zv; rw [hv]; rfl
    have b1 : signed (sgn (val64 y)) (zmag b64 (val64 y)) ≤ signed s (b64.tails * 2 ^ (b64.exps - 2)) := e ▸ h1
    have b2 : signed s (b64.tails * 2 ^ (b64.exps - 2)) ≤ signed (sgn (val64 z)) (zmag b64 (val64 z)) := e ▸ h2
    generalize b64.tails * 2 ^ (b64.exps - 2) = top at *
    generalize zmag b64 (val64 y) = my at *
    generalize zmag b64 (val64 z) = mz at *
    generalize sgn (val64 y) = sy at *
    generalize sgn (val64 z) = sz at *
    cases s <;> cases sy <;> cases sz <;> simp only [signed, if_true, Bool.false_eq_true, if_false] at b1 b2 <;> omega
theorem not_nan {x : UInt64} (h : Core.dIsNaN x = false) : val64 x ≠ .nan := (notNaN_iff x).mp h
theorem nn_of {x : UInt64} (h : DFin x) : NoNaN64 x := (fin64_core.mpr h).noNaN
/-! sums -/
theorem add_le {a b : UInt64} (ha : DFin a) (hb : DFin b) {V : Int} (hV : Rep V) (h : Zv a + Zv b ≤ V) : Zv (FP.dadd a b) ≤ V := by
  obtain ⟨x, hx, rfl⟩ := hV
  unfold Zv at h ⊢
  rw [val64_dadd]
  exact sum_le good_b64 ha hb (val64_fits a) (val64_fits b) (val64_fits x) hx.ne_nan h
theorem add_ge {a b : UInt64} (ha : DFin a) (hb : DFin b) {V : Int} (hV : Rep V) (h : V ≤ Zv a + Zv b) : V ≤ Zv (FP.dadd a b) := by
  obtain ⟨x, hx, rfl⟩ := hV
  unfold Zv at h ⊢
  rw [val64_dadd]
  exact sum_ge good_b64 ha hb (val64_fits a) (val64_fits b) (val64_fits x) hx.ne_nan h
theorem add_in {a b : UInt64} (ha : DFin a) (hb : DFin b) {L H : Int} (hL : Rep L) (hH : Rep H) (h1 : L ≤ Zv a + Zv b) (h2 : Zv a + Zv b ≤ H) : DFin (FP.dadd a b) ∧ L ≤ Zv (FP.dadd a b) ∧ Zv (FP.dadd a b) ≤ H :=
  ⟨fin_between (not_nan (Core.dadd_out ha.notNaN hb)) hL hH (add_ge ha hb hL h1) (add_le ha hb hH h2), add_ge ha hb hL h1, add_le ha hb hH h2⟩
theorem add_eq {a b : UInt64} (ha : DFin a) (hb : DFin b) {V : Int} (hV : Rep V) (h : Zv a + Zv b = V) : DFin (FP.dadd a b) ∧ Zv (FP.dadd a b) = V := by
  obtain ⟨h1, h2, h3⟩ := add_in ha hb hV hV (Int.le_of_eq h.symm) (Int.le_of_eq h)
  exact ⟨h1, Int.le_antisymm h3 h2⟩
/-! signs -/
theorem neg_eq {a : UInt64} (ha : DFin a) : DFin (FP.dneg a) ∧ Zv (FP.dneg a) = -Zv a := by
  obtain ⟨s, c, q, hv⟩ := ha
  constructor
  · exact ⟨!s, c, q, by rw [FP.val64_dneg, hv]; rfl⟩
  · unfold Zv; rw [FP.val64_dneg, zval_negate]
theorem cneg_eq {a : UInt64} (ha : DFin a) : DFin (Core.dneg a) ∧ Zv (Core.dneg a) = -Zv a := by
  obtain ⟨s, c, q, hv⟩ := ha
  constructor
  · exact ⟨!s, c, q, by rw [Core.val64_dneg, hv]; rfl⟩
  · unfold Zv; rw [Core.val64_dneg, zval_negate]
/-! differences -/
theorem sub_in {a b : UInt64} (ha : DFin a) (hb : DFin b) {L H : Int} (hL : Rep L) (hH : Rep H) (h1 : L ≤ Zv a - Zv b) (h2 : Zv a - Zv b ≤ H) : DFin (FP.dsub a b) ∧ L ≤ Zv (FP.dsub a b) ∧ Zv (FP.dsub a b) ≤ H := by
  obtain ⟨n1, n2⟩ := cneg_eq hb
  have e : FP.dsub a b = FP.dadd a (Core.dneg b) := Core.dsub_eq a b
  rw [e]
  exact add_in ha n1 hL hH (by rw [n2]; omega) (by rw [n2]; omega)
theorem sub_eq {a b : UInt64} (ha : DFin a) (hb : DFin b) {V : Int} (hV : Rep V) (h : Zv a - Zv b = V) : DFin (FP.dsub a b) ∧ Zv (FP.dsub a b) = V := by
  obtain ⟨h1, h2, h3⟩ := sub_in ha hb hV hV (Int.le_of_eq h.symm) (Int.le_of_eq h)
  exact ⟨h1, Int.le_antisymm h3 h2⟩
/-! products -/
theorem own_q2 : (b64.qmin - 2 * b64.qmin).toNat = 1074 := by rw [qmin_b64]; decide
theorem mul_le {a b : UInt64} (ha : DFin a) (hb : DFin b) {V : Int} (hV : Rep V) (h : Zv a * Zv b ≤ V * P2 1074) : Zv (FP.dmul a b) ≤ V := by
  obtain ⟨x, hx, rfl⟩ := hV
  obtain ⟨s, c, q, hva⟩ := ha
  obtain ⟨t, d, r, hvb⟩ := hb
  have fa := val64_fits a
  have fb := val64_fits b
  unfold Zv at h ⊢
  rw [hva] at fa h
  rw [hvb] at fb h
  obtain ⟨p1, p2, p3⟩ := product_units fa fb
  rw [val64_dmul, hva, hvb, p1]
  refine zval_round_le good_b64 (val64_fits x) hx.ne_nan (e0 := 2 * b64.qmin) (by rw [qmin_b64]; decide) p2 ?_
  rw [p3, signed_xor, own_q2]
  exact h
theorem mul_ge {a b : UInt64} (ha : DFin a) (hb : DFin b) {V : Int} (hV : Rep V) (h : V * P2 1074 ≤ Zv a * Zv b) : V ≤ Zv (FP.dmul a b) := by
  obtain ⟨x, hx, rfl⟩ := hV
  obtain ⟨s, c, q, hva⟩ := ha
  obtain ⟨t, d, r, hvb⟩ := hb
  have fa := val64_fits a
  have fb := val64_fits b
  unfold Zv at h ⊢
  rw [hva] at fa h
  rw [hvb] at fb h
  obtain ⟨p1, p2, p3⟩ := product_units fa fb
  rw [val64_dmul, hva, hvb, p1]
  refine zval_round_ge good_b64 (val64_fits x) hx.ne_nan (e0 := 2 * b64.qmin) (by rw [qmin_b64]; decide) p2 ?_
  rw [p3, signed_xor, own_q2]
  exact h
theorem mul_in {a b : UInt64} (ha : DFin a) (hb : DFin b) {L H : Int} (hL : Rep L) (hH : Rep H) (h1 : L * P2 1074 ≤ Zv a * Zv b) (h2 : Zv a * Zv b ≤ H * P2 1074) : DFin (FP.dmul a b) ∧ L ≤ Zv (FP.dmul a b) ∧ Zv (FP.dmul a b) ≤ H :=
  ⟨fin_between (not_nan (Core.dmul_out ha hb)) hL hH (mul_ge ha hb hL h1) (mul_le ha hb hH h2), mul_ge ha hb hL h1, mul_le ha hb hH h2⟩
theorem mul_eq {a b : UInt64} (ha : DFin a) (hb : DFin b) {V : Int} (hV : Rep V) (h : Zv a * Zv b = V * P2 1074) : DFin (FP.dmul a b) ∧ Zv (FP.dmul a b) = V := by
  obtain ⟨h1, h2, h3⟩ := mul_in ha hb hV hV (Int.le_of_eq h.symm) (Int.le_of_eq h)
  exact ⟨h1, Int.le_antisymm h3 h2⟩
/-! quotients by a positive number -/
theorem own_sgn_le {s t : Bool} {A V B r : Nat} (hB : 0 < B) (hle : A ≤ V * B → r ≤ V) (hge : V * B ≤ A → V ≤ r) (h : signed s A ≤ signed t V * (B : Int)) : signed s r ≤ signed t V := by
  rw [← signed_mul] at h
  have hz : V * B = 0 → V = 0 := fun q => by rcases Nat.mul_eq_zero.mp q with q | q <;> omega
  generalize V * B = vb at *
  cases s <;> cases t <;> simp only [signed, if_true, Bool.false_eq_true, if_false] at h ⊢
  · have := hle (by omega); omega
  · have := hle (by omega); have := hz (by omega); omega
  · omega
  · have := hge (by omega); omega
theorem own_sgn_ge {s t : Bool} {A V B r : Nat} (hB : 0 < B) (hle : A ≤ V * B → r ≤ V) (hge : V * B ≤ A → V ≤ r) (h : signed t V * (B : Int) ≤ signed s A) : signed t V ≤ signed s r := by
  rw [← signed_mul] at h
  have hz : V * B = 0 → V = 0 := fun q => by rcases Nat.mul_eq_zero.mp q with q | q <;> omega
  generalize V * B = vb at *
  cases s <;> cases t <;> simp only [signed, if_true, Bool.false_eq_true, if_false] at h ⊢
  · have := hge (by omega); omega
  · omega
  · have := hle (by omega); have := hz (by omega); omega
  · have := hle (by omega); omega
theorem div_core {a b : UInt64} (ha : DFin a) (hb : DFin b) (hp : 0 < Zv b) (x : UInt64) (hx : DFin x) :
    ∃ (s : Bool) (A B : Nat), (B : Int) = Zv b ∧ signed s A = Zv a * P2 1074 ∧ 0 < B ∧ ∃ r, Zv (FP.ddiv a b) = signed s r ∧ (A ≤ zmag b64 (val64 x) * B → r ≤ zmag b64 (val64 x)) ∧ (zmag b64 (val64 x) * B ≤ A → zmag b64 (val64 x) ≤ r) := by
  obtain ⟨s, c, q, hva⟩ := ha
  obtain ⟨t, d, r, hvb⟩ := hb
  have fa := val64_fits a
  have fb := val64_fits b
  rw [hva] at fa
  rw [hvb] at fb
  have f1 := fa.2.1
  have f2 := fb.2.1
  have zb : Zv b = signed t (inUnits d r b64.qmin) := by unfold Zv; rw [hvb]; rfl
  have hd : 0 < d := by
    rcases Nat.eq_zero_or_pos d with q0 | q0
    · rw [zb, q0] at hp
      have : inUnits 0 r b64.qmin = 0 := Nat.zero_mul _
      rw [this, signed_zero] at hp; omega
    · exact q0
  have ht : t = false := by
    cases t with
    | false => rfl
    | true => rw [zb] at hp; simp only [signed, if_true] at hp; omega
  subst ht
  have hB : 0 < inUnits d r b64.qmin := Nat.mul_pos hd (Nat.two_pow_pos _)
  have e1 : inUnits c (q - r) (2 * b64.qmin - r) = inUnits c q b64.qmin * 2 ^ 1074 := by
    unfold inUnits
    rw [Nat.mul_assoc, ← Nat.pow_add]
    rw [qmin_b64] at *
    congr 2; omega
  have e2 : 2 ^ (b64.qmin - (2 * b64.qmin - r)).toNat * d = inUnits d r b64.qmin := by
    unfold inUnits
    rw [Nat.mul_comm]; congr 2; omega
  have hv : val64 (FP.ddiv a b) = roundRatio b64 s c d (q - r) := by
    rw [val64_ddiv, hva, hvb]
    show (if d = 0 then _ else roundRatio b64 (s != false) c d (q - r)) = _
    rw [if_neg (by omega)]
    cases s <;> rfl
  refine ⟨s, inUnits c q b64.qmin * 2 ^ 1074, inUnits d r b64.qmin, ?_, ?_, hB, zmag b64 (roundRatio b64 s c d (q - r)), ?_, ?_, ?_⟩
  · rw [zb]; simp only [signed, Bool.false_eq_true, if_false]
  · unfold Zv; rw [signed_mul, hva]; rfl
  · unfold Zv; rw [hv]; show signed (sgn _) _ = _; rw [sgn_roundRatio]
  · intro h
    refine zmag_roundRatio_le good_b64 hd (val64_fits x) hx.ne_nan (e0 := 2 * b64.qmin - r) (by have := qmin_b64; omega) (by have := qmin_b64; omega) ?_
    rw [e1, Nat.mul_assoc, e2]; exact h
  · intro h
    refine zmag_roundRatio_ge good_b64 hd (val64_fits x) (e0 := 2 * b64.qmin - r) (by have := qmin_b64; omega) (by have := qmin_b64; omega) ?_
    rw [e1, Nat.mul_assoc, e2]; exact h
theorem div_le {a b : UInt64} (ha : DFin a) (hb : DFin b) (hp : 0 < Zv b) {V : Int} (hV : Rep V) (h : Zv a * P2 1074 ≤ V * Zv b) : Zv (FP.ddiv a b) ≤ V := by
  obtain ⟨x, hx, rfl⟩ := hV
  obtain ⟨s, A, B, h1, h2, h3, r, h4, h5, h6⟩ := div_core ha hb hp x hx
  rw [h4]
  rw [← h2, ← h1] at h
  exact own_sgn_le h3 h5 h6 h
theorem div_ge {a b : UInt64} (ha : DFin a) (hb : DFin b) (hp : 0 < Zv b) {V : Int} (hV : Rep V) (h : V * Zv b ≤ Zv a * P2 1074) : V ≤ Zv (FP.ddiv a b) := by
  obtain ⟨x, hx, rfl⟩ := hV
  obtain ⟨s, A, B, h1, h2, h3, r, h4, h5, h6⟩ := div_core ha hb hp x hx
  rw [h4]
  rw [← h2, ← h1] at h
  exact own_sgn_ge h3 h5 h6 h
theorem pos_nz {b : UInt64} (hp : 0 < Zv b) : ¬ DZero b := fun q => by
  have := q.zval
  unfold Zv at hp
  omega
theorem div_in {a b : UInt64} (ha : DFin a) (hb : DFin b) (hp : 0 < Zv b) {L H : Int} (hL : Rep L) (hH : Rep H) (h1 : L * Zv b ≤ Zv a * P2 1074) (h2 : Zv a * P2 1074 ≤ H * Zv b) : DFin (FP.ddiv a b) ∧ L ≤ Zv (FP.ddiv a b) ∧ Zv (FP.ddiv a b) ≤ H :=
  ⟨fin_between (not_nan (Core.ddiv_out ha.notNaN hb (pos_nz hp))) hL hH (div_ge ha hb hp hL h1) (div_le ha hb hp hH h2), div_ge ha hb hp hL h1, div_le ha hb hp hH h2⟩
theorem div_eq {a b : UInt64} (ha : DFin a) (hb : DFin b) (hp : 0 < Zv b) {V : Int} (hV : Rep V) (h : Zv a * P2 1074 = V * Zv b) : DFin (FP.ddiv a b) ∧ Zv (FP.ddiv a b) = V := by
  obtain ⟨h1, h2, h3⟩ := div_in ha hb hp hV hV (Int.le_of_eq h.symm) (Int.le_of_eq h)
  exact ⟨h1, Int.le_antisymm h3 h2⟩
/-! whole numbers -/
theorem l2d_in {n : Int64} {L H : Int} (hL : Rep L) (hH : Rep H) (h1 : L ≤ n.toInt * P2 1074) (h2 : n.toInt * P2 1074 ≤ H) : L ≤ Zv (FP.l2d n) ∧ Zv (FP.l2d n) ≤ H := by
  obtain ⟨x, hx, rfl⟩ := hL
  obtain ⟨y, hy, rfl⟩ := hH
  exact ⟨l2d_zval_ge hx.ne_nan h1, l2d_zval_le hy.ne_nan h2⟩
theorem l2d_dfin (n : Int64) : DFin (FP.l2d n) := Core.l2d_fin n
theorem i2d_dfin (n : Int32) : DFin (FP.i2d n) := Core.i2d_fin n
theorem l2d_rep {n : Int64} (h : Rep (n.toInt * P2 1074)) : Zv (FP.l2d n) = n.toInt * P2 1074 := by
  obtain ⟨h1, h2⟩ := l2d_in h h (Int.le_refl _) (Int.le_refl _)
  exact Int.le_antisymm h2 h1
theorem l2d_eq {n : Int64} (h : n.toInt.natAbs ≤ 2 ^ 53) : Zv (FP.l2d n) = n.toInt * P2 1074 := l2d_rep (rep_int _ h)
theorem i2d_eq (n : Int32) : Zv (FP.i2d n) = n.toInt * P2 1074 := by
  rw [i2d_w, l2d_eq (by rw [Int32.toInt_toInt64]; have := int32_abs n; omega), Int32.toInt_toInt64]
theorem d2l_eq {a : UInt64} (ha : DFin a) {n : Int} (h : Zv a = n * P2 1074) (h1 : -9223372036854775808 ≤ n) (h2 : n < 9223372036854775808) : (FP.d2l a).toInt = n := by
  have e := d2l_val ha.ne_nan
  have z : signed (sgn (val64 a)) (zmag b64 (val64 a)) = n * (one64 : Int) := h
  have hp := one64_pos
  have hm : zmag b64 (val64 a) = n.natAbs * one64 := by
    have q := congrArg Int.natAbs z
    rw [natAbs_signed, Int.natAbs_mul] at q
    exact q
  have hs : signed (sgn (val64 a)) n.natAbs = n := by
    rw [hm, signed_mul] at z
    exact Int.eq_of_mul_eq_mul_right (by omega) z
  rw [hm, Nat.mul_div_cancel _ hp, hs] at e
  show (Core.d2l a).toInt = n
  rw [e]; omega
/-! comparisons -/
theorem cmp_lt {a b : UInt64} (ha : DFin a) (hb : DFin b) (o : CmpOp) (h : Zv a < Zv b) : cmpValue (FP.dcmp a b) o = -1 := by
  rw [show FP.dcmp a b = some .lt from dcmp_lt.mpr ⟨ha.ne_nan, hb.ne_nan, h⟩]; rfl
theorem cmp_eq {a b : UInt64} (ha : DFin a) (hb : DFin b) (o : CmpOp) (h : Zv a = Zv b) : cmpValue (FP.dcmp a b) o = 0 := by
  rw [show FP.dcmp a b = some .eq from dcmp_eq.mpr ⟨ha.ne_nan, hb.ne_nan, h⟩]; rfl
theorem cmp_gt {a b : UInt64} (ha : DFin a) (hb : DFin b) (o : CmpOp) (h : Zv b < Zv a) : cmpValue (FP.dcmp a b) o = 1 := by
  rw [show FP.dcmp a b = some .gt from dcmp_gt.mpr ⟨ha.ne_nan, hb.ne_nan, h⟩]; rfl
/-! constants -/
theorem zero_fin : DFin 0 := (fin_bits _).mpr (by decide)
theorem zero_z : Zv 0 = 0 := zval64_zero
theorem one_fin : DFin 4607182418800017408 := (fin_bits _).mpr (by decide)
theorem one_z : Zv 4607182418800017408 = 1 * P2 1074 := by unfold Zv P2; decide +kernel
end OwnFp

/-! own layer 2: walking forward -/
section OwnGo
open Jvm.Free.Fl
variable {p : Program} {l : Launch} {e : Env} {R : Room} {s : State} {m : MethodId} {args : Array Value} {below : List Frame} {meth : Method} {c : Code} {T : State} {locs : List Loc} {cells slots : Nat} {Q : Outcome → State → Prop}
/-- from here the run comes to an end that Q allows -/
def Go (p : Program) (e : Env) (below : List Frame) (Q : Outcome → State → Prop) (S : State) : Prop :=
  ∃ s₂ o, Steps p.tables e below S s₂ ∧ s₂.status = .running ∧ Ended s₂ below o ∧ Q o s₂
theorem Go.of {S S' : State} (h : ∀ t, Steps p.tables e below S' t → Steps p.tables e below S t) (g : Go p e below Q S') : Go p e below Q S := by
  obtain ⟨s₂, o, h1, h2⟩ := g
  exact ⟨s₂, o, h _ h1, h2⟩
theorem Go.tr {S S' : State} (h : Steps p.tables e below S S') (g : Go p e below Q S') : Go p e below Q S := Go.of (fun _ k => h.trans k) g
abbrev Ret (s : State) (Qv : Option Value → Heap → List Loc → Prop) (kc ks : Nat) : Outcome → State → Prop := fun o U' => ∃ v L, o = .returned v ∧ Qv v U'.heap L ∧ FrameEnd s o U' L kc ks
theorem Go.done (X : Stand p l e R s m args below meth c T locs cells slots) {g : JFrame} {v : Option Value} (hv : meth.sig.returnType = none → v = none) (hlocks : meth.locks = false)
    (hst : ∀ fs, (∀ (f : JFrame) (acts : List Action), f.method = m → f.locked = none → f.entered = [] → (doReturn e (T.setTop f) acts v).1 = T.setFrames fs) → Steps p.tables e below (T.setTop g) (T.setFrames fs))
    {Qv : Option Value → Heap → List Loc → Prop} {kc ks : Nat} (hc : cells ≤ kc) (hk : slots ≤ ks) (hq : Qv v T.heap locs) : Go p e below (Ret s Qv kc ks) (T.setTop g) := by
  obtain ⟨fs, hr, hrun, hended, hW, hsame⟩ := X.leave (v := v) hv hlocks
  exact ⟨_, _, hst fs hr, hrun, hended, v, locs, rfl, hq, ⟨_, rfl⟩, hW, hsame.mono hc hk⟩
theorem Go.retV (X : Stand p l e R s m args below meth c T locs cells slots) (hx : p.tables.exec = Jvm.exec) {pc : Nat} {Ls : Array Slot} (hret : meth.sig.returnType = none) (hlk : meth.locks = false) (hd : decode c.code pc = .ok (.return_, 1))
    {Qv : Option Value → Heap → List Loc → Prop} {kc ks : Nat} (hc : cells ≤ kc) (hk : slots ≤ ks) (hq : Qv none T.heap locs) : Go p e below (Ret s Qv kc ks) (T.setTop (mkF m pc Ls [])) :=
  Go.done X (fun _ => rfl) hlk (fun _ hr => X.returnOut hx hret hd hr) hc hk hq
theorem Go.retL (X : Stand p l e R s m args below meth c T locs cells slots) (hx : p.tables.exec = Jvm.exec) {pc : Nat} {Ls : Array Slot} {st : List Value} {z : Int64} (hret : meth.sig.returnType = some .long) (hlk : meth.locks = false) (hd : decode c.code pc = .ok (.lreturn, 1))
    {Qv : Option Value → Heap → List Loc → Prop} {kc ks : Nat} (hc : cells ≤ kc) (hk : slots ≤ ks) (hq : Qv (some (.long z)) T.heap locs) : Go p e below (Ret s Qv kc ks) (T.setTop (mkF m pc Ls ((.long z) :: st))) :=
  Go.done X (fun h => by rw [hret] at h; cases h) hlk (fun _ hr => retOut X hx hret rfl (Or.inr (Or.inl ⟨rfl, rfl, z, rfl⟩)) hd hr) hc hk hq
theorem Go.retD (X : Stand p l e R s m args below meth c T locs cells slots) (hx : p.tables.exec = Jvm.exec) {pc : Nat} {Ls : Array Slot} {st : List Value} {z : UInt64} (hret : meth.sig.returnType = some .double) (hlk : meth.locks = false) (hd : decode c.code pc = .ok (.dreturn, 1))
    {Qv : Option Value → Heap → List Loc → Prop} {kc ks : Nat} (hc : cells ≤ kc) (hk : slots ≤ ks) (hq : Qv (some (.double z)) T.heap locs) : Go p e below (Ret s Qv kc ks) (T.setTop (mkF m pc Ls ((.double z) :: st))) :=
  Go.done X (fun h => by rw [hret] at h; cases h) hlk (fun _ hr => retOut X hx hret rfl (Or.inr (Or.inr (Or.inl ⟨rfl, rfl, z, rfl⟩))) hd hr) hc hk hq
theorem Go.retF (X : Stand p l e R s m args below meth c T locs cells slots) (hx : p.tables.exec = Jvm.exec) {pc : Nat} {Ls : Array Slot} {st : List Value} {z : UInt32} (hret : meth.sig.returnType = some .float) (hlk : meth.locks = false) (hd : decode c.code pc = .ok (.freturn, 1))
    {Qv : Option Value → Heap → List Loc → Prop} {kc ks : Nat} (hc : cells ≤ kc) (hk : slots ≤ ks) (hq : Qv (some (.float z)) T.heap locs) : Go p e below (Ret s Qv kc ks) (T.setTop (mkF m pc Ls ((.float z) :: st))) :=
  Go.done X (fun h => by rw [hret] at h; cases h) hlk (fun _ hr => retOut X hx hret rfl (Or.inr (Or.inr (Or.inr (Or.inl ⟨rfl, rfl, z, rfl⟩)))) hd hr) hc hk hq
theorem Go.retI (X : Stand p l e R s m args below meth c T locs cells slots) (hx : p.tables.exec = Jvm.exec) {pc : Nat} {Ls : Array Slot} {st : List Value} {z : Int32} (hret : meth.sig.returnType = some .int) (hlk : meth.locks = false) (hd : decode c.code pc = .ok (.ireturn, 1))
    {Qv : Option Value → Heap → List Loc → Prop} {kc ks : Nat} (hc : cells ≤ kc) (hk : slots ≤ ks) (hq : Qv (some (.int z)) T.heap locs) : Go p e below (Ret s Qv kc ks) (T.setTop (mkF m pc Ls ((.int z) :: st))) :=
  Go.done X (fun h => by rw [hret] at h; cases h) hlk (fun _ hr => retOut X hx hret rfl (Or.inl ⟨rfl, Or.inl rfl, z, rfl⟩) hd hr) hc hk hq
theorem Go.retZ (X : Stand p l e R s m args below meth c T locs cells slots) (hx : p.tables.exec = Jvm.exec) {pc : Nat} {Ls : Array Slot} {st : List Value} {z : Int32} (hret : meth.sig.returnType = some .boolean) (hlk : meth.locks = false) (hd : decode c.code pc = .ok (.ireturn, 1)) (hz : z = 0 ∨ z = 1)
    {Qv : Option Value → Heap → List Loc → Prop} {kc ks : Nat} (hc : cells ≤ kc) (hk : slots ≤ ks) (hq : Qv (some (.int z)) T.heap locs) : Go p e below (Ret s Qv kc ks) (T.setTop (mkF m pc Ls ((.int z) :: st))) :=
  Go.done X (fun h => by rw [hret] at h; cases h) hlk (fun _ hr => retOut X hx hret (by rcases hz with rfl | rfl <;> rfl) (Or.inl ⟨rfl, Or.inr (Or.inl rfl), z, rfl⟩) hd hr) hc hk hq
theorem Go.retA (X : Stand p l e R s m args below meth c T locs cells slots) (hx : p.tables.exec = Jvm.exec) {pc : Nat} {Ls : Array Slot} {st : List Value} {v : Value} {t : FieldType} (hret : meth.sig.returnType = some t) (hlk : meth.locks = false) (hd : decode c.code pc = .ok (.areturn, 1)) (ht : t.isReference = true) (hv : v.isRef = true) (hn : narrow t v = v)
    {Qv : Option Value → Heap → List Loc → Prop} {kc ks : Nat} (hc : cells ≤ kc) (hk : slots ≤ ks) (hq : Qv (some v) T.heap locs) : Go p e below (Ret s Qv kc ks) (T.setTop (mkF m pc Ls (v :: st))) :=
  Go.done X (fun h => by rw [hret] at h; cases h) hlk (fun _ hr => retOut X hx hret hn (Or.inr (Or.inr (Or.inr (Or.inr ⟨rfl, ht, hv⟩)))) hd hr) hc hk hq
theorem enter {l : Launch} {Z : State} {y : MethodName} {bytes : ByteArray} {maxL : Nat} {ret : Option FieldType} {ws : List Jvm.Cond} {rm : Room} {as' : Array Value} {h0 : Heap} {Qv : Option Value → Heap → List Loc → Prop} {Ls : Array Slot} {kc ks : Nat}
    (hpn : plainFor y = true) (hef : ∀ m, entryFrame m as' maxL = mkF m 0 Ls [])
    (body : ∀ (p : Program) (e : Env) (s : State) (m : MethodId) (below : List Frame) (meth : Method) (c : Code) (s₁ : State), p.tables.exec = Jvm.exec → c.code = bytes → c.maxLocals = maxL → s.vm.findClass y.cls = some m.cls → meth.name = y.name → meth.sig.returnType = ret → meth.locks = false → Z.Warmed39 s.vm →
      Stand p l e rm s m as' below meth c s₁ [] 0 0 → s₁.heap = h0 → Go p e below (Ret s Qv kc ks) (s₁.setTop (mkF m 0 Ls []))) :
    MetFree l y (head1 (Jvm.Cond.code y bytes maxL ret :: ws) rm) (fun a U => a = as' ∧ Z.Warmed39 U.vm ∧ U.heap = h0) (fun _ _ _ _ _ => True) (fun _ U o U' => ∃ v L, o = .returned v ∧ Qv v U'.heap L ∧ FrameEnd U o U' L kc ks) := by
  refine MetFree.of_bodySF hpn hisR ?_
  intro p e s m args below meth c s₁ Bd hml0 hP hK
  obtain ⟨rfl, hZ, hh⟩ := hP
  have e0 : s₁.heap = h0 := by rw [← hh, Bd.state]; rfl
  obtain ⟨s₂, o, h1, h2, h3, h4⟩ := body p e s m below meth c s₁ Bd.exec Bd.bytes hml0 (findClass_of_methodNamed Bd.named) (name_of_methodNamed Bd.named Bd.method).1 Bd.returns (BodyLoose.notSynchronized Bd) hZ (Stand.of_body Bd) e0
  exact ⟨s₂, o, castTop (hef m) h1, h2, h3, h4⟩
theorem Go.iload (h : At T m c below) (hx : p.tables.exec = Jvm.exec) {pc q : Nat} {Ls : Array Slot} {st : List Value} {k : Nat} {v : Int32} (hd : decode c.code pc = .ok (.iload k, 2)) (hl : Ls[k]? = some (.val (.int v))) (hq : pc + 2 = q) (g : Go p e below Q (T.setTop (mkF m q Ls (.int v :: st)))) : Go p e below Q (T.setTop (mkF m pc Ls st)) := by
  subst hq; exact Go.of (fun _ r => XS.iload h hx rfl hd hl r) g
theorem Go.iloadN (h : At T m c below) (hx : p.tables.exec = Jvm.exec) {pc q : Nat} {Ls : Array Slot} {st : List Value} {k : Fin 4} {v : Int32} (hd : decode c.code pc = .ok (.iload_n k, 1)) (hl : Ls[k.val]? = some (.val (.int v))) (hq : pc + 1 = q) (g : Go p e below Q (T.setTop (mkF m q Ls (.int v :: st)))) : Go p e below Q (T.setTop (mkF m pc Ls st)) := by
  subst hq; exact Go.of (fun _ r => XS.iloadN h hx rfl hd hl r) g
theorem Go.istore (h : At T m c below) (hx : p.tables.exec = Jvm.exec) {pc q : Nat} {Ls : Array Slot} {st : List Value} {k : Nat} {v : Int32} {l2 : Array Slot} (hd : decode c.code pc = .ok (.istore k, 2)) (hl : storeLocals Ls k (.int v) = some l2) (hq : pc + 2 = q) (g : Go p e below Q (T.setTop (mkF m q l2 st))) : Go p e below Q (T.setTop (mkF m pc Ls (.int v :: st))) := by
  subst hq; exact Go.of (fun _ r => XS.istore h hx rfl hd rfl hl r) g
theorem Go.istoreN (h : At T m c below) (hx : p.tables.exec = Jvm.exec) {pc q : Nat} {Ls : Array Slot} {st : List Value} {k : Fin 4} {v : Int32} {l2 : Array Slot} (hd : decode c.code pc = .ok (.istore_n k, 1)) (hl : storeLocals Ls k.val (.int v) = some l2) (hq : pc + 1 = q) (g : Go p e below Q (T.setTop (mkF m q l2 st))) : Go p e below Q (T.setTop (mkF m pc Ls (.int v :: st))) := by
  subst hq; exact Go.of (fun _ r => XS.istoreN h hx rfl hd rfl hl r) g
theorem Go.lload (h : At T m c below) (hx : p.tables.exec = Jvm.exec) {pc q : Nat} {Ls : Array Slot} {st : List Value} {k : Nat} {v : Int64} (hd : decode c.code pc = .ok (.lload k, 2)) (hl : Ls[k]? = some (.val (.long v))) (hq : pc + 2 = q) (g : Go p e below Q (T.setTop (mkF m q Ls (.long v :: st)))) : Go p e below Q (T.setTop (mkF m pc Ls st)) := by
  subst hq; exact Go.of (fun _ r => XS.lload h hx rfl hd hl r) g
theorem Go.lloadN (h : At T m c below) (hx : p.tables.exec = Jvm.exec) {pc q : Nat} {Ls : Array Slot} {st : List Value} {k : Fin 4} {v : Int64} (hd : decode c.code pc = .ok (.lload_n k, 1)) (hl : Ls[k.val]? = some (.val (.long v))) (hq : pc + 1 = q) (g : Go p e below Q (T.setTop (mkF m q Ls (.long v :: st)))) : Go p e below Q (T.setTop (mkF m pc Ls st)) := by
  subst hq; exact Go.of (fun _ r => XS.lloadN h hx rfl hd hl r) g
theorem Go.lstore (h : At T m c below) (hx : p.tables.exec = Jvm.exec) {pc q : Nat} {Ls : Array Slot} {st : List Value} {k : Nat} {v : Int64} {l2 : Array Slot} (hd : decode c.code pc = .ok (.lstore k, 2)) (hl : storeLocals Ls k (.long v) = some l2) (hq : pc + 2 = q) (g : Go p e below Q (T.setTop (mkF m q l2 st))) : Go p e below Q (T.setTop (mkF m pc Ls (.long v :: st))) := by
  subst hq; exact Go.of (fun _ r => XS.lstore h hx rfl hd rfl hl r) g
theorem Go.lstoreN (h : At T m c below) (hx : p.tables.exec = Jvm.exec) {pc q : Nat} {Ls : Array Slot} {st : List Value} {k : Fin 4} {v : Int64} {l2 : Array Slot} (hd : decode c.code pc = .ok (.lstore_n k, 1)) (hl : storeLocals Ls k.val (.long v) = some l2) (hq : pc + 1 = q) (g : Go p e below Q (T.setTop (mkF m q l2 st))) : Go p e below Q (T.setTop (mkF m pc Ls (.long v :: st))) := by
  subst hq; exact Go.of (fun _ r => XS.lstoreN h hx rfl hd rfl hl r) g
theorem Go.dload (h : At T m c below) (hx : p.tables.exec = Jvm.exec) {pc q : Nat} {Ls : Array Slot} {st : List Value} {k : Nat} {v : UInt64} (hd : decode c.code pc = .ok (.dload k, 2)) (hl : Ls[k]? = some (.val (.double v))) (hq : pc + 2 = q) (g : Go p e below Q (T.setTop (mkF m q Ls (.double v :: st)))) : Go p e below Q (T.setTop (mkF m pc Ls st)) := by
  subst hq; exact Go.of (fun _ r => XS.dload h hx rfl hd hl r) g
theorem Go.dloadN (h : At T m c below) (hx : p.tables.exec = Jvm.exec) {pc q : Nat} {Ls : Array Slot} {st : List Value} {k : Fin 4} {v : UInt64} (hd : decode c.code pc = .ok (.dload_n k, 1)) (hl : Ls[k.val]? = some (.val (.double v))) (hq : pc + 1 = q) (g : Go p e below Q (T.setTop (mkF m q Ls (.double v :: st)))) : Go p e below Q (T.setTop (mkF m pc Ls st)) := by
  subst hq; exact Go.of (fun _ r => XS.dloadN h hx rfl hd hl r) g
theorem Go.dstore (h : At T m c below) (hx : p.tables.exec = Jvm.exec) {pc q : Nat} {Ls : Array Slot} {st : List Value} {k : Nat} {v : UInt64} {l2 : Array Slot} (hd : decode c.code pc = .ok (.dstore k, 2)) (hl : storeLocals Ls k (.double v) = some l2) (hq : pc + 2 = q) (g : Go p e below Q (T.setTop (mkF m q l2 st))) : Go p e below Q (T.setTop (mkF m pc Ls (.double v :: st))) := by
  subst hq; exact Go.of (fun _ r => XS.dstore h hx rfl hd rfl hl r) g
theorem Go.dstoreN (h : At T m c below) (hx : p.tables.exec = Jvm.exec) {pc q : Nat} {Ls : Array Slot} {st : List Value} {k : Fin 4} {v : UInt64} {l2 : Array Slot} (hd : decode c.code pc = .ok (.dstore_n k, 1)) (hl : storeLocals Ls k.val (.double v) = some l2) (hq : pc + 1 = q) (g : Go p e below Q (T.setTop (mkF m q l2 st))) : Go p e below Q (T.setTop (mkF m pc Ls (.double v :: st))) := by
  subst hq; exact Go.of (fun _ r => XS.dstoreN h hx rfl hd rfl hl r) g
theorem Go.fload (h : At T m c below) (hx : p.tables.exec = Jvm.exec) {pc q : Nat} {Ls : Array Slot} {st : List Value} {k : Nat} {v : UInt32} (hd : decode c.code pc = .ok (.fload k, 2)) (hl : Ls[k]? = some (.val (.float v))) (hq : pc + 2 = q) (g : Go p e below Q (T.setTop (mkF m q Ls (.float v :: st)))) : Go p e below Q (T.setTop (mkF m pc Ls st)) := by
  subst hq; exact Go.of (fun _ r => XS.fload h hx rfl hd hl r) g
theorem Go.floadN (h : At T m c below) (hx : p.tables.exec = Jvm.exec) {pc q : Nat} {Ls : Array Slot} {st : List Value} {k : Fin 4} {v : UInt32} (hd : decode c.code pc = .ok (.fload_n k, 1)) (hl : Ls[k.val]? = some (.val (.float v))) (hq : pc + 1 = q) (g : Go p e below Q (T.setTop (mkF m q Ls (.float v :: st)))) : Go p e below Q (T.setTop (mkF m pc Ls st)) := by
  subst hq; exact Go.of (fun _ r => XS.floadN h hx rfl hd hl r) g
theorem Go.fstore (h : At T m c below) (hx : p.tables.exec = Jvm.exec) {pc q : Nat} {Ls : Array Slot} {st : List Value} {k : Nat} {v : UInt32} {l2 : Array Slot} (hd : decode c.code pc = .ok (.fstore k, 2)) (hl : storeLocals Ls k (.float v) = some l2) (hq : pc + 2 = q) (g : Go p e below Q (T.setTop (mkF m q l2 st))) : Go p e below Q (T.setTop (mkF m pc Ls (.float v :: st))) := by
  subst hq; exact Go.of (fun _ r => XS.fstore h hx rfl hd rfl hl r) g
theorem Go.fstoreN (h : At T m c below) (hx : p.tables.exec = Jvm.exec) {pc q : Nat} {Ls : Array Slot} {st : List Value} {k : Fin 4} {v : UInt32} {l2 : Array Slot} (hd : decode c.code pc = .ok (.fstore_n k, 1)) (hl : storeLocals Ls k.val (.float v) = some l2) (hq : pc + 1 = q) (g : Go p e below Q (T.setTop (mkF m q l2 st))) : Go p e below Q (T.setTop (mkF m pc Ls (.float v :: st))) := by
  subst hq; exact Go.of (fun _ r => XS.fstoreN h hx rfl hd rfl hl r) g
theorem Go.aload (h : At T m c below) (hx : p.tables.exec = Jvm.exec) {pc q : Nat} {Ls : Array Slot} {st : List Value} {k : Nat} {v : Value} (hd : decode c.code pc = .ok (.aload k, 2)) (hl : Ls[k]? = some (.val v)) (hv : v.isRef = true) (hq : pc + 2 = q) (g : Go p e below Q (T.setTop (mkF m q Ls (v :: st)))) : Go p e below Q (T.setTop (mkF m pc Ls st)) := by
  subst hq; exact Go.of (fun _ r => XS.aload h hx rfl hd hl hv r) g
theorem Go.aloadN (h : At T m c below) (hx : p.tables.exec = Jvm.exec) {pc q : Nat} {Ls : Array Slot} {st : List Value} {k : Fin 4} {v : Value} (hd : decode c.code pc = .ok (.aload_n k, 1)) (hl : Ls[k.val]? = some (.val v)) (hv : v.isRef = true) (hq : pc + 1 = q) (g : Go p e below Q (T.setTop (mkF m q Ls (v :: st)))) : Go p e below Q (T.setTop (mkF m pc Ls st)) := by
  subst hq; exact Go.of (fun _ r => XS.aloadN h hx rfl hd hl hv r) g
theorem Go.astore (h : At T m c below) (hx : p.tables.exec = Jvm.exec) {pc q : Nat} {Ls : Array Slot} {st : List Value} {k : Nat} {v : Value} {l2 : Array Slot} (hd : decode c.code pc = .ok (.astore k, 2)) (hv : v.isRef = true) (hl : storeLocals Ls k v = some l2) (hq : pc + 2 = q) (g : Go p e below Q (T.setTop (mkF m q l2 st))) : Go p e below Q (T.setTop (mkF m pc Ls (v :: st))) := by
  subst hq; exact Go.of (fun _ r => XS.astore h hx rfl hd rfl hv hl r) g
theorem Go.astoreN (h : At T m c below) (hx : p.tables.exec = Jvm.exec) {pc q : Nat} {Ls : Array Slot} {st : List Value} {k : Fin 4} {v : Value} {l2 : Array Slot} (hd : decode c.code pc = .ok (.astore_n k, 1)) (hv : v.isRef = true) (hl : storeLocals Ls k.val v = some l2) (hq : pc + 1 = q) (g : Go p e below Q (T.setTop (mkF m q l2 st))) : Go p e below Q (T.setTop (mkF m pc Ls (v :: st))) := by
  subst hq; exact Go.of (fun _ r => XS.astoreN h hx rfl hd rfl hv hl r) g
theorem Go.iconst (h : At T m c below) (hx : p.tables.exec = Jvm.exec) {pc q : Nat} {Ls : Array Slot} {st : List Value} {i : Int} {v : Int32} (hd : decode c.code pc = .ok (.iconst i, 1)) (hv : Int32.ofInt i = v) (hq : pc + 1 = q) (g : Go p e below Q (T.setTop (mkF m q Ls (.int v :: st)))) : Go p e below Q (T.setTop (mkF m pc Ls st)) := by
  subst hq hv; exact Go.of (fun _ r => XS.iconst h hx rfl hd r) g
theorem Go.bipush (h : At T m c below) (hx : p.tables.exec = Jvm.exec) {pc q : Nat} {Ls : Array Slot} {st : List Value} {i : Int} {v : Int32} (hd : decode c.code pc = .ok (.bipush i, 2)) (hv : (Int8.ofInt i).toInt32 = v) (hq : pc + 2 = q) (g : Go p e below Q (T.setTop (mkF m q Ls (.int v :: st)))) : Go p e below Q (T.setTop (mkF m pc Ls st)) := by
  subst hq hv; exact Go.of (fun _ r => XS.bipush h hx rfl hd r) g
theorem Go.sipush (h : At T m c below) (hx : p.tables.exec = Jvm.exec) {pc q : Nat} {Ls : Array Slot} {st : List Value} {i : Int} {v : Int32} (hd : decode c.code pc = .ok (.sipush i, 3)) (hv : (Int16.ofInt i).toInt32 = v) (hq : pc + 3 = q) (g : Go p e below Q (T.setTop (mkF m q Ls (.int v :: st)))) : Go p e below Q (T.setTop (mkF m pc Ls st)) := by
  subst hq hv; exact Go.of (fun _ r => XS.sipush h hx rfl hd r) g
theorem Go.lconst (h : At T m c below) (hx : p.tables.exec = Jvm.exec) {pc q : Nat} {Ls : Array Slot} {st : List Value} {k : Fin 2} {v : Int64} (hd : decode c.code pc = .ok (.lconst k, 1)) (hv : Int64.ofNat k = v) (hq : pc + 1 = q) (g : Go p e below Q (T.setTop (mkF m q Ls (.long v :: st)))) : Go p e below Q (T.setTop (mkF m pc Ls st)) := by
  subst hq hv; exact Go.of (fun _ r => XS.lconst h hx rfl hd r) g
theorem Go.aconst (h : At T m c below) (hx : p.tables.exec = Jvm.exec) {pc q : Nat} {Ls : Array Slot} {st : List Value}  (hd : decode c.code pc = .ok (.aconst_null, 1)) (hq : pc + 1 = q) (g : Go p e below Q (T.setTop (mkF m q Ls (.null :: st)))) : Go p e below Q (T.setTop (mkF m pc Ls st)) := by
  subst hq; exact Go.of (fun _ r => XS.aconstNull h hx rfl hd r) g
theorem Go.dconst0 (h : At T m c below) (hx : p.tables.exec = Jvm.exec) {pc q : Nat} {Ls : Array Slot} {st : List Value} {v : UInt64} (hd : decode c.code pc = .ok (.dconst 0, 1)) (hv : FP.dconst0 = v) (hq : pc + 1 = q) (g : Go p e below Q (T.setTop (mkF m q Ls (.double v :: st)))) : Go p e below Q (T.setTop (mkF m pc Ls st)) := by
  subst hq; exact Go.of (fun _ r => XS.dconst0 h hx rfl hd hv r) g
theorem Go.dconst1 (h : At T m c below) (hx : p.tables.exec = Jvm.exec) {pc q : Nat} {Ls : Array Slot} {st : List Value} {v : UInt64} (hd : decode c.code pc = .ok (.dconst 1, 1)) (hv : FP.dconst1 = v) (hq : pc + 1 = q) (g : Go p e below Q (T.setTop (mkF m q Ls (.double v :: st)))) : Go p e below Q (T.setTop (mkF m pc Ls st)) := by
  subst hq; exact Go.of (fun _ r => XS.dconst1 h hx rfl hd hv r) g
theorem Go.fconst0 (h : At T m c below) (hx : p.tables.exec = Jvm.exec) {pc q : Nat} {Ls : Array Slot} {st : List Value} {v : UInt32} (hd : decode c.code pc = .ok (.fconst 0, 1)) (hv : FP.fconst0 = v) (hq : pc + 1 = q) (g : Go p e below Q (T.setTop (mkF m q Ls (.float v :: st)))) : Go p e below Q (T.setTop (mkF m pc Ls st)) := by
  subst hq; exact Go.of (fun _ r => XS.fconst0 h hx rfl hd hv r) g
theorem Go.fconst1 (h : At T m c below) (hx : p.tables.exec = Jvm.exec) {pc q : Nat} {Ls : Array Slot} {st : List Value} {v : UInt32} (hd : decode c.code pc = .ok (.fconst 1, 1)) (hv : FP.fconst1 = v) (hq : pc + 1 = q) (g : Go p e below Q (T.setTop (mkF m q Ls (.float v :: st)))) : Go p e below Q (T.setTop (mkF m pc Ls st)) := by
  subst hq; exact Go.of (fun _ r => XS.fconst1 h hx rfl hd hv r) g
theorem Go.iadd (h : At T m c below) (hx : p.tables.exec = Jvm.exec) {pc q : Nat} {Ls : Array Slot} {st : List Value} {x : Int32} {y : Int32} {v : Int32} (hd : decode c.code pc = .ok (.iadd, 1)) (hv : x + y = v) (hq : pc + 1 = q) (g : Go p e below Q (T.setTop (mkF m q Ls (.int v :: st)))) : Go p e below Q (T.setTop (mkF m pc Ls (.int y :: .int x :: st))) := by
  subst hq hv; exact Go.of (fun _ r => XS.iadd h hx rfl hd rfl r) g
theorem Go.isub (h : At T m c below) (hx : p.tables.exec = Jvm.exec) {pc q : Nat} {Ls : Array Slot} {st : List Value} {x : Int32} {y : Int32} {v : Int32} (hd : decode c.code pc = .ok (.isub, 1)) (hv : x - y = v) (hq : pc + 1 = q) (g : Go p e below Q (T.setTop (mkF m q Ls (.int v :: st)))) : Go p e below Q (T.setTop (mkF m pc Ls (.int y :: .int x :: st))) := by
  subst hq hv; exact Go.of (fun _ r => XS.isub h hx rfl hd rfl r) g
theorem Go.iand (h : At T m c below) (hx : p.tables.exec = Jvm.exec) {pc q : Nat} {Ls : Array Slot} {st : List Value} {x : Int32} {y : Int32} {v : Int32} (hd : decode c.code pc = .ok (.iand, 1)) (hv : x &&& y = v) (hq : pc + 1 = q) (g : Go p e below Q (T.setTop (mkF m q Ls (.int v :: st)))) : Go p e below Q (T.setTop (mkF m pc Ls (.int y :: .int x :: st))) := by
  subst hq hv; exact Go.of (fun _ r => XS.iand h hx rfl hd rfl r) g
theorem Go.imul (h : At T m c below) (hx : p.tables.exec = Jvm.exec) {pc q : Nat} {Ls : Array Slot} {st : List Value} {x : Int32} {y : Int32} {v : Int32} (hd : decode c.code pc = .ok (.imul, 1)) (hv : x * y = v) (hq : pc + 1 = q) (g : Go p e below Q (T.setTop (mkF m q Ls (.int v :: st)))) : Go p e below Q (T.setTop (mkF m pc Ls (.int y :: .int x :: st))) := by
  subst hq hv; exact Go.of (fun _ r => XS.imul h hx rfl hd rfl r) g
theorem Go.ixor (h : At T m c below) (hx : p.tables.exec = Jvm.exec) {pc q : Nat} {Ls : Array Slot} {st : List Value} {x : Int32} {y : Int32} {v : Int32} (hd : decode c.code pc = .ok (.ixor, 1)) (hv : x ^^^ y = v) (hq : pc + 1 = q) (g : Go p e below Q (T.setTop (mkF m q Ls (.int v :: st)))) : Go p e below Q (T.setTop (mkF m pc Ls (.int y :: .int x :: st))) := by
  subst hq hv; exact Go.of (fun _ r => XS.ixor h hx rfl hd rfl r) g
theorem Go.ior (h : At T m c below) (hx : p.tables.exec = Jvm.exec) {pc q : Nat} {Ls : Array Slot} {st : List Value} {x : Int32} {y : Int32} {v : Int32} (hd : decode c.code pc = .ok (.ior, 1)) (hv : x ||| y = v) (hq : pc + 1 = q) (g : Go p e below Q (T.setTop (mkF m q Ls (.int v :: st)))) : Go p e below Q (T.setTop (mkF m pc Ls (.int y :: .int x :: st))) := by
  subst hq hv; exact Go.of (fun _ r => XS.ior h hx rfl hd rfl r) g
theorem Go.ishl (h : At T m c below) (hx : p.tables.exec = Jvm.exec) {pc q : Nat} {Ls : Array Slot} {st : List Value} {x : Int32} {y : Int32} {v : Int32} (hd : decode c.code pc = .ok (.ishl, 1)) (hv : x <<< (y &&& 31) = v) (hq : pc + 1 = q) (g : Go p e below Q (T.setTop (mkF m q Ls (.int v :: st)))) : Go p e below Q (T.setTop (mkF m pc Ls (.int y :: .int x :: st))) := by
  subst hq hv; exact Go.of (fun _ r => XS.ishl h hx rfl hd rfl r) g
theorem Go.ishr (h : At T m c below) (hx : p.tables.exec = Jvm.exec) {pc q : Nat} {Ls : Array Slot} {st : List Value} {x : Int32} {y : Int32} {v : Int32} (hd : decode c.code pc = .ok (.ishr, 1)) (hv : x >>> (y &&& 31) = v) (hq : pc + 1 = q) (g : Go p e below Q (T.setTop (mkF m q Ls (.int v :: st)))) : Go p e below Q (T.setTop (mkF m pc Ls (.int y :: .int x :: st))) := by
  subst hq hv; exact Go.of (fun _ r => XS.ishr h hx rfl hd rfl r) g
theorem Go.iushr (h : At T m c below) (hx : p.tables.exec = Jvm.exec) {pc q : Nat} {Ls : Array Slot} {st : List Value} {x : Int32} {y : Int32} {v : Int32} (hd : decode c.code pc = .ok (.iushr, 1)) (hv : (x.toUInt32 >>> (y &&& 31).toUInt32).toInt32 = v) (hq : pc + 1 = q) (g : Go p e below Q (T.setTop (mkF m q Ls (.int v :: st)))) : Go p e below Q (T.setTop (mkF m pc Ls (.int y :: .int x :: st))) := by
  subst hq hv; exact Go.of (fun _ r => XS.iushr h hx rfl hd rfl r) g
theorem Go.idiv (h : At T m c below) (hx : p.tables.exec = Jvm.exec) {pc q : Nat} {Ls : Array Slot} {st : List Value} {x : Int32} {y : Int32} {v : Int32} (hd : decode c.code pc = .ok (.idiv, 1)) (hy : y ≠ 0) (hv : x / y = v) (hq : pc + 1 = q) (g : Go p e below Q (T.setTop (mkF m q Ls (.int v :: st)))) : Go p e below Q (T.setTop (mkF m pc Ls (.int y :: .int x :: st))) := by
  subst hq hv; exact Go.of (fun _ r => XS.idiv h hx rfl hd rfl hy r) g
theorem Go.irem (h : At T m c below) (hx : p.tables.exec = Jvm.exec) {pc q : Nat} {Ls : Array Slot} {st : List Value} {x : Int32} {y : Int32} {v : Int32} (hd : decode c.code pc = .ok (.irem, 1)) (hy : y ≠ 0) (hv : x - (x / y) * y = v) (hq : pc + 1 = q) (g : Go p e below Q (T.setTop (mkF m q Ls (.int v :: st)))) : Go p e below Q (T.setTop (mkF m pc Ls (.int y :: .int x :: st))) := by
  subst hq hv; exact Go.of (fun _ r => XS.irem h hx rfl hd rfl hy r) g
theorem Go.ladd (h : At T m c below) (hx : p.tables.exec = Jvm.exec) {pc q : Nat} {Ls : Array Slot} {st : List Value} {x : Int64} {y : Int64} {v : Int64} (hd : decode c.code pc = .ok (.ladd, 1)) (hv : x + y = v) (hq : pc + 1 = q) (g : Go p e below Q (T.setTop (mkF m q Ls (.long v :: st)))) : Go p e below Q (T.setTop (mkF m pc Ls (.long y :: .long x :: st))) := by
  subst hq hv; exact Go.of (fun _ r => XS.ladd h hx rfl hd rfl r) g
theorem Go.lsub (h : At T m c below) (hx : p.tables.exec = Jvm.exec) {pc q : Nat} {Ls : Array Slot} {st : List Value} {x : Int64} {y : Int64} {v : Int64} (hd : decode c.code pc = .ok (.lsub, 1)) (hv : x - y = v) (hq : pc + 1 = q) (g : Go p e below Q (T.setTop (mkF m q Ls (.long v :: st)))) : Go p e below Q (T.setTop (mkF m pc Ls (.long y :: .long x :: st))) := by
  subst hq hv; exact Go.of (fun _ r => XS.lsub h hx rfl hd rfl r) g
theorem Go.lmul (h : At T m c below) (hx : p.tables.exec = Jvm.exec) {pc q : Nat} {Ls : Array Slot} {st : List Value} {x : Int64} {y : Int64} {v : Int64} (hd : decode c.code pc = .ok (.lmul, 1)) (hv : x * y = v) (hq : pc + 1 = q) (g : Go p e below Q (T.setTop (mkF m q Ls (.long v :: st)))) : Go p e below Q (T.setTop (mkF m pc Ls (.long y :: .long x :: st))) := by
  subst hq hv; exact Go.of (fun _ r => XS.lmul h hx rfl hd rfl r) g
theorem Go.land (h : At T m c below) (hx : p.tables.exec = Jvm.exec) {pc q : Nat} {Ls : Array Slot} {st : List Value} {x : Int64} {y : Int64} {v : Int64} (hd : decode c.code pc = .ok (.land, 1)) (hv : x &&& y = v) (hq : pc + 1 = q) (g : Go p e below Q (T.setTop (mkF m q Ls (.long v :: st)))) : Go p e below Q (T.setTop (mkF m pc Ls (.long y :: .long x :: st))) := by
  subst hq hv; exact Go.of (fun _ r => XS.land h hx rfl hd rfl r) g
theorem Go.lor (h : At T m c below) (hx : p.tables.exec = Jvm.exec) {pc q : Nat} {Ls : Array Slot} {st : List Value} {x : Int64} {y : Int64} {v : Int64} (hd : decode c.code pc = .ok (.lor, 1)) (hv : x ||| y = v) (hq : pc + 1 = q) (g : Go p e below Q (T.setTop (mkF m q Ls (.long v :: st)))) : Go p e below Q (T.setTop (mkF m pc Ls (.long y :: .long x :: st))) := by
  subst hq hv; exact Go.of (fun _ r => XS.lor h hx rfl hd rfl r) g
theorem Go.lxor (h : At T m c below) (hx : p.tables.exec = Jvm.exec) {pc q : Nat} {Ls : Array Slot} {st : List Value} {x : Int64} {y : Int64} {v : Int64} (hd : decode c.code pc = .ok (.lxor, 1)) (hv : x ^^^ y = v) (hq : pc + 1 = q) (g : Go p e below Q (T.setTop (mkF m q Ls (.long v :: st)))) : Go p e below Q (T.setTop (mkF m pc Ls (.long y :: .long x :: st))) := by
  subst hq hv; exact Go.of (fun _ r => XS.lxor h hx rfl hd rfl r) g
theorem Go.lshl (h : At T m c below) (hx : p.tables.exec = Jvm.exec) {pc q : Nat} {Ls : Array Slot} {st : List Value} {x : Int64} {y : Int32} {v : Int64} (hd : decode c.code pc = .ok (.lshl, 1)) (hv : x <<< (y &&& 0x3f).toInt64 = v) (hq : pc + 1 = q) (g : Go p e below Q (T.setTop (mkF m q Ls (.long v :: st)))) : Go p e below Q (T.setTop (mkF m pc Ls (.int y :: .long x :: st))) := by
  subst hq hv; exact Go.of (fun _ r => XS.lshl h hx rfl hd rfl r) g
theorem Go.lshr (h : At T m c below) (hx : p.tables.exec = Jvm.exec) {pc q : Nat} {Ls : Array Slot} {st : List Value} {x : Int64} {y : Int32} {v : Int64} (hd : decode c.code pc = .ok (.lshr, 1)) (hv : x >>> (y &&& 0x3f).toInt64 = v) (hq : pc + 1 = q) (g : Go p e below Q (T.setTop (mkF m q Ls (.long v :: st)))) : Go p e below Q (T.setTop (mkF m pc Ls (.int y :: .long x :: st))) := by
  subst hq hv; exact Go.of (fun _ r => XS.lshr h hx rfl hd rfl r) g
theorem Go.lushr (h : At T m c below) (hx : p.tables.exec = Jvm.exec) {pc q : Nat} {Ls : Array Slot} {st : List Value} {x : Int64} {y : Int32} {v : Int64} (hd : decode c.code pc = .ok (.lushr, 1)) (hv : (x.toUInt64 >>> (y &&& 0x3f).toInt64.toUInt64).toInt64 = v) (hq : pc + 1 = q) (g : Go p e below Q (T.setTop (mkF m q Ls (.long v :: st)))) : Go p e below Q (T.setTop (mkF m pc Ls (.int y :: .long x :: st))) := by
  subst hq hv; exact Go.of (fun _ r => XS.lushr h hx rfl hd rfl r) g
theorem Go.ldiv (h : At T m c below) (hx : p.tables.exec = Jvm.exec) {pc q : Nat} {Ls : Array Slot} {st : List Value} {x : Int64} {y : Int64} {v : Int64} (hd : decode c.code pc = .ok (.ldiv, 1)) (hy : y ≠ 0) (hv : x / y = v) (hq : pc + 1 = q) (g : Go p e below Q (T.setTop (mkF m q Ls (.long v :: st)))) : Go p e below Q (T.setTop (mkF m pc Ls (.long y :: .long x :: st))) := by
  subst hq hv; exact Go.of (fun _ r => XS.ldiv h hx rfl hd rfl hy r) g
theorem Go.lrem (h : At T m c below) (hx : p.tables.exec = Jvm.exec) {pc q : Nat} {Ls : Array Slot} {st : List Value} {x : Int64} {y : Int64} {v : Int64} (hd : decode c.code pc = .ok (.lrem, 1)) (hy : y ≠ 0) (hv : x - (x / y) * y = v) (hq : pc + 1 = q) (g : Go p e below Q (T.setTop (mkF m q Ls (.long v :: st)))) : Go p e below Q (T.setTop (mkF m pc Ls (.long y :: .long x :: st))) := by
  subst hq hv; exact Go.of (fun _ r => XS.lrem h hx rfl hd rfl hy r) g
theorem Go.lcmp (h : At T m c below) (hx : p.tables.exec = Jvm.exec) {pc q : Nat} {Ls : Array Slot} {st : List Value} {x : Int64} {y : Int64} {v : Int32} (hd : decode c.code pc = .ok (.lcmp, 1)) (hv : lcmpW x y = v) (hq : pc + 1 = q) (g : Go p e below Q (T.setTop (mkF m q Ls (.int v :: st)))) : Go p e below Q (T.setTop (mkF m pc Ls (.long y :: .long x :: st))) := by
  subst hq hv; exact Go.of (fun _ r => XS.lcmp h hx rfl hd rfl r) g
theorem Go.ineg (h : At T m c below) (hx : p.tables.exec = Jvm.exec) {pc q : Nat} {Ls : Array Slot} {st : List Value} {x : Int32} {v : Int32} (hd : decode c.code pc = .ok (.ineg, 1)) (hv : -x = v) (hq : pc + 1 = q) (g : Go p e below Q (T.setTop (mkF m q Ls (.int v :: st)))) : Go p e below Q (T.setTop (mkF m pc Ls (.int x :: st))) := by
  subst hq hv; exact Go.of (fun _ r => XS.ineg h hx rfl hd rfl r) g
theorem Go.lneg (h : At T m c below) (hx : p.tables.exec = Jvm.exec) {pc q : Nat} {Ls : Array Slot} {st : List Value} {x : Int64} {v : Int64} (hd : decode c.code pc = .ok (.lneg, 1)) (hv : -x = v) (hq : pc + 1 = q) (g : Go p e below Q (T.setTop (mkF m q Ls (.long v :: st)))) : Go p e below Q (T.setTop (mkF m pc Ls (.long x :: st))) := by
  subst hq hv; exact Go.of (fun _ r => XS.lneg h hx rfl hd rfl r) g
theorem Go.i2l (h : At T m c below) (hx : p.tables.exec = Jvm.exec) {pc q : Nat} {Ls : Array Slot} {st : List Value} {x : Int32} {v : Int64} (hd : decode c.code pc = .ok (.i2l, 1)) (hv : x.toInt64 = v) (hq : pc + 1 = q) (g : Go p e below Q (T.setTop (mkF m q Ls (.long v :: st)))) : Go p e below Q (T.setTop (mkF m pc Ls (.int x :: st))) := by
  subst hq hv; exact Go.of (fun _ r => XS.i2l h hx rfl hd rfl r) g
theorem Go.l2i (h : At T m c below) (hx : p.tables.exec = Jvm.exec) {pc q : Nat} {Ls : Array Slot} {st : List Value} {x : Int64} {v : Int32} (hd : decode c.code pc = .ok (.l2i, 1)) (hv : x.toInt32 = v) (hq : pc + 1 = q) (g : Go p e below Q (T.setTop (mkF m q Ls (.int v :: st)))) : Go p e below Q (T.setTop (mkF m pc Ls (.long x :: st))) := by
  subst hq hv; exact Go.of (fun _ r => XS.l2i h hx rfl hd rfl r) g
theorem Go.i2d (h : At T m c below) (hx : p.tables.exec = Jvm.exec) {pc q : Nat} {Ls : Array Slot} {st : List Value} {x : Int32} {v : UInt64} (hd : decode c.code pc = .ok (.i2d, 1)) (hv : FP.i2d x = v) (hq : pc + 1 = q) (g : Go p e below Q (T.setTop (mkF m q Ls (.double v :: st)))) : Go p e below Q (T.setTop (mkF m pc Ls (.int x :: st))) := by
  subst hq; exact Go.of (fun _ r => XS.i2dS h hx rfl hd rfl hv r) g
theorem Go.l2d (h : At T m c below) (hx : p.tables.exec = Jvm.exec) {pc q : Nat} {Ls : Array Slot} {st : List Value} {x : Int64} {v : UInt64} (hd : decode c.code pc = .ok (.l2d, 1)) (hv : FP.l2d x = v) (hq : pc + 1 = q) (g : Go p e below Q (T.setTop (mkF m q Ls (.double v :: st)))) : Go p e below Q (T.setTop (mkF m pc Ls (.long x :: st))) := by
  subst hq; exact Go.of (fun _ r => XS.l2dS h hx rfl hd rfl hv r) g
theorem Go.d2i (h : At T m c below) (hx : p.tables.exec = Jvm.exec) {pc q : Nat} {Ls : Array Slot} {st : List Value} {x : UInt64} {v : Int32} (hd : decode c.code pc = .ok (.d2i, 1)) (hv : FP.d2i x = v) (hq : pc + 1 = q) (g : Go p e below Q (T.setTop (mkF m q Ls (.int v :: st)))) : Go p e below Q (T.setTop (mkF m pc Ls (.double x :: st))) := by
  subst hq; exact Go.of (fun _ r => XS.d2iS h hx rfl hd rfl hv r) g
theorem Go.d2l (h : At T m c below) (hx : p.tables.exec = Jvm.exec) {pc q : Nat} {Ls : Array Slot} {st : List Value} {x : UInt64} {v : Int64} (hd : decode c.code pc = .ok (.d2l, 1)) (hv : FP.d2l x = v) (hq : pc + 1 = q) (g : Go p e below Q (T.setTop (mkF m q Ls (.long v :: st)))) : Go p e below Q (T.setTop (mkF m pc Ls (.double x :: st))) := by
  subst hq; exact Go.of (fun _ r => XS.d2lS h hx rfl hd rfl hv r) g
theorem Go.dneg (h : At T m c below) (hx : p.tables.exec = Jvm.exec) {pc q : Nat} {Ls : Array Slot} {st : List Value} {x : UInt64} {v : UInt64} (hd : decode c.code pc = .ok (.dneg, 1)) (hv : FP.dneg x = v) (hq : pc + 1 = q) (g : Go p e below Q (T.setTop (mkF m q Ls (.double v :: st)))) : Go p e below Q (T.setTop (mkF m pc Ls (.double x :: st))) := by
  subst hq; exact Go.of (fun _ r => XS.dnegS h hx rfl hd rfl hv r) g
theorem Go.i2f (h : At T m c below) (hx : p.tables.exec = Jvm.exec) {pc q : Nat} {Ls : Array Slot} {st : List Value} {x : Int32} {v : UInt32} (hd : decode c.code pc = .ok (.i2f, 1)) (hv : FP.i2f x = v) (hq : pc + 1 = q) (g : Go p e below Q (T.setTop (mkF m q Ls (.float v :: st)))) : Go p e below Q (T.setTop (mkF m pc Ls (.int x :: st))) := by
  subst hq; exact Go.of (fun _ r => XS.i2fS h hx rfl hd rfl hv r) g
theorem Go.l2f (h : At T m c below) (hx : p.tables.exec = Jvm.exec) {pc q : Nat} {Ls : Array Slot} {st : List Value} {x : Int64} {v : UInt32} (hd : decode c.code pc = .ok (.l2f, 1)) (hv : FP.l2f x = v) (hq : pc + 1 = q) (g : Go p e below Q (T.setTop (mkF m q Ls (.float v :: st)))) : Go p e below Q (T.setTop (mkF m pc Ls (.long x :: st))) := by
  subst hq; exact Go.of (fun _ r => XS.l2fS h hx rfl hd rfl hv r) g
theorem Go.dadd (h : At T m c below) (hx : p.tables.exec = Jvm.exec) {pc q : Nat} {Ls : Array Slot} {st : List Value} {x y v : UInt64} (hd : decode c.code pc = .ok (.dadd, 1)) (hn : NoNaN64 (FP.dadd x y)) (hv : FP.dadd x y = v) (hq : pc + 1 = q) (g : Go p e below Q (T.setTop (mkF m q Ls (.double v :: st)))) : Go p e below Q (T.setTop (mkF m pc Ls (.double y :: .double x :: st))) := by
  subst hq; exact Go.of (fun _ r => XS.daddS h hx rfl hd rfl hn hv r) g
theorem Go.dsub (h : At T m c below) (hx : p.tables.exec = Jvm.exec) {pc q : Nat} {Ls : Array Slot} {st : List Value} {x y v : UInt64} (hd : decode c.code pc = .ok (.dsub, 1)) (hn : NoNaN64 (FP.dsub x y)) (hv : FP.dsub x y = v) (hq : pc + 1 = q) (g : Go p e below Q (T.setTop (mkF m q Ls (.double v :: st)))) : Go p e below Q (T.setTop (mkF m pc Ls (.double y :: .double x :: st))) := by
  subst hq; exact Go.of (fun _ r => XS.dsubS h hx rfl hd rfl hn hv r) g
theorem Go.dmul (h : At T m c below) (hx : p.tables.exec = Jvm.exec) {pc q : Nat} {Ls : Array Slot} {st : List Value} {x y v : UInt64} (hd : decode c.code pc = .ok (.dmul, 1)) (hn : NoNaN64 (FP.dmul x y)) (hv : FP.dmul x y = v) (hq : pc + 1 = q) (g : Go p e below Q (T.setTop (mkF m q Ls (.double v :: st)))) : Go p e below Q (T.setTop (mkF m pc Ls (.double y :: .double x :: st))) := by
  subst hq; exact Go.of (fun _ r => XS.dmulS h hx rfl hd rfl hn hv r) g
theorem Go.ddiv (h : At T m c below) (hx : p.tables.exec = Jvm.exec) {pc q : Nat} {Ls : Array Slot} {st : List Value} {x y v : UInt64} (hd : decode c.code pc = .ok (.ddiv, 1)) (hn : NoNaN64 (FP.ddiv x y)) (hv : FP.ddiv x y = v) (hq : pc + 1 = q) (g : Go p e below Q (T.setTop (mkF m q Ls (.double v :: st)))) : Go p e below Q (T.setTop (mkF m pc Ls (.double y :: .double x :: st))) := by
  subst hq; exact Go.of (fun _ r => XS.ddivS h hx rfl hd rfl hn hv r) g
theorem Go.dcmp (h : At T m c below) (hx : p.tables.exec = Jvm.exec) {pc q : Nat} {Ls : Array Slot} {st : List Value} {o : CmpOp} {x y : UInt64} {v : Int32} (hd : decode c.code pc = .ok (.dcmp o, 1)) (hv : cmpValue (FP.dcmp x y) o = v) (hq : pc + 1 = q) (g : Go p e below Q (T.setTop (mkF m q Ls (.int v :: st)))) : Go p e below Q (T.setTop (mkF m pc Ls (.double y :: .double x :: st))) := by
  subst hq; exact Go.of (fun _ r => XS.dcmpS h hx rfl hd rfl hv r) g
theorem Go.fcmp (h : At T m c below) (hx : p.tables.exec = Jvm.exec) {pc q : Nat} {Ls : Array Slot} {st : List Value} {o : CmpOp} {x y : UInt32} {v : Int32} (hd : decode c.code pc = .ok (.fcmp o, 1)) (hv : cmpValue (FP.fcmp x y) o = v) (hq : pc + 1 = q) (g : Go p e below Q (T.setTop (mkF m q Ls (.int v :: st)))) : Go p e below Q (T.setTop (mkF m pc Ls (.float y :: .float x :: st))) := by
  subst hq; exact Go.of (fun _ r => XS.fcmpS h hx rfl hd rfl hv r) g
theorem Go.dup (h : At T m c below) (hx : p.tables.exec = Jvm.exec) {pc q : Nat} {Ls : Array Slot} {st : List Value} {v : Value} (hd : decode c.code pc = .ok (.dup, 1)) (hc : v.category = 1) (hq : pc + 1 = q) (g : Go p e below Q (T.setTop (mkF m q Ls (v :: v :: st)))) : Go p e below Q (T.setTop (mkF m pc Ls (v :: st))) := by
  subst hq; exact Go.of (fun _ r => XS.dup h hx rfl hd rfl hc r) g
theorem Go.dup2 (h : At T m c below) (hx : p.tables.exec = Jvm.exec) {pc q : Nat} {Ls : Array Slot} {st : List Value} {v w : Value} (hd : decode c.code pc = .ok (.dup2, 1)) (hc : v.category = 1) (hc2 : w.category = 1) (hq : pc + 1 = q) (g : Go p e below Q (T.setTop (mkF m q Ls (v :: w :: v :: w :: st)))) : Go p e below Q (T.setTop (mkF m pc Ls (v :: w :: st))) := by
  subst hq; exact Go.of (fun _ r => Jvm.Free.XT.dup2 h hx rfl hd rfl hc hc2 r) g
theorem Go.pop (h : At T m c below) (hx : p.tables.exec = Jvm.exec) {pc q : Nat} {Ls : Array Slot} {st : List Value} {v : Value} (hd : decode c.code pc = .ok (.pop, 1)) (hc : v.category = 1) (hq : pc + 1 = q) (g : Go p e below Q (T.setTop (mkF m q Ls st))) : Go p e below Q (T.setTop (mkF m pc Ls (v :: st))) := by
  subst hq; exact Go.of (fun _ r => XS.pop h hx rfl hd rfl hc r) g
theorem step_dup2x1 {tb : Tables} [Ours tb] {target : State} {g : JFrame} (h : At T m c below) (hx : tb.exec = Jvm.exec) (hg : g.method = m) {x : Int64} {b : Value} {rest : List Value} (hd : decode c.code g.pc = .ok (.dup2_x1, 1)) (hs : g.stack = .long x :: b :: rest) (hb : b.category = 1)
    (hr : Steps tb e below (T.setTop { g with pc := g.pc + 1, stack := .long x :: b :: .long x :: rest }) target) : Steps tb e below (T.setTop g) target := by
  subst hg
  jvm_step h [h.top, hx, hd, hs, hb, Value.category]
  exact ⟨hb, hr⟩
theorem Go.dup2x1 (h : At T m c below) (hx : p.tables.exec = Jvm.exec) {pc q : Nat} {Ls : Array Slot} {st : List Value} {x : Int64} {b : Value} (hd : decode c.code pc = .ok (.dup2_x1, 1)) (hb : b.category = 1) (hq : pc + 1 = q) (g : Go p e below Q (T.setTop (mkF m q Ls (.long x :: b :: .long x :: st)))) : Go p e below Q (T.setTop (mkF m pc Ls (.long x :: b :: st))) := by
  subst hq; exact Go.of (fun _ r => step_dup2x1 h hx rfl hd rfl hb r) g
theorem Go.iinc (h : At T m c below) (hx : p.tables.exec = Jvm.exec) {pc q : Nat} {Ls : Array Slot} {st : List Value} {k : Nat} {cst : Int} {x v : Int32} {l2 : Array Slot} (hd : decode c.code pc = .ok (.iinc k cst, 3)) (hl : Ls[k]? = some (.val (.int x))) (hv : x + Int32.ofInt cst = v) (hl2 : storeLocals Ls k (.int v) = some l2) (hq : pc + 3 = q) (g : Go p e below Q (T.setTop (mkF m q l2 st))) : Go p e below Q (T.setTop (mkF m pc Ls st)) := by
  subst hq hv; exact Go.of (fun _ r => XS.iinc h hx rfl hd hl hl2 r) g
theorem Go.goto (h : At T m c below) (hx : p.tables.exec = Jvm.exec) {pc q : Nat} {Ls : Array Slot} {st : List Value} {o : Int} (hd : decode c.code pc = .ok (.goto o, 3)) (ho : 0 ≤ (pc : Int) + o) (hq : ((pc : Int) + o).toNat = q) (g : Go p e below Q (T.setTop (mkF m q Ls st))) : Go p e below Q (T.setTop (mkF m pc Ls st)) := Go.of (fun _ r => XS.goto h hx rfl rfl hd ho hq r) g
theorem Go.ifY (h : At T m c below) (hx : p.tables.exec = Jvm.exec) {pc q : Nat} {Ls : Array Slot} {st : List Value} {cd : ClassFile.Cond} {x : Int32} {o : Int} (hd : decode c.code pc = .ok (.ifCond cd o, 3)) (hc : ifCond.holds cd x = true) (ho : 0 ≤ (pc : Int) + o) (hq : ((pc : Int) + o).toNat = q) (g : Go p e below Q (T.setTop (mkF m q Ls st))) : Go p e below Q (T.setTop (mkF m pc Ls (.int x :: st))) := Go.of (fun _ r => XS.ifYes h hx rfl rfl hd rfl hc ho hq r) g
theorem Go.ifN (h : At T m c below) (hx : p.tables.exec = Jvm.exec) {pc q : Nat} {Ls : Array Slot} {st : List Value} {cd : ClassFile.Cond} {x : Int32} {o : Int} (hd : decode c.code pc = .ok (.ifCond cd o, 3)) (hc : ifCond.holds cd x = false) (hq : pc + 3 = q) (g : Go p e below Q (T.setTop (mkF m q Ls st))) : Go p e below Q (T.setTop (mkF m pc Ls (.int x :: st))) := by
  subst hq; exact Go.of (fun _ r => XS.ifNo h hx rfl hd rfl hc r) g
theorem Go.icmpY (h : At T m c below) (hx : p.tables.exec = Jvm.exec) {pc q : Nat} {Ls : Array Slot} {st : List Value} {cd : ClassFile.Cond} {x y : Int32} {o : Int} (hd : decode c.code pc = .ok (.if_icmp cd o, 3)) (hc : if_icmp.holds cd x y = true) (ho : 0 ≤ (pc : Int) + o) (hq : ((pc : Int) + o).toNat = q) (g : Go p e below Q (T.setTop (mkF m q Ls st))) : Go p e below Q (T.setTop (mkF m pc Ls (.int y :: .int x :: st))) := Go.of (fun _ r => XS.icmpYes h hx rfl rfl hd rfl hc ho hq r) g
theorem Go.icmpN (h : At T m c below) (hx : p.tables.exec = Jvm.exec) {pc q : Nat} {Ls : Array Slot} {st : List Value} {cd : ClassFile.Cond} {x y : Int32} {o : Int} (hd : decode c.code pc = .ok (.if_icmp cd o, 3)) (hc : if_icmp.holds cd x y = false) (hq : pc + 3 = q) (g : Go p e below Q (T.setTop (mkF m q Ls st))) : Go p e below Q (T.setTop (mkF m pc Ls (.int y :: .int x :: st))) := by
  subst hq; exact Go.of (fun _ r => XS.icmpNo h hx rfl hd rfl hc r) g
theorem Go.acmpY (h : At T m c below) (hx : p.tables.exec = Jvm.exec) {pc q : Nat} {Ls : Array Slot} {st : List Value} {cd : ClassFile.ACond} {a b : Addr} {o : Int} (hd : decode c.code pc = .ok (.if_acmp cd o, 3)) (hc : if_acmp.holds cd (some a) (some b) = true) (ho : 0 ≤ (pc : Int) + o) (hq : ((pc : Int) + o).toNat = q) (g : Go p e below Q (T.setTop (mkF m q Ls st))) : Go p e below Q (T.setTop (mkF m pc Ls (.ref b :: .ref a :: st))) := Go.of (fun _ r => XS.acmpYes h hx rfl rfl hd rfl hc ho hq r) g
theorem Go.acmpN (h : At T m c below) (hx : p.tables.exec = Jvm.exec) {pc q : Nat} {Ls : Array Slot} {st : List Value} {cd : ClassFile.ACond} {a b : Addr} {o : Int} (hd : decode c.code pc = .ok (.if_acmp cd o, 3)) (hc : if_acmp.holds cd (some a) (some b) = false) (hq : pc + 3 = q) (g : Go p e below Q (T.setTop (mkF m q Ls st))) : Go p e below Q (T.setTop (mkF m pc Ls (.ref b :: .ref a :: st))) := by
  subst hq; exact Go.of (fun _ r => XS.acmpNo h hx rfl hd rfl hc r) g
theorem Go.nullY (h : At T m c below) (hx : p.tables.exec = Jvm.exec) {pc q : Nat} {Ls : Array Slot} {st : List Value} {o : Int} (hd : decode c.code pc = .ok (.ifnull o, 3)) (ho : 0 ≤ (pc : Int) + o) (hq : ((pc : Int) + o).toNat = q) (g : Go p e below Q (T.setTop (mkF m q Ls st))) : Go p e below Q (T.setTop (mkF m pc Ls (.null :: st))) := Go.of (fun _ r => XS.ifnullYes h hx rfl rfl hd rfl ho hq r) g
theorem Go.nullN (h : At T m c below) (hx : p.tables.exec = Jvm.exec) {pc q : Nat} {Ls : Array Slot} {st : List Value} {o : Int} {b : Addr} (hd : decode c.code pc = .ok (.ifnull o, 3)) (hq : pc + 3 = q) (g : Go p e below Q (T.setTop (mkF m q Ls st))) : Go p e below Q (T.setTop (mkF m pc Ls (.ref b :: st))) := by
  subst hq; exact Go.of (fun _ r => XS.ifnullNo h hx rfl hd rfl r) g
theorem Go.nonnullY (h : At T m c below) (hx : p.tables.exec = Jvm.exec) {pc q : Nat} {Ls : Array Slot} {st : List Value} {o : Int} {b : Addr} (hd : decode c.code pc = .ok (.ifnonnull o, 3)) (ho : 0 ≤ (pc : Int) + o) (hq : ((pc : Int) + o).toNat = q) (g : Go p e below Q (T.setTop (mkF m q Ls st))) : Go p e below Q (T.setTop (mkF m pc Ls (.ref b :: st))) := Go.of (fun _ r => XS.ifnonnullYes h hx rfl rfl hd rfl ho hq r) g
theorem Go.nonnullN (h : At T m c below) (hx : p.tables.exec = Jvm.exec) {pc q : Nat} {Ls : Array Slot} {st : List Value} {o : Int} (hd : decode c.code pc = .ok (.ifnonnull o, 3)) (hq : pc + 3 = q) (g : Go p e below Q (T.setTop (mkF m q Ls st))) : Go p e below Q (T.setTop (mkF m pc Ls (.null :: st))) := by
  subst hq; exact Go.of (fun _ r => XS.ifnonnullNo h hx rfl hd rfl r) g
theorem Go.ldcI (X : Stand p l e R s m args below meth c T locs cells slots) (hx : p.tables.exec = Jvm.exec) {own : String} {index : Nat} {v : Int32} (hown : s.vm.findClass own = some m.cls) (w : (Jvm.Cond.constant own index v).before args s = true) {pc q : Nat} {Ls : Array Slot} {st : List Value} (hd : decode c.code pc = .ok (.ldc index, 2)) (hq : pc + 2 = q) (g : Go p e below Q (T.setTop (mkF m q Ls (.int v :: st)))) : Go p e below Q (T.setTop (mkF m pc Ls st)) := by
  subst hq; exact Go.of (fun _ r => X.ldcInt hx hown w (g := mkF m pc Ls st) rfl hd _ r) g
theorem Go.ldc2J (X : Stand p l e R s m args below meth c T locs cells slots) (hx : p.tables.exec = Jvm.exec) {own : String} {index : Nat} {v : Int64} (hown : s.vm.findClass own = some m.cls) (w : (Jvm.Cond.constantLong own index v).before args s = true) {pc q : Nat} {Ls : Array Slot} {st : List Value} (hd : decode c.code pc = .ok (.ldc2_w index, 3)) (hq : pc + 3 = q) (g : Go p e below Q (T.setTop (mkF m q Ls (.long v :: st)))) : Go p e below Q (T.setTop (mkF m pc Ls st)) := by
  subst hq; exact Go.of (fun _ r => X.ldc2Long hx hown w (g := mkF m pc Ls st) rfl hd _ r) g
theorem Go.ldc2D (X : Stand p l e R s m args below meth c T locs cells slots) (hx : p.tables.exec = Jvm.exec) {own : String} {index : Nat} {v : UInt64} (hown : s.vm.findClass own = some m.cls) (w : (Jvm.Cond.constantDouble own index v).before args s = true) {pc q : Nat} {Ls : Array Slot} {st : List Value} (hd : decode c.code pc = .ok (.ldc2_w index, 3)) (hq : pc + 3 = q) (g : Go p e below Q (T.setTop (mkF m q Ls (.double v :: st)))) : Go p e below Q (T.setTop (mkF m pc Ls st)) := by
  subst hq; exact Go.of (fun _ r => X.ldc2DoubleC hx hown w (g := mkF m pc Ls st) rfl hd _ r) g
theorem Go.ldcF (X : Stand p l e R s m args below meth c T locs cells slots) (hx : p.tables.exec = Jvm.exec) {own : String} {index : Nat} {v : UInt32} (hown : s.vm.findClass own = some m.cls) (w : (Jvm.Cond.constantFloat own index v).before args s = true) {pc q : Nat} {Ls : Array Slot} {st : List Value} (hd : decode c.code pc = .ok (.ldc index, 2)) (hq : pc + 2 = q) (g : Go p e below Q (T.setTop (mkF m q Ls (.float v :: st)))) : Go p e below Q (T.setTop (mkF m pc Ls st)) := by
  subst hq; exact Go.of (fun _ r => X.ldcFloatC hx hown w (g := mkF m pc Ls st) rfl hd _ r) g
end OwnGo

/-! own layer 3: steps that touch the heap, and calls by contract, in the same forward form -/
section OwnHeap
variable {p : Program} {l : Launch} {e : Env} {R : Room} {s : State} {m : MethodId} {args : Array Value} {below : List Frame} {meth : Method} {c : Code} {T : State} {locs : List Loc} {cells slots : Nat} {Q : Outcome → State → Prop} {Z : State} {a0 : Array Value} {h : Heap}
/-- a callee's contract at one call -/
abbrev Con (l : Launch) (Z : State) (y : MethodName) (bytes : ByteArray) (maxL : Nat) (ret : Option FieldType) (rm : Room) (as' : Array Value) (h : Heap) (Qv : Option Value → Heap → List Loc → Prop) : Prop :=
  MetFree l y (head1 [Jvm.Cond.code y bytes maxL ret] rm) (fun a U => a = as' ∧ Z.Warmed39 U.vm ∧ U.heap = h) (fun _ _ _ _ _ => True) (fun _ U o U' => ∃ v L, o = .returned v ∧ Qv v U'.heap L ∧ FrameEnd U o U' L rm.cells rm.slots)
theorem Go.new (X : Stand p l e R s m args below meth c T locs cells slots) (hx : p.tables.exec = Jvm.exec) (hZ : Z.Warmed39 s.vm) {own C : String} {index n : Nat} (hown : s.vm.findClass own = some m.cls) (w : (Jvm.Cond.classLink own index C).before a0 Z = true) (wi : (Jvm.Cond.instantiable C n).before a0 Z = true) (wz : (Jvm.Cond.initialized C).before a0 Z = true) (eT : T.heap = h)
    {pc q : Nat} {Ls : Array Slot} {st : List Value} (hd : decode c.code pc = .ok (.new index, 3)) (hc : cells + 1 ≤ R.cells) (hl : slots + n ≤ R.slots) (hq : pc + 3 = q)
    (k : ∀ (T' : State) (h' : Heap) (a : Addr), a = h.size → Stand p l e R s m args below meth c T' locs (cells + 1) (slots + n) → T'.heap = h' → Ext h h' → Exa Z h' a C → (∀ {O nm d : String} {ty : FieldType}, Laid Z a0 C O nm d → parseFieldDescriptor d = some ty → Fld Z h' a O nm d (defaultValue ty)) →
      Go p e below Q (T'.setTop (mkF m q Ls (.ref a :: st)))) : Go p e below Q (T.setTop (mkF m pc Ls st)) := by
  subst hq
  obtain ⟨T', h', X', e', E', A', D', -, st'⟩ := newO X hx hZ hown w wi wz eT (g := mkF m pc Ls st) rfl hd hc hl
  exact Go.of st' (k T' h' _ rfl X' e' E' A' D')
theorem Go.getf (X : Stand p l e R s m args below meth c T locs cells slots) (hx : p.tables.exec = Jvm.exec) (hZ : Z.Warmed39 s.vm) {own O n d : String} {index : Nat} (hown : s.vm.findClass own = some m.cls) (w : (Jvm.Cond.fieldLink own index O n d).before a0 Z = true) (eT : T.heap = h) {a : Addr} {v : Value} (F : Fld Z h a O n d v)
    {pc q : Nat} {Ls : Array Slot} {st : List Value} (hd : decode c.code pc = .ok (.getfield index, 3)) (hq : pc + 3 = q)
    (k : ∀ T' : State, Stand p l e R s m args below meth c T' locs cells slots → T'.heap = h → Go p e below Q (T'.setTop (mkF m q Ls (v :: st)))) : Go p e below Q (T.setTop (mkF m pc Ls (.ref a :: st))) := by
  subst hq
  obtain ⟨T', X', e', st'⟩ := getF X hx hZ hown (host := "") (Or.inl w) Via.refl eT F (g := mkF m pc Ls (.ref a :: st)) rfl rfl hd
  exact Go.of st' (k T' X' e')
theorem Go.gets (X : Stand p l e R s m args below meth c T locs cells slots) (hx : p.tables.exec = Jvm.exec) (hZ : Z.Warmed39 s.vm) {own O n d : String} {index : Nat} (hown : s.vm.findClass own = some m.cls) (w : (Jvm.Cond.fieldLink own index O n d).before a0 Z = true) (eT : T.heap = h) {v : Value} (F : Sta Z h O n d v)
    {pc q : Nat} {Ls : Array Slot} {st : List Value} (hd : decode c.code pc = .ok (.getstatic index, 3)) (hq : pc + 3 = q)
    (k : ∀ T' : State, Stand p l e R s m args below meth c T' locs cells slots → T'.heap = h → Go p e below Q (T'.setTop (mkF m q Ls (v :: st)))) : Go p e below Q (T.setTop (mkF m pc Ls st)) := by
  subst hq
  obtain ⟨T', X', e', st'⟩ := getS X hx hZ hown (host := "") w Via.refl eT F (g := mkF m pc Ls st) rfl hd
  exact Go.of st' (k T' X' e')
theorem Go.putf (X : Stand p l e R s m args below meth c T locs cells slots) (hx : p.tables.exec = Jvm.exec) (hZ : Z.Warmed39 s.vm) {own O n d C : String} {index kk : Nat} {ty : FieldType} (hown : s.vm.findClass own = some m.cls) (w : (Jvm.Cond.fieldLink own index O n d).before a0 Z = true) (eT : T.heap = h) {a : Addr} {v old : Value} (F : Fld Z h a O n d old) (E : Exa Z h a C)
    (L : (Jvm.Cond.lays C O n d).before a0 Z = true ∨ ((Jvm.Cond.laysFinal C O n d).before a0 Z = true ∧ own = O ∧ meth.name = "<init>")) (wi : (Jvm.Cond.instantiable C kk).before a0 Z = true) (hty : parseFieldDescriptor d = some ty) (hn : narrow ty v = v) (hf : fits ty v = true)
    {pc q : Nat} {Ls : Array Slot} {st : List Value} (hd : decode c.code pc = .ok (.putfield index, 3)) (hq : pc + 3 = q)
    (k : ∀ (T' : State) (h' : Heap), Stand p l e R s m args below meth c T' (locs ++ [⟨a, Jvm.RoadKit.slotOf Z O n d⟩]) cells slots → T'.heap = h' → Wr h h' a (Jvm.RoadKit.slotOf Z O n d) v → Go p e below Q (T'.setTop (mkF m q Ls st))) : Go p e below Q (T.setTop (mkF m pc Ls (v :: .ref a :: st))) := by
  subst hq
  obtain ⟨T', h', X', e', W', st'⟩ := putF X hx hZ hown (host := "") (Or.inl w) Via.refl eT F E L wi hty hn hf (g := mkF m pc Ls (v :: .ref a :: st)) rfl rfl hd
  exact Go.of st' (k T' h' X' e' W')
theorem Go.init (X : Stand p l e R s m args below meth c T locs cells slots) (hx : p.tables.exec = Jvm.exec) (hZ : Z.Warmed39 s.vm) {own : String} {index : Nat} (hown : s.vm.findClass own = some m.cls) (w1 : (Jvm.Cond.methodLink own index Lib.objectInit).before a0 Z = true) (w2 : (Jvm.Cond.instanceMethod Lib.objectInit).before a0 Z = true) (w3 : (Jvm.Cond.code Lib.objectInit ⟨#[0xb1]⟩ 1 none).before a0 Z = true) (eT : T.heap = h)
    {pc q : Nat} {Ls : Array Slot} {st : List Value} {a : Addr} {W : Nat} (hd : decode c.code pc = .ok (.invokespecial index, 3)) (hsz : Ls.size = c.maxLocals) (hf : 1 ≤ R.frames) (hW : (st.map fun v => v.category).sum ≤ W) (hl : W + 12 ≤ R.locals) (hq : pc + 3 = q)
    (k : ∀ T' : State, Stand p l e R s m args below meth c T' locs cells slots → T'.heap = h → Go p e below Q (T'.setTop (mkF m q Ls st))) : Go p e below Q (T.setTop (mkF m pc Ls (.ref a :: st))) := by
  subst hq
  obtain ⟨T', X', e', st'⟩ := initO X hx hZ hown w1 w2 w3 eT (g := mkF m pc Ls (.ref a :: st)) rfl hsz rfl hd hf (W := W) (by show 2 * 0 + _ ≤ _; omega) hl
  exact Go.of st' (k T' X' e')
theorem Go.special (X : Stand p l e R s m args below meth c T locs cells slots) (hx : p.tables.exec = Jvm.exec) (hZ : Z.Warmed39 s.vm) {own : String} {index : Nat} {y : MethodName} (hy1 : y.name = "<init>") (hown : s.vm.findClass own = some m.cls) (w1 : (Jvm.Cond.methodLink own index y).before a0 Z = true) (w2 : (Jvm.Cond.instanceMethod y).before a0 Z = true)
    {bytes : ByteArray} {maxL : Nat} (w3 : (Jvm.Cond.code y bytes maxL none).before a0 Z = true) (wz : (Jvm.Cond.initialized y.cls).before a0 Z = true) (hy : y.cls ≠ "java/lang/invoke/MethodHandle" ∧ y.cls ≠ "java/lang/invoke/VarHandle")
    {rm : Room} {as' : Array Value} {Qv : Option Value → Heap → List Loc → Prop} (hM : Con l Z y bytes maxL none rm as' h Qv) (eT : T.heap = h) {pc q : Nat} {Ls : Array Slot} {st : List Value} {a : Addr} {argsL rest : List Value} {W : Nat} (hd : decode c.code pc = .ok (.invokespecial index, 3))
    (hst : st = argsL.reverse ++ .ref a :: rest) (has : as' = (.ref a :: argsL).toArray) (hlen : ∀ sig, parseMethodDescriptor y.desc = some sig → argsL.length = sig.parameters.length) (hsz : Ls.size = c.maxLocals) (hW : (rest.map fun v => v.category).sum ≤ W)
    (hf : rm.frames + 1 ≤ R.frames) (hl : W + (maxL + 11) + rm.locals ≤ R.locals) (hc : cells + rm.cells ≤ R.cells) (hs : slots + rm.slots ≤ R.slots) (hq : pc + 3 = q)
    (k : ∀ (T' : State) (L : List Loc) (v : Option Value), Stand p l e R s m args below meth c T' (locs ++ L) (cells + rm.cells) (slots + rm.slots) → Qv v T'.heap L → Go p e below Q (T'.setTop (mkF m q Ls (v.toList ++ rest)))) : Go p e below Q (T.setTop (mkF m pc Ls st)) := by
  subst hq hst has
  obtain ⟨v, vm₁, ⟨T', L', k', n'⟩, -, X', ⟨Lc, hQ, l1, y1, z1⟩, st'⟩ := X.specialBack hx (y := y) hy1 hown (mvT hZ w1) (mvT hZ w2) (mvT hZ w3) hy (backOf (W := W) hM hZ w3 wz hf hl) (g := mkF m pc Ls (argsL.reverse ++ .ref a :: rest)) rfl hsz (Steps.refl _) (a := a) (argsL := argsL) (rest := rest) hlen rfl (by show 2 * 0 + _ ≤ _; omega) hd (fun _ _ => ⟨rfl, eT, hc, hs⟩)
  dsimp only [Pt.U, Pt.locs, Pt.cells, Pt.slots] at X' l1 y1 z1 st' hQ
  subst l1 y1 z1
  exact Go.tr st' (k T' Lc v X' hQ)
theorem Go.virtual (X : Stand p l e R s m args below meth c T locs cells slots) (hx : p.tables.exec = Jvm.exec) (hZ : Z.Warmed39 s.vm) {own C : String} {index : Nat} {y : MethodName} (hown : s.vm.findClass own = some m.cls) (w1 : (Jvm.Cond.methodLink own index y).before a0 Z = true) (w2 : (Jvm.Cond.declares y).before a0 Z = true) (w3 : (Jvm.Cond.selects C y y).before a0 Z = true) (w4 : (Jvm.Cond.instanceMethod y).before a0 Z = true)
    {bytes : ByteArray} {maxL : Nat} {ret : Option FieldType} (w5 : (Jvm.Cond.code y bytes maxL ret).before a0 Z = true) (wz : (Jvm.Cond.initialized y.cls).before a0 Z = true) (hy : y.cls ≠ "java/lang/invoke/MethodHandle" ∧ y.cls ≠ "java/lang/invoke/VarHandle")
    {rm : Room} {as' : Array Value} {Qv : Option Value → Heap → List Loc → Prop} (hM : Con l Z y bytes maxL ret rm as' h Qv) (eT : T.heap = h) {a : Addr} (E : Exa Z h a C) {pc q : Nat} {Ls : Array Slot} {st : List Value} {argsL rest : List Value} {W : Nat} (hd : decode c.code pc = .ok (.invokevirtual index, 3))
    (hst : st = argsL.reverse ++ .ref a :: rest) (has : as' = (.ref a :: argsL).toArray) (hlen : ∀ sig, parseMethodDescriptor y.desc = some sig → argsL.length = sig.parameters.length) (hsz : Ls.size = c.maxLocals) (hW : (rest.map fun v => v.category).sum ≤ W)
    (hf : rm.frames + 1 ≤ R.frames) (hl : W + (maxL + 11) + rm.locals ≤ R.locals) (hc : cells + rm.cells ≤ R.cells) (hs : slots + rm.slots ≤ R.slots) (hq : pc + 3 = q)
    (k : ∀ (T' : State) (L : List Loc) (v : Option Value), Stand p l e R s m args below meth c T' (locs ++ L) (cells + rm.cells) (slots + rm.slots) → Qv v T'.heap L → Go p e below Q (T'.setTop (mkF m q Ls (v.toList ++ rest)))) : Go p e below Q (T.setTop (mkF m pc Ls st)) := by
  subst hq hst has
  obtain ⟨cq, kq, qa, -, qc⟩ := isOf hZ eT E
  obtain ⟨v, vm₁, ⟨T', L', k', n'⟩, -, X', ⟨Lc, hQ, l1, y1, z1⟩, st'⟩ := X.virtualBack hx (y := y) (z := y) hown (mvT hZ w1) (mvT hZ w2) (notFace_of_selects (args := #[]) (mvT hZ w3)) (mvT hZ w3) (mvT hZ w4) hy (backOf (W := W) hM hZ w5 wz hf hl) qa qc (g := mkF m pc Ls (argsL.reverse ++ .ref a :: rest)) rfl hsz (Steps.refl _) (argsL := argsL) (rest := rest) hlen rfl (by show 2 * 0 + _ ≤ _; omega) hd (fun _ _ => ⟨rfl, eT, hc, hs⟩)
  dsimp only [Pt.U, Pt.locs, Pt.cells, Pt.slots] at X' l1 y1 z1 st' hQ
  subst l1 y1 z1
  exact Go.tr st' (k T' Lc v X' hQ)
theorem Go.static (X : Stand p l e R s m args below meth c T locs cells slots) (hx : p.tables.exec = Jvm.exec) (hZ : Z.Warmed39 s.vm) {own : String} {index : Nat} {y : MethodName} (hown : s.vm.findClass own = some m.cls) (w1 : (Jvm.Cond.methodLink own index y).before a0 Z = true) (w2 : (Jvm.Cond.static y).before a0 Z = true)
    {bytes : ByteArray} {maxL : Nat} {ret : Option FieldType} (w3 : (Jvm.Cond.code y bytes maxL ret).before a0 Z = true) (wz : (Jvm.Cond.initialized y.cls).before a0 Z = true) (hy : y.cls ≠ "java/lang/invoke/MethodHandle" ∧ y.cls ≠ "java/lang/invoke/VarHandle")
    {rm : Room} {as' : Array Value} {Qv : Option Value → Heap → List Loc → Prop} (hM : Con l Z y bytes maxL ret rm as' h Qv) (eT : T.heap = h) {pc q : Nat} {Ls : Array Slot} {st : List Value} {argsL rest : List Value} {W : Nat} (hd : decode c.code pc = .ok (.invokestatic index, 3))
    (hst : st = argsL.reverse ++ rest) (has : as' = argsL.toArray) (hlen : ∀ sig, parseMethodDescriptor y.desc = some sig → argsL.length = sig.parameters.length) (hsz : Ls.size = c.maxLocals) (hW : (rest.map fun v => v.category).sum ≤ W)
    (hf : rm.frames + 1 ≤ R.frames) (hl : W + (maxL + 11) + rm.locals ≤ R.locals) (hc : cells + rm.cells ≤ R.cells) (hs : slots + rm.slots ≤ R.slots) (hq : pc + 3 = q)
    (k : ∀ (T' : State) (L : List Loc) (v : Option Value), Stand p l e R s m args below meth c T' (locs ++ L) (cells + rm.cells) (slots + rm.slots) → Qv v T'.heap L → Go p e below Q (T'.setTop (mkF m q Ls (v.toList ++ rest)))) : Go p e below Q (T.setTop (mkF m pc Ls st)) := by
  subst hq hst has
  obtain ⟨v, vm₁, ⟨T', L', k', n'⟩, -, X', ⟨Lc, hQ, l1, y1, z1⟩, st'⟩ := Jvm.LawKit.callS X hx (y := y) hown (mvT hZ w1) (mvT hZ w2) (mvT hZ wz) (mvT hZ w3) hy (backOf (W := W) hM hZ w3 wz hf hl) (g := mkF m pc Ls (argsL.reverse ++ rest)) rfl hsz (argsL := argsL) (rest := rest) hlen rfl (by show 2 * 0 + _ ≤ _; omega) hd (fun _ _ => ⟨rfl, eT, hc, hs⟩)
  dsimp only [Pt.U, Pt.locs, Pt.cells, Pt.slots] at X' l1 y1 z1 st' hQ
  subst l1 y1 z1
  exact Go.of st' (k T' Lc v X' hQ)
/-- a static call that a payer of the library answers, and that leaves all as it was -/
theorem Go.nat (X : Stand p l e R s m args below meth c T locs cells slots) (hx : p.tables.exec = Jvm.exec) (hZ : Z.Warmed39 s.vm) {own : String} {index : Nat} {y : MethodName} (hown : s.vm.findClass own = some m.cls) (w1 : (Jvm.Cond.methodLink own index y).before a0 Z = true) (w2 : (Jvm.Cond.static y).before a0 Z = true) (w3 : (Jvm.Cond.initialized y.cls).before a0 Z = true)
    {by0 : ByteArray} {ml : Nat} {rt : Option FieldType} (w4 : (Jvm.Cond.code y by0 ml rt).before a0 Z = true) (hy : y.cls ≠ "java/lang/invoke/MethodHandle" ∧ y.cls ≠ "java/lang/invoke/VarHandle") (eT : T.heap = h) {W : Nat} {F : Array Value → Prop} {val : Value}
    (hK : (Jvm.Cond.code y by0 ml rt).before args s = true → Back l R p e below s args y 3 W (fun A a' => A.cells ≤ R.cells ∧ A.slots ≤ R.slots ∧ F a') (fun A _ v B => v = some val ∧ B = A))
    {pc q : Nat} {Ls : Array Slot} {st : List Value} {argsL rest : List Value} (hd : decode c.code pc = .ok (.invokestatic index, 3)) (hst : st = argsL.reverse ++ rest) (hlen : ∀ sig, parseMethodDescriptor y.desc = some sig → argsL.length = sig.parameters.length) (hsz : Ls.size = c.maxLocals) (hW : (rest.map fun v => v.category).sum ≤ W)
    (hc : cells ≤ R.cells) (hs : slots ≤ R.slots) (hF : F argsL.toArray) (hq : pc + 3 = q)
    (k : ∀ T' : State, Stand p l e R s m args below meth c T' locs cells slots → T'.heap = h → Go p e below Q (T'.setTop (mkF m q Ls (val :: rest)))) : Go p e below Q (T.setTop (mkF m pc Ls st)) := by
  subst hq hst
  obtain ⟨T', X', e', st'⟩ := natS X hx hZ hown w1 w2 w3 w4 hy eT hK (g := mkF m pc Ls (argsL.reverse ++ rest)) rfl hsz hlen rfl (by show 2 * 0 + _ ≤ _; omega) hd hc hs hF rfl
  exact Go.of st' (k T' X' e')
/-! words of the sheet by their place -/
theorem word {ts : List Jvm.Cond} (hw : ∀ d ∈ ts, d.before a0 Z = true) {d : Jvm.Cond} (i : Nat) (hi : ts[i]? = some d) : d.before a0 Z = true := hw _ (List.mem_of_getElem? hi)
end OwnHeap
/-! own layer 4: arrays of known contents -/
section OwnArr
variable {p : Program} {l : Launch} {e : Env} {R : Room} {s : State} {m : MethodId} {args : Array Value} {below : List Frame} {meth : Method} {c : Code} {T : State} {locs : List Loc} {cells slots : Nat} {Q : Outcome → State → Prop} {Z : State} {a0 : Array Value} {h h' : Heap}
/-- the array at a: its component type, its class, its contents -/
def Row (Z : State) (h : Heap) (a : Addr) (ty : FieldType) (k : ClassId) (vs : List Value) : Prop := ∃ cl : Cell, Arr Z h a cl ty ∧ cl.cls = k ∧ cl.slots = vs.toArray
theorem Row.lt {a : Addr} {ty : FieldType} {k : ClassId} {vs : List Value} (F : Row Z h a ty k vs) : a < h.size := by obtain ⟨cl, A, -⟩ := F; exact A.lt
theorem Row.ext {a : Addr} {ty : FieldType} {k : ClassId} {vs : List Value} (F : Row Z h a ty k vs) (E : Ext h h') : Row Z h' a ty k vs := by obtain ⟨cl, A, r⟩ := F; exact ⟨cl, A.ext E, r⟩
theorem Row.other {a b : Addr} {ty : FieldType} {k : ClassId} {vs : List Value} {sl : Nat} {v : Value} (F : Row Z h b ty k vs) (W : Wr h h' a sl v) (hne : b ≠ a) : Row Z h' b ty k vs := by obtain ⟨cl, A, r⟩ := F; exact ⟨cl, A.other W hne, r⟩
theorem Row.keep {a : Addr} {ty : FieldType} {k : ClassId} {vs : List Value} {ws : List Addr} (F : Row Z h a ty k vs) (K : Keep h h' ws) (hn : a ∉ ws) : Row Z h' a ty k vs := by obtain ⟨cl, A, r⟩ := F; exact ⟨cl, ⟨K.2.1 _ _ A.1 hn, A.2⟩, r⟩
theorem Row.set {a : Addr} {ty : FieldType} {k : ClassId} {vs : List Value} {i : Nat} {v : Value} (F : Row Z h a ty k vs) (W : Wr h h' a i v) : Row Z h' a ty k (vs.set i v) := by
  obtain ⟨cl, A, q1, q2⟩ := F
  refine ⟨cl.setSlot i v, A.same W, q1, ?_⟩
  show cl.slots.setIfInBounds i v = _
  rw [q2]; simp
theorem Row.inb {vs : List Value} {cl : Cell} (q : cl.slots = vs.toArray) {j : Int32} {i : Nat} {v : Value} (hj : j.toNatClampNeg = i) (hj0 : ¬ j < 0) (hv : vs[i]? = some v) : ¬ (j < 0 ∨ cl.slots.size ≤ j.toNatClampNeg) := by
  obtain ⟨hi, -⟩ := List.getElem?_eq_some_iff.mp hv
  have : cl.slots.size = vs.length := by rw [q]; simp
  rintro (z | z)
  · exact hj0 z
  · omega
theorem Row.getv {vs : List Value} {cl : Cell} (q : cl.slots = vs.toArray) {j : Int32} {i : Nat} {v : Value} (hj : j.toNatClampNeg = i) (hv : vs[i]? = some v) : cl.slots[j.toNatClampNeg]? = some v := by
  rw [q, hj]; simpa using hv
theorem Go.newarr (X : Stand p l e R s m args below meth c T locs cells slots) (hx : p.tables.exec = Jvm.exec) (hZ : Z.Warmed39 s.vm) {aty : ArrayType} (w : (Jvm.Cond.arrayClass (newarray.typeOf aty)).before a0 Z = true) (eT : T.heap = h)
    {pc q : Nat} {Ls : Array Slot} {st : List Value} {n : Int32} {k : Nat} (hd : decode c.code pc = .ok (.newarray aty, 2)) (hn0 : ¬ n < 0) (hn : n.toNatClampNeg = k) (hb : k * 8 ≤ 536870912) (hc : cells + 1 ≤ R.cells) (hl : slots + k ≤ R.slots) {ad : String} (had : "[" ++ (newarray.typeOf aty).toString = ad) (hq : pc + 2 = q)
    (cont : ∀ (T' : State) (h' : Heap) (a : Addr) (kk : ClassId), a = h.size → Stand p l e R s m args below meth c T' locs (cells + 1) (slots + k) → T'.heap = h' → Ext h h' → Row Z h' a (newarray.typeOf aty) kk (List.replicate k (defaultValue (newarray.typeOf aty))) → Exa Z h' a ad →
      Go p e below Q (T'.setTop (mkF m q Ls (.ref a :: st)))) : Go p e below Q (T.setTop (mkF m pc Ls (.int n :: st))) := by
  subst hq hn
  obtain ⟨T', h', cA, X', e', E', A', D', st'⟩ := newPE X hx hZ w eT (g := mkF m pc Ls (.int n :: st)) rfl hd rfl hn0 (cap := n.toNatClampNeg) (Nat.le_refl _) hb hc hl had
  exact Go.of st' (cont T' h' _ cA rfl X' e' E' ⟨_, A', rfl, by simp [newA]⟩ D')
theorem Go.newobjs (X : Stand p l e R s m args below meth c T locs cells slots) (hx : p.tables.exec = Jvm.exec) (hZ : Z.Warmed39 s.vm) {own C : String} {index : Nat} (hown : s.vm.findClass own = some m.cls) (w1 : (Jvm.Cond.classLink own index C).before a0 Z = true) (w2 : (Jvm.Cond.arrayOver (.object C)).before a0 Z = true) (eT : T.heap = h)
    {pc q : Nat} {Ls : Array Slot} {st : List Value} {n : Int32} {k : Nat} (hd : decode c.code pc = .ok (.anewarray index, 3)) (hn0 : ¬ n < 0) (hn : n.toNatClampNeg = k) (hb : k * 8 ≤ 536870912) (hc : cells + 1 ≤ R.cells) (hl : slots + k ≤ R.slots) {ad : String} (had : "[" ++ (FieldType.object C).toString = ad) (hq : pc + 3 = q)
    (cont : ∀ (T' : State) (h' : Heap) (a : Addr) (kk : ClassId), a = h.size → Stand p l e R s m args below meth c T' locs (cells + 1) (slots + k) → T'.heap = h' → Ext h h' → Row Z h' a (.object C) kk (List.replicate k .null) → Ovr Z kk C → Exa Z h' a ad →
      Go p e below Q (T'.setTop (mkF m q Ls (.ref a :: st)))) : Go p e below Q (T.setTop (mkF m pc Ls (.int n :: st))) := by
  subst hq hn
  obtain ⟨T', h', cA, X', e', E', A', D', O', st'⟩ := newRE X hx hZ hown w1 w2 eT (g := mkF m pc Ls (.int n :: st)) rfl hd rfl hn0 (cap := n.toNatClampNeg) (Nat.le_refl _) hb hc hl had
  exact Go.of st' (cont T' h' _ cA rfl X' e' E' ⟨_, A', rfl, by simp [newA, defaultValue]⟩ O' D')
theorem Go.alen (X : Stand p l e R s m args below meth c T locs cells slots) (hx : p.tables.exec = Jvm.exec) (hZ : Z.Warmed39 s.vm) (eT : T.heap = h) {a : Addr} {ty : FieldType} {k : ClassId} {vs : List Value} (F : Row Z h a ty k vs)
    {pc q : Nat} {Ls : Array Slot} {st : List Value} {n : Int32} (hd : decode c.code pc = .ok (.arraylength, 1)) (hn : vs.length.toInt32 = n) (hq : pc + 1 = q) (g : Go p e below Q (T.setTop (mkF m q Ls (.int n :: st)))) : Go p e below Q (T.setTop (mkF m pc Ls (.ref a :: st))) := by
  subst hq hn
  obtain ⟨cl, A, -, q2⟩ := F
  refine Go.of (fun t r => X.arraylength hx (by rw [eT]; exact A.1) (State.isArrayOf_alike hZ.alike A.2.1) (g := mkF m pc Ls (.ref a :: st)) rfl rfl hd t ?_) g
  rw [q2]; simpa using r
theorem Go.daload (X : Stand p l e R s m args below meth c T locs cells slots) (hx : p.tables.exec = Jvm.exec) (hZ : Z.Warmed39 s.vm) (eT : T.heap = h) {a : Addr} {k : ClassId} {vs : List Value} (F : Row Z h a .double k vs)
    {pc q : Nat} {Ls : Array Slot} {st : List Value} {j : Int32} {i : Nat} {v : Value} (hd : decode c.code pc = .ok (.daload, 1)) (hj : j.toNatClampNeg = i) (hj0 : ¬ j < 0) (hv : vs[i]? = some v) (hq : pc + 1 = q) (g : Go p e below Q (T.setTop (mkF m q Ls (v :: st)))) : Go p e below Q (T.setTop (mkF m pc Ls (.int j :: .ref a :: st))) := by
  subst hq
  obtain ⟨cl, A, -, q2⟩ := F
  exact Go.of (fun t r => X.daload hx (by rw [eT]; exact A.1) (State.isArrayOf_alike hZ.alike A.2.1) A.2.2 (Row.inb q2 hj hj0 hv) (Row.getv q2 hj hv) (g := mkF m pc Ls (.int j :: .ref a :: st)) rfl rfl hd t r) g
theorem Go.faload (X : Stand p l e R s m args below meth c T locs cells slots) (hx : p.tables.exec = Jvm.exec) (hZ : Z.Warmed39 s.vm) (eT : T.heap = h) {a : Addr} {k : ClassId} {vs : List Value} (F : Row Z h a .float k vs)
    {pc q : Nat} {Ls : Array Slot} {st : List Value} {j : Int32} {i : Nat} {v : Value} (hd : decode c.code pc = .ok (.faload, 1)) (hj : j.toNatClampNeg = i) (hj0 : ¬ j < 0) (hv : vs[i]? = some v) (hq : pc + 1 = q) (g : Go p e below Q (T.setTop (mkF m q Ls (v :: st)))) : Go p e below Q (T.setTop (mkF m pc Ls (.int j :: .ref a :: st))) := by
  subst hq
  obtain ⟨cl, A, -, q2⟩ := F
  exact Go.of (fun t r => X.faload hx (by rw [eT]; exact A.1) (State.isArrayOf_alike hZ.alike A.2.1) A.2.2 (Row.inb q2 hj hj0 hv) (Row.getv q2 hj hv) (g := mkF m pc Ls (.int j :: .ref a :: st)) rfl rfl hd t r) g
theorem Go.aaload (X : Stand p l e R s m args below meth c T locs cells slots) (hx : p.tables.exec = Jvm.exec) (hZ : Z.Warmed39 s.vm) (eT : T.heap = h) {a : Addr} {ty : FieldType} {k : ClassId} {vs : List Value} (F : Row Z h a ty k vs) (hty : ty.isReference = true)
    {pc q : Nat} {Ls : Array Slot} {st : List Value} {j : Int32} {i : Nat} {v : Value} (hd : decode c.code pc = .ok (.aaload, 1)) (hj : j.toNatClampNeg = i) (hj0 : ¬ j < 0) (hv : vs[i]? = some v) (hq : pc + 1 = q) (g : Go p e below Q (T.setTop (mkF m q Ls (v :: st)))) : Go p e below Q (T.setTop (mkF m pc Ls (.int j :: .ref a :: st))) := by
  subst hq
  obtain ⟨cl, A, -, q2⟩ := F
  exact Go.of (fun t r => X.aaload hx (by rw [eT]; exact A.1) (State.isArrayOf_alike hZ.alike A.2.1) hty A.2.2 (Row.inb q2 hj hj0 hv) (Row.getv q2 hj hv) (g := mkF m pc Ls (.int j :: .ref a :: st)) rfl rfl hd t r) g
theorem Go.dastore (X : Stand p l e R s m args below meth c T locs cells slots) (hx : p.tables.exec = Jvm.exec) (hZ : Z.Warmed39 s.vm) (eT : T.heap = h) {a : Addr} {k : ClassId} {vs : List Value} (F : Row Z h a .double k vs)
    {pc q : Nat} {Ls : Array Slot} {st : List Value} {j : Int32} {i : Nat} {x : UInt64} {o : Value} (hd : decode c.code pc = .ok (.dastore, 1)) (hj : j.toNatClampNeg = i) (hj0 : ¬ j < 0) (hv : vs[i]? = some o) (hq : pc + 1 = q)
    (cont : ∀ (T' : State) (h' : Heap), Stand p l e R s m args below meth c T' (locs ++ [⟨a, i⟩]) cells slots → T'.heap = h' → Wr h h' a i (.double x) → Row Z h' a .double k (vs.set i (.double x)) → Go p e below Q (T'.setTop (mkF m q Ls st))) : Go p e below Q (T.setTop (mkF m pc Ls (.double x :: .int j :: .ref a :: st))) := by
  subst hq hj
  have F0 := F
  obtain ⟨cl, A, -, q2⟩ := F
  obtain ⟨T', h', X', e', W', st'⟩ := stD X hx hZ eT A (x := x) (Row.inb q2 rfl hj0 hv) (g := mkF m pc Ls (.double x :: .int j :: .ref a :: st)) rfl rfl hd
  exact Go.of st' (cont T' h' X' e' W' (F0.set W'))
theorem Go.aastore (X : Stand p l e R s m args below meth c T locs cells slots) (hx : p.tables.exec = Jvm.exec) (hZ : Z.Warmed39 s.vm) (eT : T.heap = h) {a : Addr} {ty : FieldType} {k : ClassId} {vs : List Value} (F : Row Z h a ty k vs) (hty : ty.isReference = true) {C : String} (O : Ovr Z k C) {b : Addr} (I : Ins Z h b C true)
    {pc q : Nat} {Ls : Array Slot} {st : List Value} {j : Int32} {i : Nat} {o : Value} (hd : decode c.code pc = .ok (.aastore, 1)) (hj : j.toNatClampNeg = i) (hj0 : ¬ j < 0) (hv : vs[i]? = some o) (hq : pc + 1 = q)
    (cont : ∀ (T' : State) (h' : Heap), Stand p l e R s m args below meth c T' (locs ++ [⟨a, i⟩]) cells slots → T'.heap = h' → Wr h h' a i (.ref b) → Row Z h' a ty k (vs.set i (.ref b)) → Go p e below Q (T'.setTop (mkF m q Ls st))) : Go p e below Q (T.setTop (mkF m pc Ls (.ref b :: .int j :: .ref a :: st))) := by
  subst hq hj
  have F0 := F
  obtain ⟨cl, A, q1, q2⟩ := F
  obtain ⟨T', h', X', e', W', st'⟩ := stR X hx hZ eT A (v := .ref b) (Row.inb q2 rfl hj0 hv) hty (Sto.of A (q1 ▸ O) I) (g := mkF m pc Ls (.ref b :: .int j :: .ref a :: st)) rfl rfl hd
  exact Go.of st' (cont T' h' X' e' W' (F0.set W'))
theorem Go.cast (X : Stand p l e R s m args below meth c T locs cells slots) (hx : p.tables.exec = Jvm.exec) (hZ : Z.Warmed39 s.vm) {own K : String} {index : Nat} (hown : s.vm.findClass own = some m.cls) (w : (Jvm.Cond.classLink own index K).before a0 Z = true) (eT : T.heap = h) {a : Addr} (F : Ins Z h a K true)
    {pc q : Nat} {Ls : Array Slot} {st : List Value} (hd : decode c.code pc = .ok (.checkcast index, 3)) (hq : pc + 3 = q)
    (k : ∀ T' : State, Stand p l e R s m args below meth c T' locs cells slots → T'.heap = h → Go p e below Q (T'.setTop (mkF m q Ls (.ref a :: st)))) : Go p e below Q (T.setTop (mkF m pc Ls (.ref a :: st))) := by
  subst hq
  obtain ⟨T', X', e', st'⟩ := castY X hx hZ hown w eT F (g := mkF m pc Ls (.ref a :: st)) rfl rfl hd
  exact Go.of st' (k T' X' e')
theorem Go.clone (X : Stand p l e R s m args below meth c T locs cells slots) (hx : p.tables.exec = Jvm.exec) (hZ : Z.Warmed39 s.vm) {own ad : String} {index : Nat} (hown : s.vm.findClass own = some m.cls)
    (w1 : (Jvm.Cond.methodLink own index ⟨ad, "clone", "()Ljava/lang/Object;"⟩).before a0 Z = true) (w2 : (Jvm.Cond.sameMethod ad "java/lang/Object" "clone" "()Ljava/lang/Object;").before a0 Z = true) (w3 : (Jvm.Cond.native ⟨"java/lang/Object", "clone", "()Ljava/lang/Object;"⟩).before a0 Z = true)
    (w4 : (Jvm.Cond.instanceMethod ⟨"java/lang/Object", "clone", "()Ljava/lang/Object;"⟩).before a0 Z = true) (w5 : (Jvm.Cond.selects ad ⟨ad, "clone", "()Ljava/lang/Object;"⟩ ⟨"java/lang/Object", "clone", "()Ljava/lang/Object;"⟩).before a0 Z = true) (w6 : (Jvm.Cond.castable ad "java/lang/Cloneable").before a0 Z = true)
    (eT : T.heap = h) {a : Addr} {ty : FieldType} {kc : ClassId} {vs : List Value} (F : Row Z h a ty kc vs) (E : Exa Z h a ad) (hfit : vs.all (fun v => fits ty v) = true) {pc q : Nat} {Ls : Array Slot} {st : List Value} (hd : decode c.code pc = .ok (.invokevirtual index, 3)) (hsz : Ls.size = c.maxLocals) (hf : 1 ≤ R.frames) {W : Nat} (hW : (st.map fun v => v.category).sum ≤ W) (hl : W + 14 ≤ R.locals) {k : Nat} (hk : vs.length = k) (hc : cells + 1 ≤ R.cells) (hs : slots + k ≤ R.slots) (hq : pc + 3 = q)
    (cont : ∀ (T' : State) (h' : Heap) (b : Addr), b = h.size → Stand p l e R s m args below meth c T' locs (cells + 1) (slots + k) → T'.heap = h' → Ext h h' → Row Z h' b ty kc vs → Exa Z h' b ad → Go p e below Q (T'.setTop (mkF m q Ls (.ref b :: st)))) : Go p e below Q (T.setTop (mkF m pc Ls (.ref a :: st))) := by
  subst hq hk
  obtain ⟨cl, A, q1, q2⟩ := F
  have hsize : cl.slots.size = vs.length := by rw [q2]; simp
  have FC : FitC Z cl := fitC_of A fun i hi v hv => by
    rw [q2] at hv
    have : v ∈ vs := List.mem_of_getElem? (by simpa using hv)
    exact List.all_eq_true.mp hfit v this
  obtain ⟨T', h', X', e', E', A', D', st'⟩ := cloneA X hx hZ hown w1 w2 w3 w4 w5 w6 eT A E FC (g := mkF m pc Ls (.ref a :: st)) rfl hsz rfl hd hf (W := W) (by show 2 * 0 + _ ≤ _; omega) hl (cap := vs.length) (by rw [hsize]; exact Nat.le_refl _) hc hs
  exact Go.of st' (cont T' h' _ rfl X' e' E' ⟨cloneOf cl, A', q1, q2⟩ D')
theorem Go.fastore (X : Stand p l e R s m args below meth c T locs cells slots) (hx : p.tables.exec = Jvm.exec) (hZ : Z.Warmed39 s.vm) (eT : T.heap = h) {a : Addr} {k : ClassId} {vs : List Value} (F : Row Z h a .float k vs)
    {pc q : Nat} {Ls : Array Slot} {st : List Value} {j : Int32} {i : Nat} {x : UInt32} {o : Value} (hd : decode c.code pc = .ok (.fastore, 1)) (hj : j.toNatClampNeg = i) (hj0 : ¬ j < 0) (hv : vs[i]? = some o) (hq : pc + 1 = q)
    (cont : ∀ (T' : State) (h' : Heap), Stand p l e R s m args below meth c T' (locs ++ [⟨a, i⟩]) cells slots → T'.heap = h' → Wr h h' a i (.float x) → Row Z h' a .float k (vs.set i (.float x)) → Go p e below Q (T'.setTop (mkF m q Ls st))) : Go p e below Q (T.setTop (mkF m pc Ls (.float x :: .int j :: .ref a :: st))) := by
  subst hq hj
  have F0 := F
  obtain ⟨cl, A, -, q2⟩ := F
  obtain ⟨X', st'⟩ := X.fastore hx (x := x) (by rw [eT]; exact A.1) (State.isArrayOf_alike hZ.alike A.2.1) A.2.2 (Row.inb q2 rfl hj0 hv) (g := mkF m pc Ls (.float x :: .int j :: .ref a :: st)) rfl rfl hd
  have W' : Wr h (T.setCell a (cl.setSlot j.toNatClampNeg (.float x))).heap a j.toNatClampNeg (.float x) := ⟨cl, A.1, A.plain, Nat.lt_of_not_le fun z => Row.inb q2 rfl hj0 hv (Or.inr z), by rw [← eT]; rfl⟩
  exact Go.of st' (cont _ _ X' rfl W' (F0.set W'))
end OwnArr
/-! own layer 6: bodies that may load String constants cold -/
section OwnStr
variable {p : Program} {l : Launch} {e : Env} {R : Room} {s : State} {V : Vm} {k0 : Nat} {m : MethodId} {args : Array Value} {below : List Frame} {meth : Method} {c : Code} {T : State} {locs : List Loc} {cells slots : Nat} {Q : Outcome → State → Prop} {Z : State} {a0 : Array Value} {h : Heap}
abbrev RetW (s : State) (Qv : Option Value → Heap → List Loc → Prop) (kc ks : Nat) : Outcome → State → Prop := fun o U' => ∃ v L, o = .returned v ∧ Qv v U'.heap L ∧ ReturnedEndW s o U' L kc ks
abbrev ConW (l : Launch) (Z : State) (y : MethodName) (bytes : ByteArray) (maxL : Nat) (ret : Option FieldType) (rm : Room) (as' : Array Value) (h : Heap) (Qv : Option Value → Heap → List Loc → Prop) : Prop :=
  MetFree l y (head1 [Jvm.Cond.code y bytes maxL ret] rm) (fun a U => a = as' ∧ Z.Warmed39 U.vm ∧ U.heap = h) (fun _ _ _ _ _ => True) (fun _ U o U' => ∃ v L, o = .returned v ∧ Qv v U'.heap L ∧ ReturnedEndW U o U' L rm.cells rm.slots)
theorem Go.doneW (X : Stand p l e R (s.setVm V) m args below meth c T locs cells slots) (hS : s.Since V k0) (hk0 : k0 ≤ T.heap.size) {g : JFrame} {v : Option Value} (hv : meth.sig.returnType = none → v = none) (hlocks : meth.locks = false)
    (hst : ∀ fs, (∀ (f : JFrame) (acts : List Action), f.method = m → f.locked = none → f.entered = [] → (doReturn e (T.setTop f) acts v).1 = T.setFrames fs) → Steps p.tables e below (T.setTop g) (T.setFrames fs))
    {Qv : Option Value → Heap → List Loc → Prop} {kc ks : Nat} (hc : cells ≤ kc) (hk : slots ≤ ks) (hq : Qv v T.heap locs) : Go p e below (RetW s Qv kc ks) (T.setTop g) := by
  obtain ⟨fs, hr, hrun, hended, h1, h2, h3, hsame⟩ := X.leaveW hS hk0 (v := v) hv hlocks
  exact ⟨_, _, hst fs hr, hrun, hended, v, locs, rfl, hq, h1, h2, h3, hsame.mono hc hk⟩
theorem Go.retVW (X : Stand p l e R (s.setVm V) m args below meth c T locs cells slots) (hS : s.Since V k0) (hk0 : k0 ≤ T.heap.size) (hx : p.tables.exec = Jvm.exec) {pc : Nat} {Ls : Array Slot} (hret : meth.sig.returnType = none) (hlk : meth.locks = false) (hd : decode c.code pc = .ok (.return_, 1))
    {Qv : Option Value → Heap → List Loc → Prop} {kc ks : Nat} (hc : cells ≤ kc) (hk : slots ≤ ks) (hq : Qv none T.heap locs) : Go p e below (RetW s Qv kc ks) (T.setTop (mkF m pc Ls [])) :=
  Go.doneW X hS hk0 (fun _ => rfl) hlk (fun _ hr => X.returnOut hx hret hd hr) hc hk hq
theorem Go.retLW (X : Stand p l e R (s.setVm V) m args below meth c T locs cells slots) (hS : s.Since V k0) (hk0 : k0 ≤ T.heap.size) (hx : p.tables.exec = Jvm.exec) {pc : Nat} {Ls : Array Slot} {st : List Value} {z : Int64} (hret : meth.sig.returnType = some .long) (hlk : meth.locks = false) (hd : decode c.code pc = .ok (.lreturn, 1))
    {Qv : Option Value → Heap → List Loc → Prop} {kc ks : Nat} (hc : cells ≤ kc) (hk : slots ≤ ks) (hq : Qv (some (.long z)) T.heap locs) : Go p e below (RetW s Qv kc ks) (T.setTop (mkF m pc Ls ((.long z) :: st))) :=
  Go.doneW X hS hk0 (fun h => by rw [hret] at h; cases h) hlk (fun _ hr => retOut X hx hret rfl (Or.inr (Or.inl ⟨rfl, rfl, z, rfl⟩)) hd hr) hc hk hq
theorem Go.retDW (X : Stand p l e R (s.setVm V) m args below meth c T locs cells slots) (hS : s.Since V k0) (hk0 : k0 ≤ T.heap.size) (hx : p.tables.exec = Jvm.exec) {pc : Nat} {Ls : Array Slot} {st : List Value} {z : UInt64} (hret : meth.sig.returnType = some .double) (hlk : meth.locks = false) (hd : decode c.code pc = .ok (.dreturn, 1))
    {Qv : Option Value → Heap → List Loc → Prop} {kc ks : Nat} (hc : cells ≤ kc) (hk : slots ≤ ks) (hq : Qv (some (.double z)) T.heap locs) : Go p e below (RetW s Qv kc ks) (T.setTop (mkF m pc Ls ((.double z) :: st))) :=
  Go.doneW X hS hk0 (fun h => by rw [hret] at h; cases h) hlk (fun _ hr => retOut X hx hret rfl (Or.inr (Or.inr (Or.inl ⟨rfl, rfl, z, rfl⟩))) hd hr) hc hk hq
theorem Go.retFW (X : Stand p l e R (s.setVm V) m args below meth c T locs cells slots) (hS : s.Since V k0) (hk0 : k0 ≤ T.heap.size) (hx : p.tables.exec = Jvm.exec) {pc : Nat} {Ls : Array Slot} {st : List Value} {z : UInt32} (hret : meth.sig.returnType = some .float) (hlk : meth.locks = false) (hd : decode c.code pc = .ok (.freturn, 1))
    {Qv : Option Value → Heap → List Loc → Prop} {kc ks : Nat} (hc : cells ≤ kc) (hk : slots ≤ ks) (hq : Qv (some (.float z)) T.heap locs) : Go p e below (RetW s Qv kc ks) (T.setTop (mkF m pc Ls ((.float z) :: st))) :=
  Go.doneW X hS hk0 (fun h => by rw [hret] at h; cases h) hlk (fun _ hr => retOut X hx hret rfl (Or.inr (Or.inr (Or.inr (Or.inl ⟨rfl, rfl, z, rfl⟩)))) hd hr) hc hk hq
theorem Go.retIW (X : Stand p l e R (s.setVm V) m args below meth c T locs cells slots) (hS : s.Since V k0) (hk0 : k0 ≤ T.heap.size) (hx : p.tables.exec = Jvm.exec) {pc : Nat} {Ls : Array Slot} {st : List Value} {z : Int32} (hret : meth.sig.returnType = some .int) (hlk : meth.locks = false) (hd : decode c.code pc = .ok (.ireturn, 1))
    {Qv : Option Value → Heap → List Loc → Prop} {kc ks : Nat} (hc : cells ≤ kc) (hk : slots ≤ ks) (hq : Qv (some (.int z)) T.heap locs) : Go p e below (RetW s Qv kc ks) (T.setTop (mkF m pc Ls ((.int z) :: st))) :=
  Go.doneW X hS hk0 (fun h => by rw [hret] at h; cases h) hlk (fun _ hr => retOut X hx hret rfl (Or.inl ⟨rfl, Or.inl rfl, z, rfl⟩) hd hr) hc hk hq
theorem Go.retZW (X : Stand p l e R (s.setVm V) m args below meth c T locs cells slots) (hS : s.Since V k0) (hk0 : k0 ≤ T.heap.size) (hx : p.tables.exec = Jvm.exec) {pc : Nat} {Ls : Array Slot} {st : List Value} {z : Int32} (hret : meth.sig.returnType = some .boolean) (hlk : meth.locks = false) (hd : decode c.code pc = .ok (.ireturn, 1)) (hz : z = 0 ∨ z = 1)
    {Qv : Option Value → Heap → List Loc → Prop} {kc ks : Nat} (hc : cells ≤ kc) (hk : slots ≤ ks) (hq : Qv (some (.int z)) T.heap locs) : Go p e below (RetW s Qv kc ks) (T.setTop (mkF m pc Ls ((.int z) :: st))) :=
  Go.doneW X hS hk0 (fun h => by rw [hret] at h; cases h) hlk (fun _ hr => retOut X hx hret (by rcases hz with rfl | rfl <;> rfl) (Or.inl ⟨rfl, Or.inr (Or.inl rfl), z, rfl⟩) hd hr) hc hk hq
theorem Go.retAW (X : Stand p l e R (s.setVm V) m args below meth c T locs cells slots) (hS : s.Since V k0) (hk0 : k0 ≤ T.heap.size) (hx : p.tables.exec = Jvm.exec) {pc : Nat} {Ls : Array Slot} {st : List Value} {v : Value} {t : FieldType} (hret : meth.sig.returnType = some t) (hlk : meth.locks = false) (hd : decode c.code pc = .ok (.areturn, 1)) (ht : t.isReference = true) (hv : v.isRef = true) (hn : narrow t v = v)
    {Qv : Option Value → Heap → List Loc → Prop} {kc ks : Nat} (hc : cells ≤ kc) (hk : slots ≤ ks) (hq : Qv (some v) T.heap locs) : Go p e below (RetW s Qv kc ks) (T.setTop (mkF m pc Ls (v :: st))) :=
  Go.doneW X hS hk0 (fun h => by rw [hret] at h; cases h) hlk (fun _ hr => retOut X hx hret hn (Or.inr (Or.inr (Or.inr (Or.inr ⟨rfl, ht, hv⟩)))) hd hr) hc hk hq
theorem enterW {l : Launch} {Z : State} {y : MethodName} {bytes : ByteArray} {maxL : Nat} {ret : Option FieldType} {ws : List Jvm.Cond} {rm : Room} {as' : Array Value} {h0 : Heap} {Qv : Option Value → Heap → List Loc → Prop} {Ls : Array Slot} {kc ks : Nat}
    (hpn : plainFor y = true) (hef : ∀ m, entryFrame m as' maxL = mkF m 0 Ls [])
    (body : ∀ (p : Program) (e : Env) (s : State) (m : MethodId) (below : List Frame) (meth : Method) (c : Code) (s₁ : State) (V : Vm) (k0 : Nat), p.tables.exec = Jvm.exec → c.code = bytes → c.maxLocals = maxL → (s.setVm V).vm.findClass y.cls = some m.cls → meth.name = y.name → meth.sig.returnType = ret → meth.locks = false → Z.Warmed39 (s.setVm V).vm →
      Stand p l e rm (s.setVm V) m as' below meth c s₁ [] 0 0 → s₁.heap = h0 → s.Since V k0 → k0 ≤ h0.size → Go p e below (RetW s Qv kc ks) (s₁.setTop (mkF m 0 Ls []))) :
    MetFree l y (head1 (Jvm.Cond.code y bytes maxL ret :: ws) rm) (fun a U => a = as' ∧ Z.Warmed39 U.vm ∧ U.heap = h0) (fun _ _ _ _ _ => True) (fun _ U o U' => ∃ v L, o = .returned v ∧ Qv v U'.heap L ∧ ReturnedEndW U o U' L kc ks) := by
  refine MetFree.of_bodySF hpn hisR ?_
  intro p e s m args below meth c s₁ Bd hml0 hP hK
  obtain ⟨rfl, hZ, hh⟩ := hP
  have e0 : s₁.heap = h0 := by rw [← hh, Bd.state]; rfl
  obtain ⟨s₂, o, h1, h2, h3, h4⟩ := body p e s m below meth c s₁ s.vm s.heap.size Bd.exec Bd.bytes hml0 (findClass_of_methodNamed Bd.named) (name_of_methodNamed Bd.named Bd.method).1 Bd.returns (BodyLoose.notSynchronized Bd) hZ (Stand.of_body Bd) e0 (State.WarmedH.since (State.WarmedH.refl s) _) (Nat.le_of_eq (congrArg Array.size hh))
  exact ⟨s₂, o, castTop (hef m) h1, h2, h3, h4⟩
theorem Go.ldcStr (X : Stand p l e R (s.setVm V) m args below meth c T locs cells slots) (hx : p.tables.exec = Jvm.exec) (hZ : Z.Warmed39 (s.setVm V).vm) {own text : String} {index : Nat} (hown : (s.setVm V).vm.findClass own = some m.cls) (w : (Jvm.Cond.stringLink own index text).before a0 Z = true) (wS : ∀ a ∈ Bundle.stringAtoms, a.before a0 Z = true) (eT : T.heap = h) (hS : s.Since V k0) (hk : k0 ≤ h.size)
    {pc q : Nat} {Ls : Array Slot} {st : List Value} (hd : decode c.code pc = .ok (.ldc index, 2)) {n : Nat} (hn : 4 * text.toList.length ≤ n) (hbig : n ≤ 536870912) (hc : cells + 2 ≤ R.cells) (hl : slots + (n + 4) ≤ R.slots) (hq : pc + 2 = q)
    (cont : ∀ (T' : State) (h' : Heap) (a : Addr) (V' : Vm) (k1 : Nat), Stand p l e R (s.setVm V') m args below meth c T' locs (cells + 2) (slots + (n + 4)) → T'.heap = h' → Ext h h' → s.Since V' k1 → k1 ≤ h'.size → Z.Warmed39 (s.setVm V').vm → (s.setVm V').vm.findClass own = some m.cls →
      Go p e below Q (T'.setTop (mkF m q Ls (.ref a :: st)))) : Go p e below Q (T.setTop (mkF m pc Ls st)) := by
  subst hq
  obtain ⟨a, T', h', k1, X', e', E', S', K', Z', o', st'⟩ := Jvm.RoadKit.ldcS X hx hZ hown w wS eT hS hk (g := mkF m pc Ls st) rfl hd hn hbig hc hl
  exact Go.of st' (cont T' h' a T'.vm k1 X' e' E' S' K' Z' o')
theorem Go.specialW (X : Stand p l e R (s.setVm V) m args below meth c T locs cells slots) (hx : p.tables.exec = Jvm.exec) (hZ : Z.Warmed39 (s.setVm V).vm) {own : String} {index : Nat} {y : MethodName} (hy1 : y.name = "<init>") (hown : (s.setVm V).vm.findClass own = some m.cls) (w1 : (Jvm.Cond.methodLink own index y).before a0 Z = true) (w2 : (Jvm.Cond.instanceMethod y).before a0 Z = true)
    {bytes : ByteArray} {maxL : Nat} (w3 : (Jvm.Cond.code y bytes maxL none).before a0 Z = true) (wz : (Jvm.Cond.initialized y.cls).before a0 Z = true) (hy : y.cls ≠ "java/lang/invoke/MethodHandle" ∧ y.cls ≠ "java/lang/invoke/VarHandle")
    {rm : Room} {as' : Array Value} {Qv : Option Value → Heap → List Loc → Prop} (hM : ConW l Z y bytes maxL none rm as' h Qv) (eT : T.heap = h) (hS : s.Since V k0) (hk0 : k0 ≤ h.size) {pc q : Nat} {Ls : Array Slot} {st : List Value} {a : Addr} {argsL rest : List Value} {W : Nat} (hd : decode c.code pc = .ok (.invokespecial index, 3))
    (hst : st = argsL.reverse ++ .ref a :: rest) (has : as' = (.ref a :: argsL).toArray) (hlen : ∀ sig, parseMethodDescriptor y.desc = some sig → argsL.length = sig.parameters.length) (hsz : Ls.size = c.maxLocals) (hW : (rest.map fun v => v.category).sum ≤ W)
    (hf : rm.frames + 1 ≤ R.frames) (hl : W + (maxL + 11) + rm.locals ≤ R.locals) (hc : cells + rm.cells ≤ R.cells) (hs : slots + rm.slots ≤ R.slots) (hq : pc + 3 = q)
    (k : ∀ (T' : State) (L : List Loc) (v : Option Value) (V' : Vm) (k1 : Nat), Stand p l e R (s.setVm V') m args below meth c T' (locs ++ L) (cells + rm.cells) (slots + rm.slots) → Qv v T'.heap L → s.Since V' k1 → k1 ≤ T'.heap.size → Z.Warmed39 (s.setVm V').vm → (s.setVm V').vm.findClass own = some m.cls → Go p e below Q (T'.setTop (mkF m q Ls (v.toList ++ rest)))) : Go p e below Q (T.setTop (mkF m pc Ls st)) := by
  subst hq hst has
  obtain ⟨v, vm₁, ⟨T', L', k', n'⟩, -, X', S', G', ⟨Lc, hQ, l1, y1, z1⟩, st'⟩ := X.specialBackS hx (y := y) hy1 hown (mvT hZ w1) (mvT hZ w2) (mvT hZ w3) hy (backOfS (W := W) hM hZ w3 wz hf hl) (g := mkF m pc Ls (argsL.reverse ++ .ref a :: rest)) rfl hsz (Steps.refl _) (a := a) (argsL := argsL) (rest := rest) hlen rfl (by show 2 * 0 + _ ≤ _; omega) hd (fun _ _ => ⟨rfl, eT, hc, hs⟩)
  dsimp only [Pt.U, Pt.locs, Pt.cells, Pt.slots] at X' S' G' l1 y1 z1 st' hQ
  subst l1 y1 z1
  obtain ⟨X2, S2, Z2, o2⟩ := rebS hS (by rw [eT]; exact hk0) X' S' G' hZ hown
  exact Go.tr st' (k T' Lc v T'.vm _ X2 hQ S2 (Nat.le_refl _) Z2 o2)
theorem Go.staticW (X : Stand p l e R (s.setVm V) m args below meth c T locs cells slots) (hx : p.tables.exec = Jvm.exec) (hZ : Z.Warmed39 (s.setVm V).vm) {own : String} {index : Nat} {y : MethodName} (hown : (s.setVm V).vm.findClass own = some m.cls) (w1 : (Jvm.Cond.methodLink own index y).before a0 Z = true) (w2 : (Jvm.Cond.static y).before a0 Z = true)
    {bytes : ByteArray} {maxL : Nat} {ret : Option FieldType} (w3 : (Jvm.Cond.code y bytes maxL ret).before a0 Z = true) (wz : (Jvm.Cond.initialized y.cls).before a0 Z = true) (hy : y.cls ≠ "java/lang/invoke/MethodHandle" ∧ y.cls ≠ "java/lang/invoke/VarHandle")
    {rm : Room} {as' : Array Value} {Qv : Option Value → Heap → List Loc → Prop} (hM : ConW l Z y bytes maxL ret rm as' h Qv) (eT : T.heap = h) (hS : s.Since V k0) (hk0 : k0 ≤ h.size) {pc q : Nat} {Ls : Array Slot} {st : List Value} {argsL rest : List Value} {W : Nat} (hd : decode c.code pc = .ok (.invokestatic index, 3))
    (hst : st = argsL.reverse ++ rest) (has : as' = argsL.toArray) (hlen : ∀ sig, parseMethodDescriptor y.desc = some sig → argsL.length = sig.parameters.length) (hsz : Ls.size = c.maxLocals) (hW : (rest.map fun v => v.category).sum ≤ W)
    (hf : rm.frames + 1 ≤ R.frames) (hl : W + (maxL + 11) + rm.locals ≤ R.locals) (hc : cells + rm.cells ≤ R.cells) (hs : slots + rm.slots ≤ R.slots) (hq : pc + 3 = q)
    (k : ∀ (T' : State) (L : List Loc) (v : Option Value) (V' : Vm) (k1 : Nat), Stand p l e R (s.setVm V') m args below meth c T' (locs ++ L) (cells + rm.cells) (slots + rm.slots) → Qv v T'.heap L → s.Since V' k1 → k1 ≤ T'.heap.size → Z.Warmed39 (s.setVm V').vm → (s.setVm V').vm.findClass own = some m.cls → Go p e below Q (T'.setTop (mkF m q Ls (v.toList ++ rest)))) : Go p e below Q (T.setTop (mkF m pc Ls st)) := by
  subst hq hst has
  obtain ⟨v, vm₁, ⟨T', L', k', n'⟩, -, X', S', G', ⟨Lc, hQ, l1, y1, z1⟩, st'⟩ := callSS X hx (y := y) hown (mvT hZ w1) (mvT hZ w2) (mvT hZ wz) (mvT hZ w3) hy (backOfS (W := W) hM hZ w3 wz hf hl) (g := mkF m pc Ls (argsL.reverse ++ rest)) rfl hsz (argsL := argsL) (rest := rest) hlen rfl (by show 2 * 0 + _ ≤ _; omega) hd (fun _ _ => ⟨rfl, eT, hc, hs⟩)
  dsimp only [Pt.U, Pt.locs, Pt.cells, Pt.slots] at X' S' G' l1 y1 z1 st' hQ
  subst l1 y1 z1
  obtain ⟨X2, S2, Z2, o2⟩ := rebS hS (by rw [eT]; exact hk0) X' S' G' hZ hown
  exact Go.tr st' (k T' Lc v T'.vm _ X2 hQ S2 (Nat.le_refl _) Z2 o2)
theorem Go.virtualW (X : Stand p l e R (s.setVm V) m args below meth c T locs cells slots) (hx : p.tables.exec = Jvm.exec) (hZ : Z.Warmed39 (s.setVm V).vm) {own C : String} {index : Nat} {y : MethodName} (hown : (s.setVm V).vm.findClass own = some m.cls) (w1 : (Jvm.Cond.methodLink own index y).before a0 Z = true) (w2 : (Jvm.Cond.declares y).before a0 Z = true) (w3 : (Jvm.Cond.selects C y y).before a0 Z = true) (w4 : (Jvm.Cond.instanceMethod y).before a0 Z = true)
    {bytes : ByteArray} {maxL : Nat} {ret : Option FieldType} (w5 : (Jvm.Cond.code y bytes maxL ret).before a0 Z = true) (wz : (Jvm.Cond.initialized y.cls).before a0 Z = true) (hy : y.cls ≠ "java/lang/invoke/MethodHandle" ∧ y.cls ≠ "java/lang/invoke/VarHandle")
    {rm : Room} {as' : Array Value} {Qv : Option Value → Heap → List Loc → Prop} (hM : ConW l Z y bytes maxL ret rm as' h Qv) (eT : T.heap = h) (hS : s.Since V k0) (hk0 : k0 ≤ h.size) {a : Addr} (E : Exa Z h a C) {pc q : Nat} {Ls : Array Slot} {st : List Value} {argsL rest : List Value} {W : Nat} (hd : decode c.code pc = .ok (.invokevirtual index, 3))
    (hst : st = argsL.reverse ++ .ref a :: rest) (has : as' = (.ref a :: argsL).toArray) (hlen : ∀ sig, parseMethodDescriptor y.desc = some sig → argsL.length = sig.parameters.length) (hsz : Ls.size = c.maxLocals) (hW : (rest.map fun v => v.category).sum ≤ W)
    (hf : rm.frames + 1 ≤ R.frames) (hl : W + (maxL + 11) + rm.locals ≤ R.locals) (hc : cells + rm.cells ≤ R.cells) (hs : slots + rm.slots ≤ R.slots) (hq : pc + 3 = q)
    (k : ∀ (T' : State) (L : List Loc) (v : Option Value) (V' : Vm) (k1 : Nat), Stand p l e R (s.setVm V') m args below meth c T' (locs ++ L) (cells + rm.cells) (slots + rm.slots) → Qv v T'.heap L → s.Since V' k1 → k1 ≤ T'.heap.size → Z.Warmed39 (s.setVm V').vm → (s.setVm V').vm.findClass own = some m.cls → Go p e below Q (T'.setTop (mkF m q Ls (v.toList ++ rest)))) : Go p e below Q (T.setTop (mkF m pc Ls st)) := by
  subst hq hst has
  obtain ⟨cq, kq, qa, -, qc⟩ := isOf hZ eT E
  obtain ⟨v, vm₁, ⟨T', L', k', n'⟩, -, X', S', G', ⟨Lc, hQ, l1, y1, z1⟩, st'⟩ := X.virtualBackS hx (y := y) (z := y) hown (mvT hZ w1) (mvT hZ w2) (notFace_of_selects (args := #[]) (mvT hZ w3)) (mvT hZ w3) (mvT hZ w4) hy (backOfS (W := W) hM hZ w5 wz hf hl) qa qc (g := mkF m pc Ls (argsL.reverse ++ .ref a :: rest)) rfl hsz (Steps.refl _) (argsL := argsL) (rest := rest) hlen rfl (by show 2 * 0 + _ ≤ _; omega) hd (fun _ _ => ⟨rfl, eT, hc, hs⟩)
  dsimp only [Pt.U, Pt.locs, Pt.cells, Pt.slots] at X' S' G' l1 y1 z1 st' hQ
  subst l1 y1 z1
  obtain ⟨X2, S2, Z2, o2⟩ := rebS hS (by rw [eT]; exact hk0) X' S' G' hZ hown
  exact Go.tr st' (k T' Lc v T'.vm _ X2 hQ S2 (Nat.le_refl _) Z2 o2)
end OwnStr

theorem own_wS {Z : State} {a0 : Array Value} (hw : ∀ d ∈ tables_1, d.before a0 Z = true) : ∀ a ∈ Bundle.stringAtoms, a.before a0 Z = true := by
  intro a ha
  simp only [Bundle.stringAtoms, List.mem_cons, List.not_mem_nil, or_false] at ha
  rcases ha with rfl | rfl | rfl | rfl | rfl | rfl | rfl <;> first | exact word hw 16 rfl | exact word hw 17 rfl | exact word hw 18 rfl | exact word hw 19 rfl | exact word hw 20 rfl | exact word hw 21 rfl | exact word hw 22 rfl

theorem pd0 : parseMethodDescriptor "([D[DZ)V" = some ⟨[(.array .double), (.array .double), .boolean], none⟩ := by decide +kernel
theorem pd1 : parseMethodDescriptor "(DD)D" = some ⟨[.double, .double], some .double⟩ := by decide +kernel
theorem pd2 : parseMethodDescriptor "(DD)Lcom/example/nordwind/nordwind/Tolerances;" = some ⟨[.double, .double], some (.object "com/example/nordwind/nordwind/Tolerances")⟩ := by decide +kernel
theorem pd3 : parseMethodDescriptor "(I)V" = some ⟨[.int], none⟩ := by decide +kernel
theorem pd4 : parseMethodDescriptor "()D" = some ⟨[], some .double⟩ := by decide +kernel

section OwnLaw
open Jvm.FP Jvm.FP.Core Jvm.Free.Fl
theorem own_r63 : Rep (P2 63 * P2 1074) := rep_of 1 1137 (by decide) (by decide) (by rw [Int.one_mul, ← P2_add])
theorem own_r64 : Rep (P2 64 * P2 1074) := rep_of 1 1138 (by decide) (by decide) (by rw [Int.one_mul, ← P2_add])
theorem own_den {p u v : Int32} {d : UInt64} (h1 : p &&& 65535 = u) (h2 : u + 1 = v) (h3 : FP.i2d v = d) : DFin d ∧ P2 1074 ≤ Zv d ∧ Zv d ≤ 65536 * P2 1074 := by
  have e := c_mask p 65535 16 (by decide) (by decide)
  rw [h1] at e
  have f := c_iadd u 1
  rw [h2] at f
  have o : (1 : Int32).toInt = 1 := rfl
  have r := rng32 v
  have hU := P2_pos 1074
  have z : Zv d = v.toInt * P2 1074 := by rw [← h3]; exact i2d_eq v
  have g1 : 1 ≤ v.toInt := by omega
  have g2 : v.toInt ≤ 65536 := by omega
  refine ⟨h3 ▸ i2d_dfin v, ?_, ?_⟩
  · rw [z]; have := Int.mul_le_mul_of_nonneg_right g1 (Int.le_of_lt hU); rw [Int.one_mul] at this; exact this
  · rw [z]; exact Int.mul_le_mul_of_nonneg_right g2 (Int.le_of_lt hU)
theorem own_num {p u : Int64} {x : UInt64} (h1 : p &&& 9223372036854775807 = u) (h2 : FP.l2d u = x) : DFin x ∧ 0 ≤ Zv x ∧ Zv x ≤ P2 63 * P2 1074 := by
  have e := c_maskL p 9223372036854775807 63 (by decide) (by decide)
  rw [h1] at e
  have hU := P2_pos 1074
  have p63 : P2 63 = 9223372036854775808 := by decide
  subst h2
  refine ⟨l2d_dfin u, l2d_in rep_zero own_r63 (Int.mul_nonneg (by omega) (Int.le_of_lt hU)) (Int.mul_le_mul_of_nonneg_right (by rw [p63]; omega) (Int.le_of_lt hU))⟩
theorem own_inc {x : UInt64} (h : DFin x ∧ 0 ≤ Zv x ∧ Zv x ≤ P2 63 * P2 1074) : DFin (FP.dadd x 4607182418800017408) ∧ P2 1074 ≤ Zv (FP.dadd x 4607182418800017408) ∧ Zv (FP.dadd x 4607182418800017408) ≤ P2 64 * P2 1074 := by
  obtain ⟨h1, h2, h3⟩ := h
  have hU := P2_pos 1074
  have p64 : P2 64 * P2 1074 = P2 63 * P2 1074 + P2 63 * P2 1074 := by rw [show P2 64 = P2 63 + P2 63 by decide, Int.add_mul]
  have p63 : P2 1074 ≤ P2 63 * P2 1074 := by have := Int.mul_le_mul_of_nonneg_right (show 1 ≤ P2 63 by decide) (Int.le_of_lt hU); rw [Int.one_mul] at this; exact this
  have r1 : Rep (P2 1074) := rep_of 1 1074 (by decide) (by decide) (by rw [Int.one_mul])
  exact add_in h1 one_fin r1 own_r64 (by rw [one_z, Int.one_mul]; omega) (by rw [one_z, Int.one_mul, p64]; omega)
theorem own_quo {a d : UInt64} (ha : DFin a) (hd : DFin d ∧ P2 1074 ≤ Zv d ∧ Zv d ≤ 65536 * P2 1074) (h0 : 0 ≤ Zv a) (h1 : Zv a ≤ P2 64 * P2 1074) : DFin (FP.ddiv a d) ∧ 0 ≤ Zv (FP.ddiv a d) ∧ Zv (FP.ddiv a d) ≤ P2 64 * P2 1074 := by
  have hU := P2_pos 1074
  have hp : 0 < Zv d := by omega
  refine div_in ha hd.1 hp rep_zero own_r64 (by rw [Int.zero_mul]; exact Int.mul_nonneg h0 (Int.le_of_lt hU)) ?_
  exact Int.mul_le_mul h1 hd.2.1 (Int.le_of_lt hU) (Int.le_trans h0 h1)
theorem own_quo_pos {a d : UInt64} (ha : DFin a) (hd : DFin d ∧ P2 1074 ≤ Zv d ∧ Zv d ≤ 65536 * P2 1074) (h0 : P2 1074 ≤ Zv a) : 0 < Zv (FP.ddiv a d) := by
  have hU := P2_pos 1074
  have h58 := P2_pos 1058
  have hp : 0 < Zv d := by omega
  have r1 : Rep (P2 1058) := rep_of 1 1058 (by decide) (by decide) (by rw [Int.one_mul])
  refine Int.lt_of_lt_of_le h58 (div_ge ha hd.1 hp r1 ?_)
  have e : P2 1058 * (65536 * P2 1074) = P2 1074 * P2 1074 := by
    rw [← Int.mul_assoc]
    have : P2 1058 * 65536 = P2 1074 := by rw [show (65536 : Int) = P2 16 by decide, ← P2_add]
    rw [this]
  refine Int.le_trans (Int.mul_le_mul_of_nonneg_left hd.2.2 (Int.le_of_lt h58)) ?_
  rw [e]
  exact Int.mul_le_mul_of_nonneg_right h0 (Int.le_of_lt hU)
theorem own_infz : P2 64 * P2 1074 < Zv 9218868437227405312 := by unfold Zv P2; decide +kernel
theorem own_inf {x : UInt64} (hx : DFin x) (h : Zv x ≤ P2 64 * P2 1074) : ¬ cmpValue (FP.dcmp x 9218868437227405312) .l = 0 := by
  rw [show FP.dcmp x 9218868437227405312 = some .lt from dcmp_lt.mpr ⟨hx.ne_nan, (Core.notNaN_iff _).mp (by decide), Int.lt_of_le_of_lt h own_infz⟩]; decide
def own_okA (x : UInt64) : Prop := (0 : Int32) < cmpValue (FP.dcmp x 0) .l ∧ ¬ cmpValue (FP.dcmp x 9218868437227405312) .l = 0
def own_okR (y : UInt64) : Prop := ¬ cmpValue (FP.dcmp y 0) .l < 0 ∧ ¬ cmpValue (FP.dcmp y 9218868437227405312) .l = 0
theorem own_A {p u : Int64} {x n : UInt64} {i v w : Int32} {d a : UInt64} (h1 : p &&& 9223372036854775807 = u) (h2 : FP.l2d u = x) (h3 : FP.dadd x 4607182418800017408 = n) (k1 : i &&& 65535 = v) (k2 : v + 1 = w) (k3 : FP.i2d w = d) (h4 : FP.ddiv n d = a) : NoNaN64 (FP.dadd x 4607182418800017408) ∧ NoNaN64 (FP.ddiv n d) ∧ own_okA a := by
  have a1 := own_inc (own_num h1 h2)
  have a2 := own_den k1 k2 k3
  have nn := (nn_of a1.1)
  rw [h3] at a1
  have hU := P2_pos 1074
  have a3 := own_quo a1.1 a2 (by omega) a1.2.2
  have a4 := own_quo_pos a1.1 a2 a1.2.1
  refine ⟨nn, (nn_of a3.1), ?_⟩
  rw [h4] at a3 a4
  refine ⟨?_, own_inf a3.1 a3.2.2⟩
  rw [cmp_gt a3.1 zero_fin _ (by rw [zero_z]; exact a4)]; decide
theorem own_R {p u : Int64} {x : UInt64} {i v w : Int32} {d a : UInt64} (h1 : p &&& 9223372036854775807 = u) (h2 : FP.l2d u = x) (k1 : i &&& 65535 = v) (k2 : v + 1 = w) (k3 : FP.i2d w = d) (h4 : FP.ddiv x d = a) : NoNaN64 (FP.ddiv x d) ∧ own_okR a ∧ DFin a ∧ 0 ≤ Zv a := by
  have a1 := own_num h1 h2
  have a2 := own_den k1 k2 k3
  have hU := P2_pos 1074
  have p64 : P2 64 * P2 1074 = P2 63 * P2 1074 + P2 63 * P2 1074 := by rw [show P2 64 = P2 63 + P2 63 by decide, Int.add_mul]
  have a3 := own_quo a1.1 a2 a1.2.1 (by omega)
  refine ⟨(nn_of a3.1), ?_⟩
  rw [h4] at a3
  refine ⟨⟨?_, own_inf a3.1 a3.2.2⟩, a3.1, a3.2.1⟩
  rcases Int.lt_or_eq_of_le a3.2.1 with z | z
  · rw [cmp_gt a3.1 zero_fin _ (by rw [zero_z]; exact z)]; decide
  · rw [cmp_eq a3.1 zero_fin _ (by rw [zero_z]; exact z.symm)]; decide
def own_max (y : UInt64) : UInt64 := Native.java_lang_Math.nans.pick64 true 0 y
theorem own_max_eq {y : UInt64} (hy : DFin y) (h0 : 0 ≤ Zv y) (o : CmpOp) : cmpValue (FP.dcmp (own_max y) y) o = 0 := by
  rcases Int.lt_or_eq_of_le h0 with z | z
  · have e : own_max y = y := by
      delta own_max Native.java_lang_Math.nans.pick64
      rw [show FP.dcmp 0 y = some .lt from dcmp_lt.mpr ⟨zero_fin.ne_nan, hy.ne_nan, by rw [show zval b64 (val64 (0 : UInt64)) = 0 from zero_z]; exact z⟩]
      rfl
    rw [e]; exact cmp_eq hy hy o rfl
  · have e : own_max y = 0 := by
      delta own_max Native.java_lang_Math.nans.pick64
      rw [show FP.dcmp 0 y = some .eq from dcmp_eq.mpr ⟨zero_fin.ne_nan, hy.ne_nan, by rw [show zval b64 (val64 (0 : UInt64)) = 0 from zero_z]; exact z⟩]
      exact if_neg (by decide)
    rw [e]; exact cmp_eq zero_fin hy o (by rw [zero_z]; exact z)
theorem own_zero_nn : NoNaN64 0 := (nn_of zero_fin)
end OwnLaw

theorem d2_0 : decode prog_44_method_1_code 0 = .ok (.aload_n 0, 1) := by decide +kernel
theorem d2_1 : decode prog_44_method_1_code 1 = .ok (.invokespecial 1, 3) := by decide +kernel
theorem d2_4 : decode prog_44_method_1_code 4 = .ok (.iconst 0, 1) := by decide +kernel
theorem d2_5 : decode prog_44_method_1_code 5 = .ok (.istore 4, 2) := by decide +kernel
theorem d2_7 : decode prog_44_method_1_code 7 = .ok (.iload 4, 2) := by decide +kernel
theorem d2_9 : decode prog_44_method_1_code 9 = .ok (.aload_n 1, 1) := by decide +kernel
theorem d2_10 : decode prog_44_method_1_code 10 = .ok (.arraylength, 1) := by decide +kernel
theorem d2_11 : decode prog_44_method_1_code 11 = .ok (.if_icmp .ge 105, 3) := by decide +kernel
theorem d2_14 : decode prog_44_method_1_code 14 = .ok (.iload_n 3, 1) := by decide +kernel
theorem d2_15 : decode prog_44_method_1_code 15 = .ok (.ifCond .eq 13, 3) := by decide +kernel
theorem d2_18 : decode prog_44_method_1_code 18 = .ok (.iload 4, 2) := by decide +kernel
theorem d2_20 : decode prog_44_method_1_code 20 = .ok (.invokedynamic 7, 5) := by decide +kernel
theorem d2_25 : decode prog_44_method_1_code 25 = .ok (.goto 5, 3) := by decide +kernel
theorem d2_28 : decode prog_44_method_1_code 28 = .ok (.ldc 11, 2) := by decide +kernel
theorem d2_30 : decode prog_44_method_1_code 30 = .ok (.astore 5, 2) := by decide +kernel
theorem d2_32 : decode prog_44_method_1_code 32 = .ok (.aload_n 1, 1) := by decide +kernel
theorem d2_33 : decode prog_44_method_1_code 33 = .ok (.iload 4, 2) := by decide +kernel
theorem d2_35 : decode prog_44_method_1_code 35 = .ok (.daload, 1) := by decide +kernel
theorem d2_36 : decode prog_44_method_1_code 36 = .ok (.dconst 0, 1) := by decide +kernel
theorem d2_37 : decode prog_44_method_1_code 37 = .ok (.dcmp .l, 1) := by decide +kernel
theorem d2_38 : decode prog_44_method_1_code 38 = .ok (.ifCond .le 14, 3) := by decide +kernel
theorem d2_41 : decode prog_44_method_1_code 41 = .ok (.aload_n 1, 1) := by decide +kernel
theorem d2_42 : decode prog_44_method_1_code 42 = .ok (.iload 4, 2) := by decide +kernel
theorem d2_44 : decode prog_44_method_1_code 44 = .ok (.daload, 1) := by decide +kernel
theorem d2_45 : decode prog_44_method_1_code 45 = .ok (.ldc2_w 15, 3) := by decide +kernel
theorem d2_48 : decode prog_44_method_1_code 48 = .ok (.dcmp .l, 1) := by decide +kernel
theorem d2_49 : decode prog_44_method_1_code 49 = .ok (.ifCond .ne 22, 3) := by decide +kernel
theorem d2_52 : decode prog_44_method_1_code 52 = .ok (.new 17, 3) := by decide +kernel
theorem d2_55 : decode prog_44_method_1_code 55 = .ok (.dup, 1) := by decide +kernel
theorem d2_56 : decode prog_44_method_1_code 56 = .ok (.aload_n 1, 1) := by decide +kernel
theorem d2_57 : decode prog_44_method_1_code 57 = .ok (.iload 4, 2) := by decide +kernel
theorem d2_59 : decode prog_44_method_1_code 59 = .ok (.daload, 1) := by decide +kernel
theorem d2_60 : decode prog_44_method_1_code 60 = .ok (.aload 5, 2) := by decide +kernel
theorem d2_62 : decode prog_44_method_1_code 62 = .ok (.invokedynamic 19, 5) := by decide +kernel
theorem d2_67 : decode prog_44_method_1_code 67 = .ok (.invokespecial 22, 3) := by decide +kernel
theorem d2_70 : decode prog_44_method_1_code 70 = .ok (.athrow, 1) := by decide +kernel
theorem d2_71 : decode prog_44_method_1_code 71 = .ok (.aload_n 2, 1) := by decide +kernel
theorem d2_72 : decode prog_44_method_1_code 72 = .ok (.iload 4, 2) := by decide +kernel
theorem d2_74 : decode prog_44_method_1_code 74 = .ok (.daload, 1) := by decide +kernel
theorem d2_75 : decode prog_44_method_1_code 75 = .ok (.dconst 0, 1) := by decide +kernel
theorem d2_76 : decode prog_44_method_1_code 76 = .ok (.dcmp .l, 1) := by decide +kernel
theorem d2_77 : decode prog_44_method_1_code 77 = .ok (.ifCond .lt 14, 3) := by decide +kernel
theorem d2_80 : decode prog_44_method_1_code 80 = .ok (.aload_n 2, 1) := by decide +kernel
theorem d2_81 : decode prog_44_method_1_code 81 = .ok (.iload 4, 2) := by decide +kernel
theorem d2_83 : decode prog_44_method_1_code 83 = .ok (.daload, 1) := by decide +kernel
theorem d2_84 : decode prog_44_method_1_code 84 = .ok (.ldc2_w 15, 3) := by decide +kernel
theorem d2_87 : decode prog_44_method_1_code 87 = .ok (.dcmp .l, 1) := by decide +kernel
theorem d2_88 : decode prog_44_method_1_code 88 = .ok (.ifCond .ne 22, 3) := by decide +kernel
theorem d2_91 : decode prog_44_method_1_code 91 = .ok (.new 17, 3) := by decide +kernel
theorem d2_94 : decode prog_44_method_1_code 94 = .ok (.dup, 1) := by decide +kernel
theorem d2_95 : decode prog_44_method_1_code 95 = .ok (.aload_n 2, 1) := by decide +kernel
theorem d2_96 : decode prog_44_method_1_code 96 = .ok (.iload 4, 2) := by decide +kernel
theorem d2_98 : decode prog_44_method_1_code 98 = .ok (.daload, 1) := by decide +kernel
theorem d2_99 : decode prog_44_method_1_code 99 = .ok (.aload 5, 2) := by decide +kernel
theorem d2_101 : decode prog_44_method_1_code 101 = .ok (.invokedynamic 25, 5) := by decide +kernel
theorem d2_106 : decode prog_44_method_1_code 106 = .ok (.invokespecial 22, 3) := by decide +kernel
theorem d2_109 : decode prog_44_method_1_code 109 = .ok (.athrow, 1) := by decide +kernel
theorem d2_110 : decode prog_44_method_1_code 110 = .ok (.iinc 4 1, 3) := by decide +kernel
theorem d2_113 : decode prog_44_method_1_code 113 = .ok (.goto (-106), 3) := by decide +kernel
theorem d2_116 : decode prog_44_method_1_code 116 = .ok (.aload_n 0, 1) := by decide +kernel
theorem d2_117 : decode prog_44_method_1_code 117 = .ok (.aload_n 1, 1) := by decide +kernel
theorem d2_118 : decode prog_44_method_1_code 118 = .ok (.putfield 26, 3) := by decide +kernel
theorem d2_121 : decode prog_44_method_1_code 121 = .ok (.aload_n 0, 1) := by decide +kernel
theorem d2_122 : decode prog_44_method_1_code 122 = .ok (.aload_n 2, 1) := by decide +kernel
theorem d2_123 : decode prog_44_method_1_code 123 = .ok (.putfield 32, 3) := by decide +kernel
theorem d2_126 : decode prog_44_method_1_code 126 = .ok (.aload_n 0, 1) := by decide +kernel
theorem d2_127 : decode prog_44_method_1_code 127 = .ok (.iload_n 3, 1) := by decide +kernel
theorem d2_128 : decode prog_44_method_1_code 128 = .ok (.putfield 35, 3) := by decide +kernel
theorem d2_131 : decode prog_44_method_1_code 131 = .ok (.return_, 1) := by decide +kernel
set_option maxRecDepth 65536 in
set_option maxHeartbeats 40000000 in
theorem rm_init (l : Launch) (Z : State) (a0 : Array Value) (hw : ∀ d ∈ tables_1, d.before a0 Z = true) (a1 : Addr) (a2 : Addr) (a3 : Addr) (k2 : ClassId) (k3 : ClassId) (x : UInt64) (y : UInt64) (o1 : Value) (o2 : Value) (o3 : Value) (h0 : Heap) (n0 : Nat) (Z0 : n0 ≤ h0.size) (E1 : Exa Z h0 a1 "com/example/nordwind/nordwind/Tolerances") (F1 : Fld Z h0 a1 "com/example/nordwind/nordwind/Tolerances" "absolute" "[D" o1) (F2 : Fld Z h0 a1 "com/example/nordwind/nordwind/Tolerances" "relative" "[D" o2) (F3 : Fld Z h0 a1 "com/example/nordwind/nordwind/Tolerances" "perComponent" "Z" o3) (R1 : Row Z h0 a2 .double k2 [(.double x)]) (R2 : Row Z h0 a3 .double k3 [(.double y)]) (g1 : n0 ≤ a1) (hA : own_okA x) (hR : own_okR y) :
    ConW l Z (⟨"com/example/nordwind/nordwind/Tolerances", "<init>", "([D[DZ)V"⟩ : MethodName) prog_44_method_1_code 6 none ({ frames := 1, cells := 2, slots := 4, locals := 12 } : Room) #[(.ref a1), (.ref a2), (.ref a3), (.int (0 : Int32))] h0 (fun vR hR LR => vR = none ∧ Fr n0 LR ∧ Keep h0 hR [a1] ∧ Exa Z hR a1 "com/example/nordwind/nordwind/Tolerances" ∧ Fld Z hR a1 "com/example/nordwind/nordwind/Tolerances" "relative" "[D" (.ref a3) ∧ Fld Z hR a1 "com/example/nordwind/nordwind/Tolerances" "perComponent" "Z" (.int (0 : Int32))) := by
  refine enterW (l := l) (Z := Z) (y := (⟨"com/example/nordwind/nordwind/Tolerances", "<init>", "([D[DZ)V"⟩ : MethodName)) (bytes := prog_44_method_1_code) (maxL := 6) (ret := none) (ws := []) (rm := ({ frames := 1, cells := 2, slots := 4, locals := 12 } : Room)) (as' := #[(.ref a1), (.ref a2), (.ref a3), (.int (0 : Int32))]) (h0 := h0) (Qv := (fun vR hR LR => vR = none ∧ Fr n0 LR ∧ Keep h0 hR [a1] ∧ Exa Z hR a1 "com/example/nordwind/nordwind/Tolerances" ∧ Fld Z hR a1 "com/example/nordwind/nordwind/Tolerances" "relative" "[D" (.ref a3) ∧ Fld Z hR a1 "com/example/nordwind/nordwind/Tolerances" "perComponent" "Z" (.int (0 : Int32)))) (kc := 2) (ks := 4) (by first | exact plainFor_of_name (by first | (simp [plainName, overriddenIn]; done) | decide +kernel) | decide +kernel) (Ls := #[.val (.ref a1), .val (.ref a2), .val (.ref a3), .val (.int (0 : Int32)), .unset, .unset]) (fun m => by first | (simp [entryFrame, mkF, argsToLocals, Value.category]; done) | rfl) ?_
  intro p e s m below meth c s₁ V0 k0 hx hby hml hown hnm hret hlk hZ X0 e0 S0 K0
  have hown : (s.setVm V0).vm.findClass "com/example/nordwind/nordwind/Tolerances" = some m.cls := hown
  have hml : c.maxLocals = 6 := hml
  have N0 := Fr.nil n0
  refine Go.aloadN X0.here hx (Jvm.hb hby d2_0) rfl rfl (q := 1) rfl ?_
  refine Go.init X0 hx hZ hown (word hw 12 rfl) (word hw 13 rfl) (word hw 14 rfl) e0 (Jvm.hb hby d2_1) (by rw [hml]; rfl) (by decide) (W := 0) (Nat.le_of_eq rfl) (by decide) (q := 4) rfl ?_
  intro T101 X101 e101
  refine Go.iconst X101.here hx (Jvm.hb hby d2_4) (v := (0 : Int32)) rfl (q := 5) rfl ?_
  refine Go.istore X101.here hx (Jvm.hb hby d2_5) (l2 := #[.val (.ref a1), .val (.ref a2), .val (.ref a3), .val (.int (0 : Int32)), .val (.int (0 : Int32)), .unset]) rfl (q := 7) rfl ?_
  refine Go.iload X101.here hx (Jvm.hb hby d2_7) rfl (q := 9) rfl ?_
  refine Go.aloadN X101.here hx (Jvm.hb hby d2_9) rfl rfl (q := 10) rfl ?_
  refine Go.alen X101 hx hZ e101 R1 (Jvm.hb hby d2_10) (n := (1 : Int32)) (by first | rfl | decide) (q := 11) rfl ?_
  have hc11_103 : (0 : Int32) < (1 : Int32) := by decide
  refine Go.icmpN X101.here hx (Jvm.hb hby d2_11) (tlt hc11_103).2.1 (q := 14) rfl ?_
  refine Go.iloadN X101.here hx (Jvm.hb hby d2_14) rfl (q := 15) rfl ?_
  have hc15_105 : (0 : Int32) = (0 : Int32) := by decide
  refine Go.ifY X101.here hx (Jvm.hb hby d2_15) ((if0 _ _).trans (teq hc15_105).1) (by decide) (q := 28) rfl ?_
  refine Go.ldcStr X101 hx hZ hown (word hw 15 rfl) (own_wS hw) e101 S0 K0 (Jvm.hb hby d2_28) (n := 0) (by decide) (by decide) (by decide) (by decide) (q := 30) rfl ?_
  intro T106 h106 a106 V106 k1_106 X106 e106 E106 S106 KS106 hZ hown
  refine Go.astore X106.here hx (Jvm.hb hby d2_30) rfl (l2 := #[.val (.ref a1), .val (.ref a2), .val (.ref a3), .val (.int (0 : Int32)), .val (.int (0 : Int32)), .val (.ref a106)]) rfl (q := 32) rfl ?_
  refine Go.aloadN X106.here hx (Jvm.hb hby d2_32) rfl rfl (q := 33) rfl ?_
  refine Go.iload X106.here hx (Jvm.hb hby d2_33) rfl (q := 35) rfl ?_
  have f107 := R1.ext E106
  refine Go.daload X106 hx hZ e106 f107 (Jvm.hb hby d2_35) (i := 0) (by decide) (by decide) rfl (q := 36) rfl ?_
  refine Go.dconst0 X106.here hx (Jvm.hb hby d2_36) (v := (0 : UInt64)) rfl (q := 37) rfl ?_
  obtain ⟨u37, hu37⟩ : ∃ zq, cmpValue (FP.dcmp x (0 : UInt64)) .l = zq := ⟨_, rfl⟩
  refine Go.dcmp X106.here hx (Jvm.hb hby d2_37) hu37 (q := 38) rfl ?_
  have hc38 : (0 : Int32) < u37 := by rw [← hu37]; exact hA.1
  refine Go.ifN X106.here hx (Jvm.hb hby d2_38) ((if0 _ _).trans (tlt hc38).2.2.2) (q := 41) rfl ?_
  refine Go.aloadN X106.here hx (Jvm.hb hby d2_41) rfl rfl (q := 42) rfl ?_
  refine Go.iload X106.here hx (Jvm.hb hby d2_42) rfl (q := 44) rfl ?_
  refine Go.daload X106 hx hZ e106 f107 (Jvm.hb hby d2_44) (i := 0) (by decide) (by decide) rfl (q := 45) rfl ?_
  refine Go.ldc2D X106 hx hown (mvT hZ (word hw 23 rfl)) (Jvm.hb hby d2_45) (q := 48) rfl ?_
  obtain ⟨u48, hu48⟩ : ∃ zq, cmpValue (FP.dcmp x (9218868437227405312 : UInt64)) .l = zq := ⟨_, rfl⟩
  refine Go.dcmp X106.here hx (Jvm.hb hby d2_48) hu48 (q := 49) rfl ?_
  have hc49 : ¬ (u48 = (0 : Int32)) := by rw [← hu48]; exact hA.2
  refine Go.ifY X106.here hx (Jvm.hb hby d2_49) ((if0 _ _).trans (feq hc49).2) (by decide) (q := 71) rfl ?_
  refine Go.aloadN X106.here hx (Jvm.hb hby d2_71) rfl rfl (q := 72) rfl ?_
  refine Go.iload X106.here hx (Jvm.hb hby d2_72) rfl (q := 74) rfl ?_
  have f110 := R2.ext E106
  refine Go.daload X106 hx hZ e106 f110 (Jvm.hb hby d2_74) (i := 0) (by decide) (by decide) rfl (q := 75) rfl ?_
  refine Go.dconst0 X106.here hx (Jvm.hb hby d2_75) (v := (0 : UInt64)) rfl (q := 76) rfl ?_
  obtain ⟨u76, hu76⟩ : ∃ zq, cmpValue (FP.dcmp y (0 : UInt64)) .l = zq := ⟨_, rfl⟩
  refine Go.dcmp X106.here hx (Jvm.hb hby d2_76) hu76 (q := 77) rfl ?_
  have hc77 : ¬ (u76 < (0 : Int32)) := by rw [← hu76]; exact hR.1
  refine Go.ifN X106.here hx (Jvm.hb hby d2_77) ((if0 _ _).trans (flt hc77).1) (q := 80) rfl ?_
  refine Go.aloadN X106.here hx (Jvm.hb hby d2_80) rfl rfl (q := 81) rfl ?_
  refine Go.iload X106.here hx (Jvm.hb hby d2_81) rfl (q := 83) rfl ?_
  refine Go.daload X106 hx hZ e106 f110 (Jvm.hb hby d2_83) (i := 0) (by decide) (by decide) rfl (q := 84) rfl ?_
  refine Go.ldc2D X106 hx hown (mvT hZ (word hw 23 rfl)) (Jvm.hb hby d2_84) (q := 87) rfl ?_
  obtain ⟨u87, hu87⟩ : ∃ zq, cmpValue (FP.dcmp y (9218868437227405312 : UInt64)) .l = zq := ⟨_, rfl⟩
  refine Go.dcmp X106.here hx (Jvm.hb hby d2_87) hu87 (q := 88) rfl ?_
  have hc88 : ¬ (u87 = (0 : Int32)) := by rw [← hu87]; exact hR.2
  refine Go.ifY X106.here hx (Jvm.hb hby d2_88) ((if0 _ _).trans (feq hc88).2) (by decide) (q := 110) rfl ?_
  refine Go.iinc X106.here hx (Jvm.hb hby d2_110) rfl (v := (1 : Int32)) (by decide) (l2 := #[.val (.ref a1), .val (.ref a2), .val (.ref a3), .val (.int (0 : Int32)), .val (.int (1 : Int32)), .val (.ref a106)]) rfl (q := 113) rfl ?_
  refine Go.goto X106.here hx (Jvm.hb hby d2_113) (by decide) (q := 7) rfl ?_
  refine Go.iload X106.here hx (Jvm.hb hby d2_7) rfl (q := 9) rfl ?_
  refine Go.aloadN X106.here hx (Jvm.hb hby d2_9) rfl rfl (q := 10) rfl ?_
  refine Go.alen X106 hx hZ e106 f107 (Jvm.hb hby d2_10) (n := (1 : Int32)) (by first | rfl | decide) (q := 11) rfl ?_
  have hc11_114 : ¬ ((1 : Int32) < (1 : Int32)) := by decide
  refine Go.icmpY X106.here hx (Jvm.hb hby d2_11) (flt hc11_114).2.1 (by decide) (q := 116) rfl ?_
  refine Go.aloadN X106.here hx (Jvm.hb hby d2_116) rfl rfl (q := 117) rfl ?_
  refine Go.aloadN X106.here hx (Jvm.hb hby d2_117) rfl rfl (q := 118) rfl ?_
  have f116 := F1.ext E106
  have f117 := E1.ext E106
  refine Go.putf X106 hx hZ hown (word hw 24 rfl) e106 f116 f117 (Or.inr ⟨(word hw 25 rfl), rfl, hnm⟩) (word hw 7 rfl) (ty := (.array .double)) (by decide) rfl rfl (Jvm.hb hby d2_118) (q := 121) rfl ?_
  intro T115 h115 X115 e115 W115
  have N115 := Fr.snoc X115 N0 g1
  have F115 := f116.same W115
  refine Go.aloadN X115.here hx (Jvm.hb hby d2_121) rfl rfl (q := 122) rfl ?_
  refine Go.aloadN X115.here hx (Jvm.hb hby d2_122) rfl rfl (q := 123) rfl ?_
  have f119 := F2.ext E106
  have f120 := f119.other W115 (Or.inr (Jvm.RoadKit.slot_ne (Or.inr (word hw 27 rfl)) (Or.inr (word hw 25 rfl)) (by decide) (t := (.array .double)) (t' := (.array .double)) (by decide) (by decide)))
  have f121 := f117.wr W115
  refine Go.putf X115 hx hZ hown (word hw 26 rfl) e115 f120 f121 (Or.inr ⟨(word hw 27 rfl), rfl, hnm⟩) (word hw 7 rfl) (ty := (.array .double)) (by decide) rfl rfl (Jvm.hb hby d2_123) (q := 126) rfl ?_
  intro T118 h118 X118 e118 W118
  have N118 := Fr.snoc X118 N115 g1
  have F118 := f120.same W118
  refine Go.aloadN X118.here hx (Jvm.hb hby d2_126) rfl rfl (q := 127) rfl ?_
  refine Go.iloadN X118.here hx (Jvm.hb hby d2_127) rfl (q := 128) rfl ?_
  have f123 := F3.ext E106
  have f124 := f123.other W115 (Or.inr (Jvm.RoadKit.slot_ne (Or.inr (word hw 29 rfl)) (Or.inr (word hw 25 rfl)) (by decide) (t := .boolean) (t' := (.array .double)) (by decide) (by decide)))
  have f125 := f124.other W118 (Or.inr (Jvm.RoadKit.slot_ne (Or.inr (word hw 29 rfl)) (Or.inr (word hw 27 rfl)) (by decide) (t := .boolean) (t' := (.array .double)) (by decide) (by decide)))
  have f126 := f121.wr W118
  refine Go.putf X118 hx hZ hown (word hw 28 rfl) e118 f125 f126 (Or.inr ⟨(word hw 29 rfl), rfl, hnm⟩) (word hw 7 rfl) (ty := .boolean) (by decide) rfl rfl (Jvm.hb hby d2_128) (q := 131) rfl ?_
  intro T122 h122 X122 e122 W122
  have N122 := Fr.snoc X122 N118 g1
  have F122 := f125.same W122
  have kz127 : k1_106 ≤ h115.size := Nat.le_trans KS106 (Nat.le_of_eq W115.size.symm)
  have kz128 : k1_106 ≤ h118.size := Nat.le_trans kz127 (Nat.le_of_eq W118.size.symm)
  have kz129 : k1_106 ≤ h122.size := Nat.le_trans kz128 (Nat.le_of_eq W122.size.symm)
  have k130 : Keep h0 h106 [a1] := (Keep.refl h0 [a1]).ext E106
  have k131 : Keep h0 h115 [a1] := k130.wr W115 (Or.inl (List.mem_of_getElem? (i := 0) rfl))
  have k132 : Keep h0 h118 [a1] := k131.wr W118 (Or.inl (List.mem_of_getElem? (i := 0) rfl))
  have k133 : Keep h0 h122 [a1] := k132.wr W122 (Or.inl (List.mem_of_getElem? (i := 0) rfl))
  have f134 := f126.wr W122
  have f135 := F118.other W122 (Or.inr (Jvm.RoadKit.slot_ne (Or.inr (word hw 27 rfl)) (Or.inr (word hw 29 rfl)) (by decide) (t := (.array .double)) (t' := .boolean) (by decide) (by decide)))
  refine Go.retVW X122 S106 (by rw [e122]; exact kz129) hx hret hlk (Jvm.hb hby d2_131) (by decide) (by decide) ?_
  rw [e122]
  exact ⟨rfl, N122, k133, f134, f135, F122⟩
theorem d1_0 : decode prog_44_method_2_code 0 = .ok (.new 27, 3) := by decide +kernel
theorem d1_3 : decode prog_44_method_2_code 3 = .ok (.dup, 1) := by decide +kernel
theorem d1_4 : decode prog_44_method_2_code 4 = .ok (.iconst 1, 1) := by decide +kernel
theorem d1_5 : decode prog_44_method_2_code 5 = .ok (.newarray .double, 2) := by decide +kernel
theorem d1_7 : decode prog_44_method_2_code 7 = .ok (.dup, 1) := by decide +kernel
theorem d1_8 : decode prog_44_method_2_code 8 = .ok (.iconst 0, 1) := by decide +kernel
theorem d1_9 : decode prog_44_method_2_code 9 = .ok (.dload_n 0, 1) := by decide +kernel
theorem d1_10 : decode prog_44_method_2_code 10 = .ok (.dastore, 1) := by decide +kernel
theorem d1_11 : decode prog_44_method_2_code 11 = .ok (.iconst 1, 1) := by decide +kernel
theorem d1_12 : decode prog_44_method_2_code 12 = .ok (.newarray .double, 2) := by decide +kernel
theorem d1_14 : decode prog_44_method_2_code 14 = .ok (.dup, 1) := by decide +kernel
theorem d1_15 : decode prog_44_method_2_code 15 = .ok (.iconst 0, 1) := by decide +kernel
theorem d1_16 : decode prog_44_method_2_code 16 = .ok (.dload_n 2, 1) := by decide +kernel
theorem d1_17 : decode prog_44_method_2_code 17 = .ok (.dastore, 1) := by decide +kernel
theorem d1_18 : decode prog_44_method_2_code 18 = .ok (.iconst 0, 1) := by decide +kernel
theorem d1_19 : decode prog_44_method_2_code 19 = .ok (.invokespecial 39, 3) := by decide +kernel
theorem d1_22 : decode prog_44_method_2_code 22 = .ok (.areturn, 1) := by decide +kernel
set_option maxRecDepth 65536 in
set_option maxHeartbeats 40000000 in
theorem rm_uni (l : Launch) (Z : State) (a0 : Array Value) (hw : ∀ d ∈ tables_1, d.before a0 Z = true) (x : UInt64) (y : UInt64) (h0 : Heap) (n0 : Nat) (Z0 : n0 ≤ h0.size) (hA : own_okA x) (hR : own_okR y) :
    ConW l Z (⟨"com/example/nordwind/nordwind/Tolerances", "uniform", "(DD)Lcom/example/nordwind/nordwind/Tolerances;"⟩ : MethodName) prog_44_method_2_code 4 (some (.object "com/example/nordwind/nordwind/Tolerances")) ({ frames := 2, cells := 5, slots := 9, locals := 30 } : Room) #[(.double x), (.double y)] h0 (fun vR hR LR => ∃ (b : Addr) (ar : Addr) (kr : ClassId), vR = some (.ref b) ∧ Fr n0 LR ∧ Keep h0 hR [] ∧ h0.size ≤ b ∧ h0.size ≤ ar ∧ Exa Z hR b "com/example/nordwind/nordwind/Tolerances" ∧ Fld Z hR b "com/example/nordwind/nordwind/Tolerances" "relative" "[D" (.ref ar) ∧ Fld Z hR b "com/example/nordwind/nordwind/Tolerances" "perComponent" "Z" (.int (0 : Int32)) ∧ Row Z hR ar .double kr [(.double y)]) := by
  refine enterW (l := l) (Z := Z) (y := (⟨"com/example/nordwind/nordwind/Tolerances", "uniform", "(DD)Lcom/example/nordwind/nordwind/Tolerances;"⟩ : MethodName)) (bytes := prog_44_method_2_code) (maxL := 4) (ret := (some (.object "com/example/nordwind/nordwind/Tolerances"))) (ws := []) (rm := ({ frames := 2, cells := 5, slots := 9, locals := 30 } : Room)) (as' := #[(.double x), (.double y)]) (h0 := h0) (Qv := (fun vR hR LR => ∃ (b : Addr) (ar : Addr) (kr : ClassId), vR = some (.ref b) ∧ Fr n0 LR ∧ Keep h0 hR [] ∧ h0.size ≤ b ∧ h0.size ≤ ar ∧ Exa Z hR b "com/example/nordwind/nordwind/Tolerances" ∧ Fld Z hR b "com/example/nordwind/nordwind/Tolerances" "relative" "[D" (.ref ar) ∧ Fld Z hR b "com/example/nordwind/nordwind/Tolerances" "perComponent" "Z" (.int (0 : Int32)) ∧ Row Z hR ar .double kr [(.double y)])) (kc := 5) (ks := 9) (by first | exact plainFor_of_name (by first | (simp [plainName, overriddenIn]; done) | decide +kernel) | decide +kernel) (Ls := #[.val (.double x), .second, .val (.double y), .second]) (fun m => by first | (simp [entryFrame, mkF, argsToLocals, Value.category]; done) | rfl) ?_
  intro p e s m below meth c s₁ V0 k0 hx hby hml hown hnm hret hlk hZ X0 e0 S0 K0
  have hown : (s.setVm V0).vm.findClass "com/example/nordwind/nordwind/Tolerances" = some m.cls := hown
  have hml : c.maxLocals = 4 := hml
  have N0 := Fr.nil n0
  refine Go.new X0 hx hZ hown (word hw 6 rfl) (word hw 7 rfl) (word hw 4 rfl) e0 (Jvm.hb hby d1_0) (by decide) (by decide) (q := 3) rfl ?_
  intro T101 h101 a101 g101 X101 e101 E101 A101 D101
  have r102 : n0 ≤ a101 := Nat.le_trans Z0 (Nat.le_of_eq g101.symm)
  have y102 : h0.size ≤ a101 := Nat.le_trans (Keep.refl h0 []).1 (Nat.le_of_eq g101.symm)
  have F103 : Fld Z h101 a101 "com/example/nordwind/nordwind/Tolerances" "absolute" "[D" .null := D101 (Or.inr (word hw 25 rfl)) (ty := (.array .double)) (by decide)
  have F104 : Fld Z h101 a101 "com/example/nordwind/nordwind/Tolerances" "relative" "[D" .null := D101 (Or.inr (word hw 27 rfl)) (ty := (.array .double)) (by decide)
  have F105 : Fld Z h101 a101 "com/example/nordwind/nordwind/Tolerances" "perComponent" "Z" (.int (0 : Int32)) := D101 (Or.inr (word hw 29 rfl)) (ty := .boolean) (by decide)
  refine Go.dup X101.here hx (Jvm.hb hby d1_3) rfl (q := 4) rfl ?_
  refine Go.iconst X101.here hx (Jvm.hb hby d1_4) (v := (1 : Int32)) rfl (q := 5) rfl ?_
  refine Go.newarr X101 hx hZ (aty := .double) (word hw 8 rfl) e101 (Jvm.hb hby d1_5) (by decide) (k := 1) (by decide) (by decide) (by decide) (by decide) (ad := "[D") (by decide) (q := 7) rfl ?_
  intro T106 h106 a106 kk106 g106 X106 e106 E106 R106 A106
  have z107 : n0 ≤ h101.size := Nat.le_trans Z0 E101.1
  have r108 : n0 ≤ a106 := Nat.le_trans z107 (Nat.le_of_eq g106.symm)
  have k109 : Keep h0 h101 [] := (Keep.refl h0 []).ext E101
  have y108 : h0.size ≤ a106 := Nat.le_trans k109.1 (Nat.le_of_eq g106.symm)
  have R106 : Row Z h106 a106 .double kk106 [(.double (0 : UInt64))] := R106
  refine Go.dup X106.here hx (Jvm.hb hby d1_7) rfl (q := 8) rfl ?_
  refine Go.iconst X106.here hx (Jvm.hb hby d1_8) (v := (0 : Int32)) rfl (q := 9) rfl ?_
  refine Go.dloadN X106.here hx (Jvm.hb hby d1_9) rfl (q := 10) rfl ?_
  refine Go.dastore X106 hx hZ e106 R106 (Jvm.hb hby d1_10) (i := 0) (by decide) (by decide) rfl (q := 11) rfl ?_
  intro T110 h110 X110 e110 W110 R110
  have N110 := Fr.snoc X110 N0 r108
  have R110 : Row Z h110 a106 .double kk106 [(.double x)] := R110
  refine Go.iconst X110.here hx (Jvm.hb hby d1_11) (v := (1 : Int32)) rfl (q := 12) rfl ?_
  refine Go.newarr X110 hx hZ (aty := .double) (word hw 8 rfl) e110 (Jvm.hb hby d1_12) (by decide) (k := 1) (by decide) (by decide) (by decide) (by decide) (ad := "[D") (by decide) (q := 14) rfl ?_
  intro T111 h111 a111 kk111 g111 X111 e111 E111 R111 A111
  have z112 : n0 ≤ h106.size := Nat.le_trans z107 E106.1
  have z113 : n0 ≤ h110.size := Nat.le_trans z112 (Nat.le_of_eq W110.size.symm)
  have r114 : n0 ≤ a111 := Nat.le_trans z113 (Nat.le_of_eq g111.symm)
  have k115 : Keep h0 h106 [] := k109.ext E106
  have k116 : Keep h0 h110 [] := k115.wr W110 (Or.inr y108)
  have y114 : h0.size ≤ a111 := Nat.le_trans k116.1 (Nat.le_of_eq g111.symm)
  have R111 : Row Z h111 a111 .double kk111 [(.double (0 : UInt64))] := R111
  refine Go.dup X111.here hx (Jvm.hb hby d1_14) rfl (q := 15) rfl ?_
  refine Go.iconst X111.here hx (Jvm.hb hby d1_15) (v := (0 : Int32)) rfl (q := 16) rfl ?_
  refine Go.dloadN X111.here hx (Jvm.hb hby d1_16) rfl (q := 17) rfl ?_
  refine Go.dastore X111 hx hZ e111 R111 (Jvm.hb hby d1_17) (i := 0) (by decide) (by decide) rfl (q := 18) rfl ?_
  intro T117 h117 X117 e117 W117 R117
  have N117 := Fr.snoc X117 N110 r114
  have R117 : Row Z h117 a111 .double kk111 [(.double y)] := R117
  refine Go.iconst X117.here hx (Jvm.hb hby d1_18) (v := (0 : Int32)) rfl (q := 19) rfl ?_
  have f119 := A101.ext E106
  have f120 := f119.wr W110
  have f121 := f120.ext E111
  have f122 := f121.wr W117
  have f123 := F103.ext E106
  have ne125 : a101 ≠ a106 := Nat.ne_of_lt (Nat.lt_of_lt_of_le A101.lt (Nat.le_of_eq g106.symm))
  have f124 := f123.other W110 (Or.inl ne125)
  have f126 := f124.ext E111
  have ne128 : a101 ≠ a111 := Nat.ne_of_lt (Nat.lt_of_lt_of_le f120.lt (Nat.le_of_eq g111.symm))
  have f127 := f126.other W117 (Or.inl ne128)
  have f129 := F104.ext E106
  have f130 := f129.other W110 (Or.inl ne125)
  have f131 := f130.ext E111
  have f132 := f131.other W117 (Or.inl ne128)
  have f133 := F105.ext E106
  have f134 := f133.other W110 (Or.inl ne125)
  have f135 := f134.ext E111
  have f136 := f135.other W117 (Or.inl ne128)
  have f137 := R110.ext E111
  have ne139 : a106 ≠ a111 := Nat.ne_of_lt (Nat.lt_of_lt_of_le R110.lt (Nat.le_of_eq g111.symm))
  have f138 := f137.other W117 ne139
  have z140 : n0 ≤ h111.size := Nat.le_trans z113 E111.1
  have z141 : n0 ≤ h117.size := Nat.le_trans z140 (Nat.le_of_eq W117.size.symm)
  have kz142 : k0 ≤ h101.size := Nat.le_trans K0 E101.1
  have kz143 : k0 ≤ h106.size := Nat.le_trans kz142 E106.1
  have kz144 : k0 ≤ h110.size := Nat.le_trans kz143 (Nat.le_of_eq W110.size.symm)
  have kz145 : k0 ≤ h111.size := Nat.le_trans kz144 E111.1
  have kz146 : k0 ≤ h117.size := Nat.le_trans kz145 (Nat.le_of_eq W117.size.symm)
  refine Go.specialW X117 hx hZ (y := (⟨"com/example/nordwind/nordwind/Tolerances", "<init>", "([D[DZ)V"⟩ : MethodName)) rfl hown (word hw 9 rfl) (word hw 10 rfl) (word hw 11 rfl) (word hw 4 rfl) (by decide) (rm_init l Z a0 hw a101 a106 a111 kk106 kk111 x y .null .null (.int (0 : Int32)) h117 n0 z141 f122 f127 f132 f136 f138 R117 r102 hA hR) e117 S0 kz146 (a := a101) (argsL := [(.ref a106), (.ref a111), (.int (0 : Int32))]) (rest := [(.ref a101)]) (W := 1) (Jvm.hb hby d1_19) rfl rfl (lenOf (pd0) rfl) (by rw [hml]; rfl) (Nat.le_of_eq rfl) (by decide) (by decide) (by decide) (by decide) (q := 22) rfl ?_
  intro T118 L118 w118 V118 k1_118 X118 hQ118 S118 KS118 hZ hown
  obtain ⟨rfl, M118, K118, P118_0, P118_1, P118_2⟩ := hQ118
  have N118 := Fr.app N117 M118
  show Go p e below _ (T118.setTop (mkF m 22 #[.val (.double x), .second, .val (.double y), .second] [(.ref a101)]))
  have k147 : Keep h0 h111 [] := k116.ext E111
  have k148 : Keep h0 h117 [] := k147.wr W117 (Or.inr y114)
  have k149 : Keep h0 T118.heap [] := k148.trans K118 (allS (Or.inr y102) all0)
  have f150 := R117.keep K118 (ninS (Ne.symm ne128) nin0)
  refine Go.retAW X118 S118 KS118 hx hret hlk (Jvm.hb hby d1_22) rfl rfl rfl (by decide) (by decide) ?_
  exact ⟨a101, a111, kk111, rfl, N118, k149, y102, y114, P118_0, P118_1, P118_2, f150⟩
theorem d4_0 : decode prog_44_method_4_code 0 = .ok (.aload_n 0, 1) := by decide +kernel
theorem d4_1 : decode prog_44_method_4_code 1 = .ok (.getfield 35, 3) := by decide +kernel
theorem d4_4 : decode prog_44_method_4_code 4 = .ok (.ifCond .eq 31, 3) := by decide +kernel
theorem d4_7 : decode prog_44_method_4_code 7 = .ok (.aload_n 0, 1) := by decide +kernel
theorem d4_8 : decode prog_44_method_4_code 8 = .ok (.getfield 26, 3) := by decide +kernel
theorem d4_11 : decode prog_44_method_4_code 11 = .ok (.arraylength, 1) := by decide +kernel
theorem d4_12 : decode prog_44_method_4_code 12 = .ok (.iload_n 1, 1) := by decide +kernel
theorem d4_13 : decode prog_44_method_4_code 13 = .ok (.if_icmp .eq 22, 3) := by decide +kernel
theorem d4_16 : decode prog_44_method_4_code 16 = .ok (.new 17, 3) := by decide +kernel
theorem d4_19 : decode prog_44_method_4_code 19 = .ok (.dup, 1) := by decide +kernel
theorem d4_20 : decode prog_44_method_4_code 20 = .ok (.aload_n 0, 1) := by decide +kernel
theorem d4_21 : decode prog_44_method_4_code 21 = .ok (.getfield 26, 3) := by decide +kernel
theorem d4_24 : decode prog_44_method_4_code 24 = .ok (.arraylength, 1) := by decide +kernel
theorem d4_25 : decode prog_44_method_4_code 25 = .ok (.iload_n 1, 1) := by decide +kernel
theorem d4_26 : decode prog_44_method_4_code 26 = .ok (.invokedynamic 52, 5) := by decide +kernel
theorem d4_31 : decode prog_44_method_4_code 31 = .ok (.invokespecial 22, 3) := by decide +kernel
theorem d4_34 : decode prog_44_method_4_code 34 = .ok (.athrow, 1) := by decide +kernel
theorem d4_35 : decode prog_44_method_4_code 35 = .ok (.return_, 1) := by decide +kernel
set_option maxRecDepth 65536 in
set_option maxHeartbeats 40000000 in
theorem rm_chk (l : Launch) (Z : State) (a0 : Array Value) (hw : ∀ d ∈ tables_1, d.before a0 Z = true) (a1 : Addr) (n : Int32) (h0 : Heap) (n0 : Nat) (Z0 : n0 ≤ h0.size) (F3 : Fld Z h0 a1 "com/example/nordwind/nordwind/Tolerances" "perComponent" "Z" (.int (0 : Int32))) :
    Con l Z (⟨"com/example/nordwind/nordwind/Tolerances", "checkDimension", "(I)V"⟩ : MethodName) prog_44_method_4_code 2 none ({ frames := 0, cells := 0, slots := 0, locals := 0 } : Room) #[(.ref a1), (.int n)] h0 (fun vR hR LR => vR = none ∧ Fr n0 LR ∧ hR = h0) := by
  refine enter (l := l) (Z := Z) (y := (⟨"com/example/nordwind/nordwind/Tolerances", "checkDimension", "(I)V"⟩ : MethodName)) (bytes := prog_44_method_4_code) (maxL := 2) (ret := none) (ws := []) (rm := ({ frames := 0, cells := 0, slots := 0, locals := 0 } : Room)) (as' := #[(.ref a1), (.int n)]) (h0 := h0) (Qv := (fun vR hR LR => vR = none ∧ Fr n0 LR ∧ hR = h0)) (kc := 0) (ks := 0) (by first | exact plainFor_of_name (by first | (simp [plainName, overriddenIn]; done) | decide +kernel) | decide +kernel) (Ls := #[.val (.ref a1), .val (.int n)]) (fun m => by first | (simp [entryFrame, mkF, argsToLocals, Value.category]; done) | rfl) ?_
  intro p e s m below meth c s₁ hx hby hml hown hnm hret hlk hZ X0 e0
  have hown : s.vm.findClass "com/example/nordwind/nordwind/Tolerances" = some m.cls := hown
  have hml : c.maxLocals = 2 := hml
  have N0 := Fr.nil n0
  refine Go.aloadN X0.here hx (Jvm.hb hby d4_0) rfl rfl (q := 1) rfl ?_
  refine Go.getf X0 hx hZ hown (word hw 28 rfl) e0 F3 (Jvm.hb hby d4_1) (q := 4) rfl ?_
  intro T101 X101 e101
  have hc4_103 : (0 : Int32) = (0 : Int32) := by decide
  refine Go.ifY X101.here hx (Jvm.hb hby d4_4) ((if0 _ _).trans (teq hc4_103).1) (by decide) (q := 35) rfl ?_
  refine Go.retV X101 hx hret hlk (Jvm.hb hby d4_35) (by decide) (by decide) ?_
  exact ⟨rfl, N0, e101⟩
theorem d5_0 : decode prog_44_method_5_code 0 = .ok (.dconst 0, 1) := by decide +kernel
theorem d5_1 : decode prog_44_method_5_code 1 = .ok (.dstore_n 1, 1) := by decide +kernel
theorem d5_2 : decode prog_44_method_5_code 2 = .ok (.aload_n 0, 1) := by decide +kernel
theorem d5_3 : decode prog_44_method_5_code 3 = .ok (.getfield 32, 3) := by decide +kernel
theorem d5_6 : decode prog_44_method_5_code 6 = .ok (.astore_n 3, 1) := by decide +kernel
theorem d5_7 : decode prog_44_method_5_code 7 = .ok (.aload_n 3, 1) := by decide +kernel
theorem d5_8 : decode prog_44_method_5_code 8 = .ok (.arraylength, 1) := by decide +kernel
theorem d5_9 : decode prog_44_method_5_code 9 = .ok (.istore 4, 2) := by decide +kernel
theorem d5_11 : decode prog_44_method_5_code 11 = .ok (.iconst 0, 1) := by decide +kernel
theorem d5_12 : decode prog_44_method_5_code 12 = .ok (.istore 5, 2) := by decide +kernel
theorem d5_14 : decode prog_44_method_5_code 14 = .ok (.iload 5, 2) := by decide +kernel
theorem d5_16 : decode prog_44_method_5_code 16 = .ok (.iload 4, 2) := by decide +kernel
theorem d5_18 : decode prog_44_method_5_code 18 = .ok (.if_icmp .ge 22, 3) := by decide +kernel
theorem d5_21 : decode prog_44_method_5_code 21 = .ok (.aload_n 3, 1) := by decide +kernel
theorem d5_22 : decode prog_44_method_5_code 22 = .ok (.iload 5, 2) := by decide +kernel
theorem d5_24 : decode prog_44_method_5_code 24 = .ok (.daload, 1) := by decide +kernel
theorem d5_25 : decode prog_44_method_5_code 25 = .ok (.dstore 6, 2) := by decide +kernel
theorem d5_27 : decode prog_44_method_5_code 27 = .ok (.dload_n 1, 1) := by decide +kernel
theorem d5_28 : decode prog_44_method_5_code 28 = .ok (.dload 6, 2) := by decide +kernel
theorem d5_30 : decode prog_44_method_5_code 30 = .ok (.invokestatic 53, 3) := by decide +kernel
theorem d5_33 : decode prog_44_method_5_code 33 = .ok (.dstore_n 1, 1) := by decide +kernel
theorem d5_34 : decode prog_44_method_5_code 34 = .ok (.iinc 5 1, 3) := by decide +kernel
theorem d5_37 : decode prog_44_method_5_code 37 = .ok (.goto (-23), 3) := by decide +kernel
theorem d5_40 : decode prog_44_method_5_code 40 = .ok (.dload_n 1, 1) := by decide +kernel
theorem d5_41 : decode prog_44_method_5_code 41 = .ok (.dreturn, 1) := by decide +kernel
set_option maxRecDepth 65536 in
set_option maxHeartbeats 40000000 in
theorem rm_big (l : Launch) (Z : State) (a0 : Array Value) (hw : ∀ d ∈ tables_1, d.before a0 Z = true) (a1 : Addr) (ar : Addr) (kr : ClassId) (y : UInt64) (h0 : Heap) (n0 : Nat) (Z0 : n0 ≤ h0.size) (F2 : Fld Z h0 a1 "com/example/nordwind/nordwind/Tolerances" "relative" "[D" (.ref ar)) (R1 : Row Z h0 ar .double kr [(.double y)]) (hn : Jvm.Free.Fl.NoNaN64 y) :
    Con l Z (⟨"com/example/nordwind/nordwind/Tolerances", "largestRelative", "()D"⟩ : MethodName) prog_44_method_5_code 8 (some .double) ({ frames := 1, cells := 0, slots := 0, locals := 20 } : Room) #[(.ref a1)] h0 (fun vR hR LR => vR = some (.double (own_max y)) ∧ Fr n0 LR ∧ hR = h0) := by
  refine enter (l := l) (Z := Z) (y := (⟨"com/example/nordwind/nordwind/Tolerances", "largestRelative", "()D"⟩ : MethodName)) (bytes := prog_44_method_5_code) (maxL := 8) (ret := (some .double)) (ws := []) (rm := ({ frames := 1, cells := 0, slots := 0, locals := 20 } : Room)) (as' := #[(.ref a1)]) (h0 := h0) (Qv := (fun vR hR LR => vR = some (.double (own_max y)) ∧ Fr n0 LR ∧ hR = h0)) (kc := 0) (ks := 0) (by first | exact plainFor_of_name (by first | (simp [plainName, overriddenIn]; done) | decide +kernel) | decide +kernel) (Ls := #[.val (.ref a1), .unset, .unset, .unset, .unset, .unset, .unset, .unset]) (fun m => by first | (simp [entryFrame, mkF, argsToLocals, Value.category]; done) | rfl) ?_
  intro p e s m below meth c s₁ hx hby hml hown hnm hret hlk hZ X0 e0
  have hown : s.vm.findClass "com/example/nordwind/nordwind/Tolerances" = some m.cls := hown
  have hml : c.maxLocals = 8 := hml
  have N0 := Fr.nil n0
  refine Go.dconst0 X0.here hx (Jvm.hb hby d5_0) (v := (0 : UInt64)) rfl (q := 1) rfl ?_
  refine Go.dstoreN X0.here hx (Jvm.hb hby d5_1) (l2 := #[.val (.ref a1), .val (.double (0 : UInt64)), .second, .unset, .unset, .unset, .unset, .unset]) rfl (q := 2) rfl ?_
  refine Go.aloadN X0.here hx (Jvm.hb hby d5_2) rfl rfl (q := 3) rfl ?_
  refine Go.getf X0 hx hZ hown (word hw 26 rfl) e0 F2 (Jvm.hb hby d5_3) (q := 6) rfl ?_
  intro T101 X101 e101
  refine Go.astoreN X101.here hx (Jvm.hb hby d5_6) rfl (l2 := #[.val (.ref a1), .val (.double (0 : UInt64)), .second, .val (.ref ar), .unset, .unset, .unset, .unset]) rfl (q := 7) rfl ?_
  refine Go.aloadN X101.here hx (Jvm.hb hby d5_7) rfl rfl (q := 8) rfl ?_
  refine Go.alen X101 hx hZ e101 R1 (Jvm.hb hby d5_8) (n := (1 : Int32)) (by first | rfl | decide) (q := 9) rfl ?_
  refine Go.istore X101.here hx (Jvm.hb hby d5_9) (l2 := #[.val (.ref a1), .val (.double (0 : UInt64)), .second, .val (.ref ar), .val (.int (1 : Int32)), .unset, .unset, .unset]) rfl (q := 11) rfl ?_
  refine Go.iconst X101.here hx (Jvm.hb hby d5_11) (v := (0 : Int32)) rfl (q := 12) rfl ?_
  refine Go.istore X101.here hx (Jvm.hb hby d5_12) (l2 := #[.val (.ref a1), .val (.double (0 : UInt64)), .second, .val (.ref ar), .val (.int (1 : Int32)), .val (.int (0 : Int32)), .unset, .unset]) rfl (q := 14) rfl ?_
  refine Go.iload X101.here hx (Jvm.hb hby d5_14) rfl (q := 16) rfl ?_
  refine Go.iload X101.here hx (Jvm.hb hby d5_16) rfl (q := 18) rfl ?_
  have hc18_103 : (0 : Int32) < (1 : Int32) := by decide
  refine Go.icmpN X101.here hx (Jvm.hb hby d5_18) (tlt hc18_103).2.1 (q := 21) rfl ?_
  refine Go.aloadN X101.here hx (Jvm.hb hby d5_21) rfl rfl (q := 22) rfl ?_
  refine Go.iload X101.here hx (Jvm.hb hby d5_22) rfl (q := 24) rfl ?_
  refine Go.daload X101 hx hZ e101 R1 (Jvm.hb hby d5_24) (i := 0) (by decide) (by decide) rfl (q := 25) rfl ?_
  refine Go.dstore X101.here hx (Jvm.hb hby d5_25) (l2 := #[.val (.ref a1), .val (.double (0 : UInt64)), .second, .val (.ref ar), .val (.int (1 : Int32)), .val (.int (0 : Int32)), .val (.double y), .second]) rfl (q := 27) rfl ?_
  refine Go.dloadN X101.here hx (Jvm.hb hby d5_27) rfl (q := 28) rfl ?_
  refine Go.dload X101.here hx (Jvm.hb hby d5_28) rfl (q := 30) rfl ?_
  refine Go.nat X101 hx hZ (y := Jvm.Free.Fl.Abs.maxDN) hown (word hw 40 rfl) (word hw 41 rfl) (word hw 42 rfl) (word hw 43 rfl) (by decide) e101 (W := 0) (fun hc => Jvm.Free.Fl.Abs.maxD_pays (0 : UInt64) y hc (by decide) (by decide)) (Jvm.hb hby d5_30) (argsL := [(.double (0 : UInt64)), (.double y)]) (rest := []) rfl (lenOf pd1 rfl) (by rw [hml]; rfl) (Nat.le_of_eq rfl) (by decide) (by decide) ⟨rfl, own_zero_nn, hn⟩ (q := 33) rfl ?_
  intro T104 X104 e104
  refine Go.dstoreN X104.here hx (Jvm.hb hby d5_33) (l2 := #[.val (.ref a1), .val (.double (Native.java_lang_Math.nans.pick64 true (0 : UInt64) y)), .second, .val (.ref ar), .val (.int (1 : Int32)), .val (.int (0 : Int32)), .val (.double y), .second]) rfl (q := 34) rfl ?_
  refine Go.iinc X104.here hx (Jvm.hb hby d5_34) rfl (v := (1 : Int32)) (by decide) (l2 := #[.val (.ref a1), .val (.double (Native.java_lang_Math.nans.pick64 true (0 : UInt64) y)), .second, .val (.ref ar), .val (.int (1 : Int32)), .val (.int (1 : Int32)), .val (.double y), .second]) rfl (q := 37) rfl ?_
  refine Go.goto X104.here hx (Jvm.hb hby d5_37) (by decide) (q := 14) rfl ?_
  refine Go.iload X104.here hx (Jvm.hb hby d5_14) rfl (q := 16) rfl ?_
  refine Go.iload X104.here hx (Jvm.hb hby d5_16) rfl (q := 18) rfl ?_
  have hc18_106 : ¬ ((1 : Int32) < (1 : Int32)) := by decide
  refine Go.icmpY X104.here hx (Jvm.hb hby d5_18) (flt hc18_106).2.1 (by decide) (q := 40) rfl ?_
  refine Go.dloadN X104.here hx (Jvm.hb hby d5_40) rfl (q := 41) rfl ?_
  refine Go.retD X104 hx hret hlk (Jvm.hb hby d5_41) (by decide) (by decide) ?_
  exact ⟨rfl, N0, e104⟩
set_option maxRecDepth 65536 in
set_option maxHeartbeats 40000000 in
theorem rm_law (l : Launch) (Z : State) (a0 : Array Value) (hw : ∀ d ∈ tables_1, d.before a0 Z = true) (ws : List Jvm.Cond) (q1 : Int64) (q2 : Int64) (q3 : Int32) (q4 : Int32) (h0 : Heap) (n0 : Nat) (Z0 : n0 ≤ h0.size)  :
    MetFree l x (head1 (Jvm.Cond.code x code maxLocals ret :: ws) room_1) (fun a U => a = #[(.long q1), (.long q2), (.int q3), (.int q4)] ∧ Z.Warmed39 U.vm ∧ U.heap = h0) (fun _ _ _ _ _ => True) (fun _ U o U' => ∃ v L, o = .returned v ∧ (fun vR hR LR => vR = some (.int (1 : Int32)) ∧ Fr n0 LR) v U'.heap L ∧ ReturnedEndW U o U' L 16 1152) := by
  refine enterW (l := l) (Z := Z) (y := x) (bytes := code) (maxL := maxLocals) (ret := ret) (ws := ws) (rm := room_1) (as' := #[(.long q1), (.long q2), (.int q3), (.int q4)]) (h0 := h0) (Qv := (fun vR hR LR => vR = some (.int (1 : Int32)) ∧ Fr n0 LR)) (kc := 16) (ks := 1152) (by first | exact plainFor_of_name (by first | (simp [plainName, overriddenIn]; done) | decide +kernel) | decide +kernel) (Ls := #[.val (.long q1), .second, .val (.long q2), .second, .val (.int q3), .val (.int q4), .unset, .unset, .unset, .unset, .unset]) (fun m => by first | (simp [entryFrame, mkF, argsToLocals, Value.category, maxLocals]; done) | rfl) ?_
  intro p e s m below meth c s₁ V0 k0 hx hby hml hown hnm hret hlk hZ X0 e0 S0 K0
  have hown : (s.setVm V0).vm.findClass "com/example/nordwind/nordwind/TolerancesUniformPinLaw" = some m.cls := hown
  have hml : c.maxLocals = 11 := hml
  have N0 := Fr.nil n0
  refine Go.lloadN X0.here hx (Jvm.hb hby at_0) rfl (q := 1) rfl ?_
  refine Go.ldc2J X0 hx hown (mvT hZ (word hw 0 rfl)) (Jvm.hb hby at_1) (q := 4) rfl ?_
  obtain ⟨u4, hu4⟩ : ∃ zq, q1 &&& (9223372036854775807 : Int64) = zq := ⟨_, rfl⟩
  refine Go.land X0.here hx (Jvm.hb hby at_4) hu4 (q := 5) rfl ?_
  obtain ⟨u5, hu5⟩ : ∃ zq, FP.l2d u4 = zq := ⟨_, rfl⟩
  refine Go.l2d X0.here hx (Jvm.hb hby at_5) hu5 (q := 6) rfl ?_
  refine Go.dconst1 X0.here hx (Jvm.hb hby at_6) (v := (4607182418800017408 : UInt64)) rfl (q := 7) rfl ?_
  obtain ⟨u7, hu7⟩ : ∃ zq, FP.dadd u5 (4607182418800017408 : UInt64) = zq := ⟨_, rfl⟩
  refine Go.dadd X0.here hx (Jvm.hb hby at_7) (nn_of (own_inc (own_num hu4 hu5)).1) hu7 (q := 8) rfl ?_
  refine Go.iload X0.here hx (Jvm.hb hby at_8) rfl (q := 10) rfl ?_
  refine Go.ldcI X0 hx hown (mvT hZ (word hw 1 rfl)) (Jvm.hb hby at_10) (q := 12) rfl ?_
  obtain ⟨u12, hu12⟩ : ∃ zq, q4 &&& (65535 : Int32) = zq := ⟨_, rfl⟩
  refine Go.iand X0.here hx (Jvm.hb hby at_12) hu12 (q := 13) rfl ?_
  refine Go.iconst X0.here hx (Jvm.hb hby at_13) (v := (1 : Int32)) rfl (q := 14) rfl ?_
  obtain ⟨u14, hu14⟩ : ∃ zq, u12 + (1 : Int32) = zq := ⟨_, rfl⟩
  refine Go.iadd X0.here hx (Jvm.hb hby at_14) hu14 (q := 15) rfl ?_
  obtain ⟨u15, hu15⟩ : ∃ zq, FP.i2d u14 = zq := ⟨_, rfl⟩
  refine Go.i2d X0.here hx (Jvm.hb hby at_15) hu15 (q := 16) rfl ?_
  obtain ⟨u16, hu16⟩ : ∃ zq, FP.ddiv u7 u15 = zq := ⟨_, rfl⟩
  have A := own_A hu4 hu5 hu7 hu12 hu14 hu15 hu16
  refine Go.ddiv X0.here hx (Jvm.hb hby at_16) A.2.1 hu16 (q := 17) rfl ?_
  refine Go.dstore X0.here hx (Jvm.hb hby at_17) (l2 := #[.val (.long q1), .second, .val (.long q2), .second, .val (.int q3), .val (.int q4), .val (.double u16), .second, .unset, .unset, .unset]) rfl (q := 19) rfl ?_
  refine Go.lloadN X0.here hx (Jvm.hb hby at_19) rfl (q := 20) rfl ?_
  refine Go.ldc2J X0 hx hown (mvT hZ (word hw 0 rfl)) (Jvm.hb hby at_20) (q := 23) rfl ?_
  obtain ⟨u23, hu23⟩ : ∃ zq, q2 &&& (9223372036854775807 : Int64) = zq := ⟨_, rfl⟩
  refine Go.land X0.here hx (Jvm.hb hby at_23) hu23 (q := 24) rfl ?_
  obtain ⟨u24, hu24⟩ : ∃ zq, FP.l2d u23 = zq := ⟨_, rfl⟩
  refine Go.l2d X0.here hx (Jvm.hb hby at_24) hu24 (q := 25) rfl ?_
  refine Go.iload X0.here hx (Jvm.hb hby at_25) rfl (q := 27) rfl ?_
  refine Go.bipush X0.here hx (Jvm.hb hby at_27) (v := (16 : Int32)) rfl (q := 29) rfl ?_
  obtain ⟨u29, hu29⟩ : ∃ zq, (Int32.toUInt32 q4 >>> Int32.toUInt32 ((16 : Int32) &&& 31)).toInt32 = zq := ⟨_, rfl⟩
  refine Go.iushr X0.here hx (Jvm.hb hby at_29) hu29 (q := 30) rfl ?_
  refine Go.ldcI X0 hx hown (mvT hZ (word hw 1 rfl)) (Jvm.hb hby at_30) (q := 32) rfl ?_
  obtain ⟨u32, hu32⟩ : ∃ zq, u29 &&& (65535 : Int32) = zq := ⟨_, rfl⟩
  refine Go.iand X0.here hx (Jvm.hb hby at_32) hu32 (q := 33) rfl ?_
  refine Go.iconst X0.here hx (Jvm.hb hby at_33) (v := (1 : Int32)) rfl (q := 34) rfl ?_
  obtain ⟨u34, hu34⟩ : ∃ zq, u32 + (1 : Int32) = zq := ⟨_, rfl⟩
  refine Go.iadd X0.here hx (Jvm.hb hby at_34) hu34 (q := 35) rfl ?_
  obtain ⟨u35, hu35⟩ : ∃ zq, FP.i2d u34 = zq := ⟨_, rfl⟩
  refine Go.i2d X0.here hx (Jvm.hb hby at_35) hu35 (q := 36) rfl ?_
  obtain ⟨u36, hu36⟩ : ∃ zq, FP.ddiv u24 u35 = zq := ⟨_, rfl⟩
  have B := own_R hu23 hu24 hu32 hu34 hu35 hu36
  refine Go.ddiv X0.here hx (Jvm.hb hby at_36) B.1 hu36 (q := 37) rfl ?_
  refine Go.dstore X0.here hx (Jvm.hb hby at_37) (l2 := #[.val (.long q1), .second, .val (.long q2), .second, .val (.int q3), .val (.int q4), .val (.double u16), .second, .val (.double u36), .second, .unset]) rfl (q := 39) rfl ?_
  refine Go.dload X0.here hx (Jvm.hb hby at_39) rfl (q := 41) rfl ?_
  refine Go.dload X0.here hx (Jvm.hb hby at_41) rfl (q := 43) rfl ?_
  refine Go.staticW X0 hx hZ (y := (⟨"com/example/nordwind/nordwind/Tolerances", "uniform", "(DD)Lcom/example/nordwind/nordwind/Tolerances;"⟩ : MethodName)) hown (word hw 2 rfl) (word hw 3 rfl) (word hw 5 rfl) (word hw 4 rfl) (by decide) (rm_uni l Z a0 hw u16 u36 h0 n0 Z0 A.2.2 B.2.1) e0 S0 K0  (argsL := [(.double u16), (.double u36)]) (rest := []) (W := 0) (Jvm.hb hby at_43) rfl rfl (lenOf (pd2) rfl) (by rw [hml]; rfl) (Nat.le_of_eq rfl) (by decide) (by decide) (by decide) (by decide) (q := 46) rfl ?_
  intro T101 L101 w101 V101 k1_101 X101 hQ101 S101 KS101 hZ hown
  obtain ⟨a101, a101_1, kk101_2, rfl, M101, K101, G101_0, G101_1, P101_0, P101_1, P101_2, P101_3⟩ := hQ101
  have N101 := Fr.app N0 M101
  have r102 : n0 ≤ a101 := Nat.le_trans Z0 (G101_0)
  have r103 : n0 ≤ a101_1 := Nat.le_trans Z0 (G101_1)
  show Go p e below _ (T101.setTop (mkF m 46 #[.val (.long q1), .second, .val (.long q2), .second, .val (.int q3), .val (.int q4), .val (.double u16), .second, .val (.double u36), .second, .unset] [(.ref a101)]))
  refine Go.astore X101.here hx (Jvm.hb hby at_46) rfl (l2 := #[.val (.long q1), .second, .val (.long q2), .second, .val (.int q3), .val (.int q4), .val (.double u16), .second, .val (.double u36), .second, .val (.ref a101)]) rfl (q := 48) rfl ?_
  refine Go.aload X101.here hx (Jvm.hb hby at_48) rfl rfl (q := 50) rfl ?_
  refine Go.iload X101.here hx (Jvm.hb hby at_50) rfl (q := 52) rfl ?_
  have z105 : n0 ≤ T101.heap.size := Nat.le_trans Z0 K101.1
  refine Go.virtual X101 hx hZ (y := (⟨"com/example/nordwind/nordwind/Tolerances", "checkDimension", "(I)V"⟩ : MethodName)) hown (word hw 30 rfl) (word hw 31 rfl) (word hw 33 rfl) (word hw 32 rfl) (word hw 34 rfl) (word hw 4 rfl) (by decide) (rm_chk l Z a0 hw a101 q3 T101.heap n0 z105 P101_2) rfl P101_0  (argsL := [(.int q3)]) (rest := []) (W := 0) (Jvm.hb hby at_52) rfl rfl (lenOf (pd3) rfl) (by rw [hml]; rfl) (Nat.le_of_eq rfl) (by decide) (by decide) (by decide) (by decide) (q := 55) rfl ?_
  intro T104 L104 w104 X104 hQ104
  obtain ⟨rfl, M104, q104⟩ := hQ104
  have N104 := Fr.app N101 M104
  show Go p e below _ (T104.setTop (mkF m 55 #[.val (.long q1), .second, .val (.long q2), .second, .val (.int q3), .val (.int q4), .val (.double u16), .second, .val (.double u36), .second, .val (.ref a101)] []))
  refine Go.aload X104.here hx (Jvm.hb hby at_55) rfl rfl (q := 57) rfl ?_
  refine Go.virtual X104 hx hZ (y := (⟨"com/example/nordwind/nordwind/Tolerances", "largestRelative", "()D"⟩ : MethodName)) hown (word hw 35 rfl) (word hw 36 rfl) (word hw 38 rfl) (word hw 37 rfl) (word hw 39 rfl) (word hw 4 rfl) (by decide) (rm_big l Z a0 hw a101 a101_1 kk101_2 u36 T101.heap n0 z105 P101_1 P101_3 (nn_of B.2.2.1)) q104 P101_0  (argsL := []) (rest := []) (W := 0) (Jvm.hb hby at_57) rfl rfl (lenOf (pd4) rfl) (by rw [hml]; rfl) (Nat.le_of_eq rfl) (by decide) (by decide) (by decide) (by decide) (q := 60) rfl ?_
  intro T106 L106 w106 X106 hQ106
  obtain ⟨rfl, M106, q106⟩ := hQ106
  have N106 := Fr.app N104 M106
  show Go p e below _ (T106.setTop (mkF m 60 #[.val (.long q1), .second, .val (.long q2), .second, .val (.int q3), .val (.int q4), .val (.double u16), .second, .val (.double u36), .second, .val (.ref a101)] [(.double (own_max u36))]))
  obtain ⟨mx, hmx⟩ : ∃ zq, (own_max u36) = zq := ⟨_, rfl⟩
  rw [hmx]
  refine Go.dload X106.here hx (Jvm.hb hby at_60) rfl (q := 62) rfl ?_
  obtain ⟨u62, hu62⟩ : ∃ zq, cmpValue (FP.dcmp mx u36) .l = zq := ⟨_, rfl⟩
  refine Go.dcmp X106.here hx (Jvm.hb hby at_62) hu62 (q := 63) rfl ?_
  have hc63 : u62 = (0 : Int32) := by rw [← hu62, ← hmx]; exact own_max_eq B.2.2.1 B.2.2.2 _
  refine Go.ifN X106.here hx (Jvm.hb hby at_63) ((if0 _ _).trans (teq hc63).2) (q := 66) rfl ?_
  refine Go.iconst X106.here hx (Jvm.hb hby at_66) (v := (1 : Int32)) rfl (q := 67) rfl ?_
  refine Go.goto X106.here hx (Jvm.hb hby at_67) (by decide) (q := 71) rfl ?_
  refine Go.retZW X106 S101 (by rw [q106]; exact KS101) hx hret hlk (Jvm.hb hby at_71) (Or.inr rfl) (by decide) (by decide) ?_
  exact ⟨rfl, N106⟩
set_option maxRecDepth 65536 in
set_option maxHeartbeats 40000000 in
theorem comes_1 {Post : Tables → Env → Array Value → State → Outcome → State → Prop} (hpost : ∀ tb e args s v u, (limb_1_1.after args s (.returned v) u = true ∧ limb_1_2.after args s (.returned v) u = true ∧ True) → ReturnedEndW s (.returned v) u (Jvm.fieldLocs frame_1_writes args s ++ Jvm.arrayLocs frame_1_arrays args s ++ Jvm.staticLocs frame_1_statics s) 16 1152 → Post tb e args s (.returned v) u) :
    ArmFor flags0 classFile x code maxLocals ret World_1 tables_1 room_1 Calls_1 rest_1 Pre_1 Post := by
  intro l hfl _ _ p e ha hc hk s m args below hf hA hF happ hP
  obtain ⟨hcalls, hrest, hpre⟩ := hP
  obtain ⟨-, -, -, hnamed, -, -, -, hat⟩ := (Spec.applies_iff hf).mp happ
  obtain ⟨hg, hn⟩ := and_e (Cond.before_iff.mp (show (Jvm.Cond.and given_1 narrow_1).before args s = true from hpre))
  obtain ⟨g0, hg⟩ := and_e hg
  obtain ⟨w0, w1, w2, w3, rfl⟩ : ∃ w0 w1 w2 w3 : Value, args = #[w0, w1, w2, w3] := by
    have hs : args.size = 4 := by simpa [Cond.value, given_1] using g0
    obtain ⟨L⟩ := args
    match L, hs with
    | [w0, w1, w2, w3], _ => exact ⟨w0, w1, w2, w3, rfl⟩
  have hw := fun d (hd : d ∈ tables_1) => atoms_spec (ws := Jvm.Cond.code x code maxLocals ret :: tables_1) hat d (List.mem_cons_of_mem _ hd)
  obtain ⟨g1, hg⟩ := and_e hg
  obtain ⟨i0, e0⟩ := isL_v g1
  obtain rfl : w0 = (.long i0) := Option.some.inj e0
  obtain ⟨g2, hg⟩ := and_e hg
  obtain ⟨i1, e1⟩ := isL_v g2
  obtain rfl : w1 = (.long i1) := Option.some.inj e1
  obtain ⟨g3, hg⟩ := and_e hg
  obtain ⟨i2, e2⟩ := is_v g3
  obtain rfl : w2 = (.int i2) := Option.some.inj e2
  obtain ⟨i3, e3⟩ := is_v hg
  obtain rfl : w3 = (.int i3) := Option.some.inj e3
  obtain ⟨n, o, h1, h2, h3, _, L, rfl, ⟨rfl, N⟩, hq⟩ := rm_law l s _ hw tables_1 i0 i1 i2 i3  s.heap s.heap.size (Nat.le_refl _)  p e ha hc hk s m _ below hf ((Spec.applies_iff_loose hf).mp happ).1 ⟨rfl, State.Warmed39.refl s, rfl⟩ trivial
  refine ⟨n, _, h1, h2, h3, hpost _ _ _ _ _ _ ⟨Cond.after_iff.mpr rfl, Cond.after_iff.mpr (eq_i res_at (Term.int_eval (1)) rfl), trivial⟩ ⟨hq.1, hq.2.1, hq.2.2.1, (hq.2.2.2.sift fun y hy => Or.inr (N y hy)).mono (by decide) (by decide)⟩⟩
theorem main_1_1 : Claimed_1_1 := comes_1 fun _ _ _ _ _ _ h hF => ⟨h.1, hF⟩
theorem main_1_2 : Claimed_1_2 := comes_1 fun _ _ _ _ _ _ h hF => ⟨h.2.1, hF⟩
end Jvm.Pilot.@@N@@
namespace Jvm.Pilot.@@N@@
open Jvm Jvm.ClassFile Sem Op Lib Jvm.Free Jvm.Stand Jvm.Pilot.@@N@@.Jvm.D
/-! MADE BY PROGRAM (witnessworld.py) out of the Statement's table words and the real class files: 17 classes; the members and pool entries that the words name. The judged class is class 1, her method 1. -/
namespace start1
open Jvm.ClassFile
def u (s : String) : CpInfo := .utf8 (stringToUtf16 s)
/-- a pool by its gaps: so many unusable entries, then the entry; so many at the end -/
def gap : Nat → List CpInfo → List CpInfo
  | 0, r => r
  | n + 1, r => .unusable :: gap n r
def poolList (es : List (Nat × CpInfo)) (last : Nat) : List CpInfo := es.foldr (fun e r => gap e.1 (e.2 :: r)) (gap last [])
def pool (es : List (Nat × CpInfo)) (last : Nat) : Array CpInfo := ⟨poolList es last⟩
def fileOf (pool : Array CpInfo) (this : Nat) (attrs : Array Attribute := #[]) (ms : Array MethodInfo := #[]) (fl : Nat := 33) (sup : Nat := 0) (ifs : Array Nat := #[]) (fds : Array FieldInfo := #[]) : ClassFile where
  minorVersion := 0
  majorVersion := 65
  constantPool := pool
  accessFlags := fl
  thisClass := this
  superClass := sup
  interfaces := ifs
  fields := fds
  methods := ms
  attributes := attrs
def plain (name : String) (sup : Option ClassId) : Class where
  name := name
  kind := .ordinary
  loader := none
  accessFlags := 33
  super := sup
  interfaces := #[]
  cf := none
  fields := #[]
  methods := #[]
  instanceTypes := #[]
  staticTypes := #[]
  resolved := #[]
  callSites := []
  init := .initialized
  statics := none
  mirror := none

def pool0 : Array CpInfo := pool [(5, u "<init>"), (0, u "()V"), (1, .class_ 10), (1, u "java/lang/Object")] 113

def k0c0 : Code := { maxStack := 0, maxLocals := 1, code := object_method_1_code, exceptionTable := #[], attributes := #[] }
def k0m0 : Method := { name := "<init>", desc := "()V", sig := { parameters := [], returnType := none }, accessFlags := 1, code := some k0c0 }
/-- java/lang/Object -/
def k0 : Class := { plain "java/lang/Object" none with
  accessFlags := 33
  interfaces := #[]
  cf := some (fileOf pool0 8 #[] #[{ accessFlags := 1, nameIndex := 5, descriptorIndex := 6, attributes := #[] }] 33 0 #[] #[])
  fields := #[]
  methods := #[k0m0]
  instanceTypes := #[]
  staticTypes := #[]
  resolved := Array.replicate 124 none
  statics := none }

def pool1 : Array CpInfo := pool [(2, .class_ 4), (1, u "java/lang/Object"), (0, u "<init>"), (0, u "()V"), (2, .long 9223372036854775807), (1, .integer 65535), (0, .methodref 13 14), (0, .class_ 15), (0, .nameAndType 16 17), (0, u "com/example/nordwind/nordwind/Tolerances"), (0, u "uniform"), (0, u "(DD)Lcom/example/nordwind/nordwind/Tolerances;"), (0, .methodref 13 19), (0, .nameAndType 20 21), (0, u "checkDimension"), (0, u "(I)V"), (0, .methodref 13 23), (0, .nameAndType 24 25), (0, u "largestRelative"), (0, u "()D"), (0, .class_ 27), (0, u "com/example/nordwind/nordwind/TolerancesUniformPinLaw"), (2, u "law"), (0, u "(JJII)Z")] 3

def k1m0 : Method := { name := "<init>", desc := "()V", sig := { parameters := [], returnType := none }, accessFlags := 1, code := none }
def k1c1 : Code := { maxStack := 4, maxLocals := 11, code := code, exceptionTable := #[], attributes := #[] }
def k1m1 : Method := { name := "law", desc := "(JJII)Z", sig := { parameters := [.long, .long, .int, .int], returnType := some .boolean }, accessFlags := 9, code := some k1c1 }
/-- com/example/nordwind/nordwind/TolerancesUniformPinLaw -/
def k1 : Class := { plain "com/example/nordwind/nordwind/TolerancesUniformPinLaw" (some 0) with
  accessFlags := 49
  interfaces := #[]
  cf := some (fileOf pool1 26 #[] #[{ accessFlags := 1, nameIndex := 5, descriptorIndex := 6, attributes := #[] }, { accessFlags := 9, nameIndex := 30, descriptorIndex := 31, attributes := #[] }] 49 2 #[] #[])
  fields := #[]
  methods := #[k1m0, k1m1]
  instanceTypes := #[]
  staticTypes := #[]
  resolved := Array.replicate 35 none
  statics := none }

def pool2 : Array CpInfo := pool [(1, .methodref 2 3), (0, .class_ 4), (0, .nameAndType 5 6), (0, u "java/lang/Object"), (0, u "<init>"), (0, u "()V"), (4, .string 12), (0, u ""), (2, .double 9218868437227405312), (10, .fieldref 27 28), (0, .class_ 29), (0, .nameAndType 30 31), (0, u "com/example/nordwind/nordwind/Tolerances"), (0, u "absolute"), (0, u "[D"), (0, .fieldref 27 33), (0, .nameAndType 34 31), (0, u "relative"), (0, .fieldref 27 36), (0, .nameAndType 37 38), (0, u "perComponent"), (0, u "Z"), (0, .methodref 27 40), (0, .nameAndType 5 41), (0, u "([D[DZ)V"), (11, .methodref 54 55), (0, .class_ 56), (0, .nameAndType 57 58), (0, u "java/lang/Math"), (0, u "max"), (0, u "(DD)D"), (11, u "uniform"), (0, u "(DD)Lcom/example/nordwind/nordwind/Tolerances;"), (1, u "checkDimension"), (0, u "(I)V"), (0, u "largestRelative"), (0, u "()D")] 29

def k2c0 : Code := { maxStack := 5, maxLocals := 6, code := prog_44_method_1_code, exceptionTable := #[], attributes := #[] }
def k2m0 : Method := { name := "<init>", desc := "([D[DZ)V", sig := { parameters := [(.array .double), (.array .double), .boolean], returnType := none }, accessFlags := 2, code := some k2c0 }
def k2c1 : Code := { maxStack := 8, maxLocals := 4, code := prog_44_method_2_code, exceptionTable := #[], attributes := #[] }
def k2m1 : Method := { name := "uniform", desc := "(DD)Lcom/example/nordwind/nordwind/Tolerances;", sig := { parameters := [.double, .double], returnType := some (.object "com/example/nordwind/nordwind/Tolerances") }, accessFlags := 8, code := some k2c1 }
def k2c2 : Code := { maxStack := 4, maxLocals := 2, code := prog_44_method_4_code, exceptionTable := #[], attributes := #[] }
def k2m2 : Method := { name := "checkDimension", desc := "(I)V", sig := { parameters := [.int], returnType := none }, accessFlags := 0, code := some k2c2 }
def k2c3 : Code := { maxStack := 4, maxLocals := 8, code := prog_44_method_5_code, exceptionTable := #[], attributes := #[] }
def k2m3 : Method := { name := "largestRelative", desc := "()D", sig := { parameters := [], returnType := some .double }, accessFlags := 0, code := some k2c3 }
/-- com/example/nordwind/nordwind/Tolerances -/
def k2 : Class := { plain "com/example/nordwind/nordwind/Tolerances" (some 0) with
  accessFlags := 48
  interfaces := #[]
  cf := some (fileOf pool2 27 #[] #[{ accessFlags := 2, nameIndex := 5, descriptorIndex := 41, attributes := #[] }, { accessFlags := 8, nameIndex := 70, descriptorIndex := 71, attributes := #[] }, { accessFlags := 0, nameIndex := 73, descriptorIndex := 74, attributes := #[] }, { accessFlags := 0, nameIndex := 75, descriptorIndex := 76, attributes := #[] }] 48 2 #[] #[{ accessFlags := 18, nameIndex := 30, descriptorIndex := 31, attributes := #[] }, { accessFlags := 18, nameIndex := 34, descriptorIndex := 31, attributes := #[] }, { accessFlags := 18, nameIndex := 37, descriptorIndex := 38, attributes := #[] }])
  fields := #[{ name := "absolute", type := (.array .double), accessFlags := 18, slot := 0, constantValue := 0 }, { name := "relative", type := (.array .double), accessFlags := 18, slot := 1, constantValue := 0 }, { name := "perComponent", type := .boolean, accessFlags := 18, slot := 2, constantValue := 0 }]
  methods := #[k2m0, k2m1, k2m2, k2m3]
  instanceTypes := #[(.array .double), (.array .double), .boolean]
  staticTypes := #[]
  resolved := Array.replicate 106 none
  statics := none }

def pool3 : Array CpInfo := pool [(1, .class_ 2), (0, u "java/io/Serializable"), (0, .class_ 4), (0, u "java/lang/Object")] 2

/-- java/io/Serializable -/
def k3 : Class := { plain "java/io/Serializable" (some 0) with
  accessFlags := 1537
  interfaces := #[]
  cf := some (fileOf pool3 1 #[] #[] 1537 3 #[] #[])
  fields := #[]
  methods := #[]
  instanceTypes := #[]
  staticTypes := #[]
  resolved := Array.replicate 7 none
  statics := none }

def pool4 : Array CpInfo := pool [(1, .class_ 2), (0, u "java/lang/Comparable"), (0, .class_ 4), (0, u "java/lang/Object")] 7

/-- java/lang/Comparable -/
def k4 : Class := { plain "java/lang/Comparable" (some 0) with
  accessFlags := 1537
  interfaces := #[]
  cf := some (fileOf pool4 1 #[] #[] 1537 3 #[] #[])
  fields := #[]
  methods := #[]
  instanceTypes := #[]
  staticTypes := #[]
  resolved := Array.replicate 12 none
  statics := none }

def pool5 : Array CpInfo := pool [(2, .class_ 4), (1, u "java/lang/CharSequence"), (42, .class_ 48), (0, u "java/lang/CharSequence$1CodePointIterator"), (10, .class_ 60), (0, u "java/lang/CharSequence$1CharIterator"), (5, .class_ 67), (0, u "java/lang/Object")] 63

/-- java/lang/CharSequence -/
def k5 : Class := { plain "java/lang/CharSequence" (some 0) with
  accessFlags := 1537
  interfaces := #[]
  cf := some (fileOf pool5 2 #[.nestMembers #[47, 59]] #[] 1537 66 #[] #[])
  fields := #[]
  methods := #[]
  instanceTypes := #[]
  staticTypes := #[]
  resolved := Array.replicate 131 none
  statics := none }

def pool6 : Array CpInfo := pool [(1, .class_ 2), (0, u "java/lang/constant/Constable"), (0, .class_ 4), (0, u "java/lang/Object")] 6

/-- java/lang/constant/Constable -/
def k6 : Class := { plain "java/lang/constant/Constable" (some 0) with
  accessFlags := 1537
  interfaces := #[]
  cf := some (fileOf pool6 1 #[] #[] 1537 3 #[] #[])
  fields := #[]
  methods := #[]
  instanceTypes := #[]
  staticTypes := #[]
  resolved := Array.replicate 11 none
  statics := none }

def pool7 : Array CpInfo := pool [(1, .class_ 2), (0, u "java/lang/constant/ConstantDesc"), (0, .class_ 4), (0, u "java/lang/Object")] 32

/-- java/lang/constant/ConstantDesc -/
def k7 : Class := { plain "java/lang/constant/ConstantDesc" (some 0) with
  accessFlags := 1537
  interfaces := #[]
  cf := some (fileOf pool7 1 #[] #[] 1537 3 #[] #[])
  fields := #[]
  methods := #[]
  instanceTypes := #[]
  staticTypes := #[]
  resolved := Array.replicate 37 none
  statics := none }

def pool8 : Array CpInfo := pool [(2, .class_ 4), (1, u "java/lang/Object"), (0, u "<init>"), (0, u "()V"), (3, .class_ 12), (1, u "java/lang/String"), (0, u "value"), (0, u "[B"), (2, u "coder"), (0, u "B"), (2, u "hash"), (0, u "I"), (2, u "hashIsZero"), (0, u "Z"), (13, u "COMPACT_STRINGS"), (534, .class_ 576), (0, u "java/lang/CharSequence"), (22, u "CASE_INSENSITIVE_ORDER"), (0, u "Ljava/util/Comparator;"), (500, u "serialPersistentFields"), (0, u "[Ljava/io/ObjectStreamField;"), (0, .class_ 1104), (0, u "java/lang/String$CaseInsensitiveComparator"), (1, .class_ 1107), (0, u "java/io/Serializable"), (0, .class_ 1109), (0, u "java/lang/Comparable"), (0, .class_ 1111), (0, u "java/lang/constant/Constable"), (0, .class_ 1113), (0, u "java/lang/constant/ConstantDesc"), (2, u "serialVersionUID"), (0, u "J"), (3, u "REPL"), (0, u "C"), (2, u "LATIN1"), (1, u "UTF16")] 323

def k8m0 : Method := { name := "<init>", desc := "()V", sig := { parameters := [], returnType := none }, accessFlags := 1, code := none }
/-- java/lang/String -/
def k8 : Class := { plain "java/lang/String" (some 0) with
  accessFlags := 49
  interfaces := #[3, 4, 5, 6, 7]
  cf := some (fileOf pool8 10 #[.nestMembers #[1103]] #[{ accessFlags := 1, nameIndex := 5, descriptorIndex := 6, attributes := #[] }] 49 2 #[1106, 1108, 575, 1110, 1112] #[{ accessFlags := 18, nameIndex := 13, descriptorIndex := 14, attributes := #[] }, { accessFlags := 18, nameIndex := 17, descriptorIndex := 18, attributes := #[] }, { accessFlags := 2, nameIndex := 21, descriptorIndex := 22, attributes := #[] }, { accessFlags := 2, nameIndex := 25, descriptorIndex := 26, attributes := #[] }, { accessFlags := 26, nameIndex := 1116, descriptorIndex := 1117, attributes := #[] }, { accessFlags := 24, nameIndex := 40, descriptorIndex := 26, attributes := #[] }, { accessFlags := 26, nameIndex := 1101, descriptorIndex := 1102, attributes := #[] }, { accessFlags := 26, nameIndex := 1121, descriptorIndex := 1122, attributes := #[] }, { accessFlags := 25, nameIndex := 599, descriptorIndex := 600, attributes := #[] }, { accessFlags := 24, nameIndex := 1125, descriptorIndex := 18, attributes := #[] }, { accessFlags := 24, nameIndex := 1127, descriptorIndex := 18, attributes := #[] }])
  fields := #[{ name := "value", type := (.array .byte), accessFlags := 18, slot := 0, constantValue := 0 }, { name := "coder", type := .byte, accessFlags := 18, slot := 1, constantValue := 0 }, { name := "hash", type := .int, accessFlags := 2, slot := 2, constantValue := 0 }, { name := "hashIsZero", type := .boolean, accessFlags := 2, slot := 3, constantValue := 0 }, { name := "serialVersionUID", type := .long, accessFlags := 26, slot := 0, constantValue := 0 }, { name := "COMPACT_STRINGS", type := .boolean, accessFlags := 24, slot := 1, constantValue := 0 }, { name := "serialPersistentFields", type := (.array (.object "java/io/ObjectStreamField")), accessFlags := 26, slot := 2, constantValue := 0 }, { name := "REPL", type := .char, accessFlags := 26, slot := 3, constantValue := 0 }, { name := "CASE_INSENSITIVE_ORDER", type := (.object "java/util/Comparator"), accessFlags := 25, slot := 4, constantValue := 0 }, { name := "LATIN1", type := .byte, accessFlags := 24, slot := 5, constantValue := 0 }, { name := "UTF16", type := .byte, accessFlags := 24, slot := 6, constantValue := 0 }]
  methods := #[k8m0]
  instanceTypes := #[(.array .byte), .byte, .int, .boolean]
  staticTypes := #[.long, .boolean, (.array (.object "java/io/ObjectStreamField")), .char, (.object "java/util/Comparator"), .byte, .byte]
  resolved := Array.replicate 1451 none
  statics := none }

def pool9 : Array CpInfo := pool [(1, .class_ 2), (0, u "java/lang/Math"), (1, .class_ 6), (1, u "java/lang/Object"), (0, u "<init>"), (0, u "()V"), (43, u "(DD)D"), (45, .class_ 100), (1, u "java/lang/Math$RandomNumberGeneratorHolder"), (71, u "negativeZeroFloatBits"), (0, u "J"), (2, u "negativeZeroDoubleBits"), (21, u "max"), (46, u "$assertionsDisabled"), (0, u "Z"), (91, u "twoToTheDoubleScaleDown"), (0, u "D"), (4, u "twoToTheDoubleScaleUp"), (9, u "E"), (3, u "PI"), (2, u "TAU"), (2, u "DEGREES_TO_RADIANS"), (0, u "RADIANS_TO_DEGREES")] 94

def k9m0 : Method := { name := "<init>", desc := "()V", sig := { parameters := [], returnType := none }, accessFlags := 2, code := none }
def k9c1 : Code := { maxStack := 4, maxLocals := 4, code := jdk_29_method_68_code, exceptionTable := #[], attributes := #[] }
def k9m1 : Method := { name := "max", desc := "(DD)D", sig := { parameters := [.double, .double], returnType := some .double }, accessFlags := 9, code := some k9c1 }
/-- java/lang/Math -/
def k9 : Class := { plain "java/lang/Math" (some 0) with
  accessFlags := 49
  interfaces := #[]
  cf := some (fileOf pool9 1 #[.nestMembers #[98]] #[{ accessFlags := 2, nameIndex := 7, descriptorIndex := 8, attributes := #[] }, { accessFlags := 9, nameIndex := 198, descriptorIndex := 52, attributes := #[] }] 49 4 #[] #[{ accessFlags := 25, nameIndex := 354, descriptorIndex := 339, attributes := #[] }, { accessFlags := 25, nameIndex := 358, descriptorIndex := 339, attributes := #[] }, { accessFlags := 25, nameIndex := 361, descriptorIndex := 339, attributes := #[] }, { accessFlags := 26, nameIndex := 364, descriptorIndex := 339, attributes := #[] }, { accessFlags := 26, nameIndex := 365, descriptorIndex := 339, attributes := #[] }, { accessFlags := 26, nameIndex := 172, descriptorIndex := 173, attributes := #[] }, { accessFlags := 26, nameIndex := 176, descriptorIndex := 173, attributes := #[] }, { accessFlags := 8, nameIndex := 344, descriptorIndex := 339, attributes := #[] }, { accessFlags := 8, nameIndex := 338, descriptorIndex := 339, attributes := #[] }, { accessFlags := 4120, nameIndex := 245, descriptorIndex := 246, attributes := #[] }])
  fields := #[{ name := "E", type := .double, accessFlags := 25, slot := 0, constantValue := 0 }, { name := "PI", type := .double, accessFlags := 25, slot := 1, constantValue := 0 }, { name := "TAU", type := .double, accessFlags := 25, slot := 2, constantValue := 0 }, { name := "DEGREES_TO_RADIANS", type := .double, accessFlags := 26, slot := 3, constantValue := 0 }, { name := "RADIANS_TO_DEGREES", type := .double, accessFlags := 26, slot := 4, constantValue := 0 }, { name := "negativeZeroFloatBits", type := .long, accessFlags := 26, slot := 5, constantValue := 0 }, { name := "negativeZeroDoubleBits", type := .long, accessFlags := 26, slot := 6, constantValue := 0 }, { name := "twoToTheDoubleScaleUp", type := .double, accessFlags := 8, slot := 7, constantValue := 0 }, { name := "twoToTheDoubleScaleDown", type := .double, accessFlags := 8, slot := 8, constantValue := 0 }, { name := "$assertionsDisabled", type := .boolean, accessFlags := 4120, slot := 9, constantValue := 0 }]
  methods := #[k9m0, k9m1]
  instanceTypes := #[]
  staticTypes := #[.double, .double, .double, .double, .double, .long, .long, .double, .double, .boolean]
  resolved := Array.replicate 460 none
  statics := none }

def pool10 : Array CpInfo := pool [(1, u "java/lang/Cloneable"), (0, .class_ 1), (0, u "java/lang/Object"), (0, .class_ 3)] 3

/-- java/lang/Cloneable -/
def k10 : Class := { plain "java/lang/Cloneable" (some 0) with
  accessFlags := 1537
  interfaces := #[]
  cf := some (fileOf pool10 2 #[] #[] 1537 4 #[] #[])
  fields := #[]
  methods := #[]
  instanceTypes := #[]
  staticTypes := #[]
  resolved := Array.replicate 8 none
  statics := none }

/-- the primitive byte -/
def k11 : Class := { plain "byte" none with kind := .primitive 'B', accessFlags := 0x411 }
/-- [B -/
def k12 : Class := { plain "[B" (some 0) with kind := .array 11 .byte, interfaces := #[10, 3], accessFlags := 1041 }

/-- the primitive double -/
def k13 : Class := { plain "double" none with kind := .primitive 'D', accessFlags := 0x411 }
/-- [D -/
def k14 : Class := { plain "[D" (some 0) with kind := .array 13 .double, interfaces := #[10, 3], accessFlags := 1041 }

/-- the primitive int -/
def k15 : Class := { plain "int" none with kind := .primitive 'I', accessFlags := 0x411 }
/-- [I -/
def k16 : Class := { plain "[I" (some 0) with kind := .array 15 .int, interfaces := #[10, 3], accessFlags := 1041 }

def heap : Heap := #[]
def classes : Array Class := #[k0, k1, k2, k3, k4, k5, k6, k7, k8, k9, k10, k11, k12, k13, k14, k15, k16]
def interned : List (Array UInt16 × Addr) := []
def slotsUsed : Nat := 0
def theMethod : MethodId := ⟨1, 1⟩
def args0 : Array Value := #[.long 5, .long 7, .int 3, .int 9]
def aboutOver (below : List Frame) : State where
  vm := { classes := classes, interned := interned.toArray }
  heap := heap
  slotsUsed := slotsUsed
  threads := #[{ frames := .invoking theMethod args0 :: below }]
def below0 : List Frame := [.native { method := ⟨0, 0⟩, args := #[] }]
def about1 : State := aboutOver below0
def p0 : Program := .bare "" "" ""
def e0 : Env := launch0.env 0 0 0
theorem w_frames : about1.frames = Frame.invoking theMethod args0 :: below0 := rfl
set_option maxRecDepth 65536 in
theorem w_args : argsFit about1.vm theMethod args0 = true := by decide +kernel
set_option maxRecDepth 65536 in
theorem w_heap : heapFits about1 = true := by decide +kernel
set_option maxRecDepth 65536 in
theorem w_runnable : about1.curStatus? = some .runnable := by decide +kernel
set_option maxRecDepth 65536 in
theorem w_alone : about1.alone = true := by decide +kernel
set_option maxRecDepth 65536 in
theorem w_named : about1.methodNamed? x = some theMethod := by decide +kernel
set_option maxRecDepth 65536 in
theorem w_hears : about1.hears theMethod below0 = true := by decide +kernel
set_option maxRecDepth 65536 in
theorem w_ripe : about1.ripe theMethod args0 below0 = true := by decide +kernel
theorem w_running : about1.status = .running := rfl
set_option maxRecDepth 65536 in
theorem w_room : about1.hasRoom e0.platform room_1 = true :=
  launch0.hasRoom_least _ room_1 (by decide +kernel) (by decide +kernel) (by decide +kernel) (by decide +kernel) (by decide +kernel) (by decide +kernel)
theorem allAtoms_all (ts : List Jvm.Cond) (a : Array Jvm.Value) (st : Jvm.State) : (allAtoms ts).before a st = ts.all (fun c => c.before a st) := by
  induction ts with
  | nil => rfl
  | cons c t ih =>
    show (Jvm.Cond.and c (allAtoms t)).before a st = _
    rw [Jvm.Cond.before_and, ih, List.all_cons]
def words1 : List Jvm.Cond := Jvm.Cond.code x code maxLocals ret :: tables_1
/-- a 'code' word, met by the world's own term for the bytes: nothing is compared byte by byte -/
theorem code_word {y : MethodName} {bytes : ByteArray} {mx : Nat} {rt : Option FieldType} {a : Array Value} {s : State} {m : MethodId} {meth : Method} {c : Code} (h1 : s.methodNamed? y = some m) (h2 : s.vm.method? m = some meth) (h3 : meth.code = some c) (h4 : c.code = bytes)
    (h5 : (c.maxLocals == mx && c.exceptionTable.isEmpty && decide (c.maxStack ≤ mostOperands) && decide (meth.sig.returnType = rt) && !meth.locks && decide (parseMethodDescriptor y.desc = some meth.sig)) = true) : (Jvm.Cond.code y bytes mx rt).before a s = true := by
  simp only [Bool.and_eq_true, beq_iff_eq, Bool.not_eq_true', decide_eq_true_eq] at h5
  obtain ⟨⟨⟨⟨⟨g1, g2⟩, g3⟩, g4⟩, g5⟩, g6⟩ := h5
  simp [Cond.before, Cond.holds, Cond.value, h1, h2, h3, h4, g1, g2, g3, g4, g5, g6]
def isCode : Jvm.Cond → Bool
  | .code _ _ _ _ => true
  | _ => false
theorem all_split {L : List Jvm.Cond} {P : Jvm.Cond → Bool} (h1 : L.all (fun c => isCode c || P c) = true) (h2 : ∀ c ∈ L.filter isCode, P c = true) : L.all P = true := by
  refine List.all_eq_true.mpr fun c hc => ?_
  have h := List.all_eq_true.mp h1 c hc
  rcases Bool.eq_false_or_eq_true (isCode c) with hi | hi
  · exact h2 c (List.mem_filter.mpr ⟨hc, hi⟩)
  · simpa [hi] using h
set_option maxRecDepth 65536 in
theorem w_c0 : (Jvm.Cond.code x code maxLocals ret).before args0 about1 = true := code_word (m := ⟨1, 1⟩) (meth := k1m1) (c := k1c1) (by decide +kernel) rfl rfl rfl (by decide +kernel)
set_option maxRecDepth 65536 in
theorem w_c1 : (Jvm.Cond.code ({ cls := "com/example/nordwind/nordwind/Tolerances", name := "uniform", desc := "(DD)Lcom/example/nordwind/nordwind/Tolerances;" } : Jvm.MethodName) prog_44_method_2_code (4 : Nat) (Option.some (Jvm.ClassFile.FieldType.object "com/example/nordwind/nordwind/Tolerances"))).before args0 about1 = true := code_word (m := ⟨2, 1⟩) (meth := k2m1) (c := k2c1) (by decide +kernel) rfl rfl rfl (by decide +kernel)
set_option maxRecDepth 65536 in
theorem w_c2 : (Jvm.Cond.code ({ cls := "com/example/nordwind/nordwind/Tolerances", name := "<init>", desc := "([D[DZ)V" } : Jvm.MethodName) prog_44_method_1_code (6 : Nat) (Option.none : Option Jvm.ClassFile.FieldType)).before args0 about1 = true := code_word (m := ⟨2, 0⟩) (meth := k2m0) (c := k2c0) (by decide +kernel) rfl rfl rfl (by decide +kernel)
set_option maxRecDepth 65536 in
theorem w_c3 : (Jvm.Cond.code ({ cls := "java/lang/Object", name := "<init>", desc := "()V" } : Jvm.MethodName) object_method_1_code (1 : Nat) (Option.none : Option Jvm.ClassFile.FieldType)).before args0 about1 = true := code_word (m := ⟨0, 0⟩) (meth := k0m0) (c := k0c0) (by decide +kernel) rfl rfl rfl (by decide +kernel)
set_option maxRecDepth 65536 in
theorem w_c4 : (Jvm.Cond.code ({ cls := "com/example/nordwind/nordwind/Tolerances", name := "checkDimension", desc := "(I)V" } : Jvm.MethodName) prog_44_method_4_code (2 : Nat) (Option.none : Option Jvm.ClassFile.FieldType)).before args0 about1 = true := code_word (m := ⟨2, 2⟩) (meth := k2m2) (c := k2c2) (by decide +kernel) rfl rfl rfl (by decide +kernel)
set_option maxRecDepth 65536 in
theorem w_c5 : (Jvm.Cond.code ({ cls := "com/example/nordwind/nordwind/Tolerances", name := "largestRelative", desc := "()D" } : Jvm.MethodName) prog_44_method_5_code (8 : Nat) (Option.some Jvm.ClassFile.FieldType.double)).before args0 about1 = true := code_word (m := ⟨2, 3⟩) (meth := k2m3) (c := k2c3) (by decide +kernel) rfl rfl rfl (by decide +kernel)
set_option maxRecDepth 65536 in
theorem w_c6 : (Jvm.Cond.code ({ cls := "java/lang/Math", name := "max", desc := "(DD)D" } : Jvm.MethodName) jdk_29_method_68_code (4 : Nat) (Option.some Jvm.ClassFile.FieldType.double)).before args0 about1 = true := code_word (m := ⟨9, 1⟩) (meth := k9m1) (c := k9c1) (by decide +kernel) rfl rfl rfl (by decide +kernel)
def codes1 : List Jvm.Cond := [Jvm.Cond.code x code maxLocals ret, Jvm.Cond.code ({ cls := "com/example/nordwind/nordwind/Tolerances", name := "uniform", desc := "(DD)Lcom/example/nordwind/nordwind/Tolerances;" } : Jvm.MethodName) prog_44_method_2_code (4 : Nat) (Option.some (Jvm.ClassFile.FieldType.object "com/example/nordwind/nordwind/Tolerances")), Jvm.Cond.code ({ cls := "com/example/nordwind/nordwind/Tolerances", name := "<init>", desc := "([D[DZ)V" } : Jvm.MethodName) prog_44_method_1_code (6 : Nat) (Option.none : Option Jvm.ClassFile.FieldType), Jvm.Cond.code ({ cls := "java/lang/Object", name := "<init>", desc := "()V" } : Jvm.MethodName) object_method_1_code (1 : Nat) (Option.none : Option Jvm.ClassFile.FieldType), Jvm.Cond.code ({ cls := "com/example/nordwind/nordwind/Tolerances", name := "checkDimension", desc := "(I)V" } : Jvm.MethodName) prog_44_method_4_code (2 : Nat) (Option.none : Option Jvm.ClassFile.FieldType), Jvm.Cond.code ({ cls := "com/example/nordwind/nordwind/Tolerances", name := "largestRelative", desc := "()D" } : Jvm.MethodName) prog_44_method_5_code (8 : Nat) (Option.some Jvm.ClassFile.FieldType.double), Jvm.Cond.code ({ cls := "java/lang/Math", name := "max", desc := "(DD)D" } : Jvm.MethodName) jdk_29_method_68_code (4 : Nat) (Option.some Jvm.ClassFile.FieldType.double)]
set_option maxRecDepth 65536 in
theorem codes_eq : words1.filter isCode = codes1 := rfl
theorem w_codes : ∀ c ∈ words1.filter isCode, c.before args0 about1 = true := by
  rw [codes_eq]
  intro c hc
  simp only [codes1, List.mem_cons, List.not_mem_nil, or_false] at hc
  rcases hc with rfl | rfl | rfl | rfl | rfl | rfl | rfl
  · exact w_c0
  · exact w_c1
  · exact w_c2
  · exact w_c3
  · exact w_c4
  · exact w_c5
  · exact w_c6
set_option maxRecDepth 65536 in
theorem w_t1 : (words1.take 24).all (fun c => isCode c || c.before args0 about1) = true := by decide +kernel
set_option maxRecDepth 65536 in
theorem w_t2 : (words1.drop 24).all (fun c => isCode c || c.before args0 about1) = true := by decide +kernel
theorem w_tables : (allAtoms (Jvm.Cond.code x code maxLocals ret :: tables_1)).before args0 about1 = true := by
  rw [allAtoms_all]
  show words1.all (fun c => c.before args0 about1) = true
  refine all_split ?_ w_codes
  rw [← List.take_append_drop 24 words1, List.all_append, w_t1, w_t2]
  rfl
set_option maxRecDepth 65536 in
theorem w_case : (Jvm.Cond.and given_1 narrow_1).before args0 about1 = true := by decide +kernel
theorem w_applies : (headSpec (Jvm.Cond.code x code maxLocals ret :: tables_1) room_1).applies x e0.platform about1 = true :=
  (Spec.applies_iff w_frames).mpr ⟨w_running, w_runnable, w_alone, w_named, w_hears, w_ripe, w_room, w_tables⟩
theorem atStart : AtStart classFile x code maxLocals ret World_1 tables_1 room_1 Calls_1 rest_1 Pre_1 launch0 p0 e0 about1 theMethod args0 below0 :=
  ⟨lists_1, trivial, launch0.admits_env _ _ _, launch0.least_env, fairChoices_fair.cas, fairChoices_fair.clock, w_frames, w_args, w_heap, w_applies, trivial, trivial, w_case⟩
end start1
theorem witness_1 : WitnessClaimed_1 := ⟨start1.p0, start1.e0, start1.about1, start1.theMethod, start1.args0, start1.below0, start1.atStart⟩
end Jvm.Pilot.@@N@@
