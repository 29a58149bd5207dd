import JvmDerived
import JvmDerived.Pilot.@@N@@Statement
import JvmDerived.Pilot.@@N@@Code
set_option linter.unusedVariables false
set_option linter.unusedSimpArgs false
namespace Jvm.Pilot.@@N@@
open Jvm Jvm.ClassFile Sem Op Lib Jvm.Free Jvm.Stand Jvm.LawKit Jvm.RoadKit Bundle Jvm.Pilot.@@N@@.Jvm.D
/-! own layer 1: doubles as whole numbers of least units (2 to the -1074) -/
section OwnFp
open Jvm.FP Jvm.FP.Core Jvm.Free.Fl
/-- a power of two -/
def P2 (j : Nat) : Int := ((2 ^ j : Nat) : Int)
theorem P2_pos (j : Nat) : 0 < P2 j := Int.natCast_pos.mpr (Nat.two_pow_pos j)
theorem P2_add (i j : Nat) : P2 (i + j) = P2 i * P2 j := by unfold P2; rw [Nat.pow_add, Int.natCast_mul]
theorem P2_one64 : (one64 : Int) = P2 1074 := rfl
/-- the value of a double in least units -/
def Zv (a : UInt64) : Int := zval b64 (val64 a)
/-- some finite double has this value -/
def Rep (V : Int) : Prop := ∃ x : UInt64, DFin x ∧ Zv x = V
theorem own_qmax : b64.qmax = 971 := by decide
theorem own_signed_abs (c : Int) : signed (decide (c < 0)) c.natAbs = c := by
  unfold signed
  by_cases q : c < 0
  · simp [q]; omega
  · simp [q]; omega
theorem rep_core (s : Bool) {c j : Nat} (hc : c < 2 ^ 53) (hj : j ≤ 2045) : ∃ x : UInt64, DFin x ∧ Zv x = signed s (c * 2 ^ j) := by
  obtain ⟨c', q', h1, h2⟩ := round_exact (f := b64) good_b64 s (c := c) (q := (j : Int) - 1074) hc (by rw [qmin_b64]; omega) (by rw [own_qmax]; omega)
  refine ⟨of64 (round b64 (.fin s c ((j : Int) - 1074))), ⟨s, c', q', ?_⟩, ?_⟩
  · rw [val64_of64 (round_fits good_b64 _), h1]
  · unfold Zv
    rw [val64_of64 (round_fits good_b64 _), h1]
    show signed s (inUnits c' q' b64.qmin) = _
    rw [h2]
    unfold inUnits
    rw [show ((j : Int) - 1074 - b64.qmin).toNat = j by rw [qmin_b64]; omega]
theorem rep_mk (c : Int) (j : Nat) (hc : c.natAbs ≤ 2 ^ 53) (hj : j ≤ 2044) : Rep (c * P2 j) := by
  by_cases h : c.natAbs < 2 ^ 53
  · obtain ⟨x, h1, h2⟩ := rep_core (decide (c < 0)) h (j := j) (by omega)
    refine ⟨x, h1, h2.trans ?_⟩
    rw [signed_mul, own_signed_abs]; rfl
  · have h' : c.natAbs = 2 ^ 53 := by omega
    obtain ⟨x, h1, h2⟩ := rep_core (decide (c < 0)) (c := 2 ^ 52) (by decide) (j := j + 1) (by omega)
    refine ⟨x, h1, h2.trans ?_⟩
    have e : 2 ^ 52 * 2 ^ (j + 1) = c.natAbs * 2 ^ j := by
      rw [h', Nat.pow_add 2 j 1]
      generalize 2 ^ j = t
      omega
    rw [e, signed_mul, own_signed_abs]; rfl
theorem rep_of {V : Int} (c : Int) (j : Nat) (hc : c.natAbs ≤ 2 ^ 53) (hj : j ≤ 2044) (h : V = c * P2 j) : Rep V := h ▸ rep_mk c j hc hj
theorem rep_int (n : Int) (h : n.natAbs ≤ 2 ^ 53) : Rep (n * P2 1074) := rep_mk n 1074 h (by decide)
theorem rep_zero : Rep 0 := rep_of 0 0 (by decide) (by decide) (by simp)
theorem rep_self {x : UInt64} (h : DFin x) : Rep (Zv x) := ⟨x, h, rfl⟩
theorem rep_neg {V : Int} (h : Rep V) : Rep (-V) := by
  obtain ⟨x, hx, rfl⟩ := h
  obtain ⟨s, c, q, hv⟩ := hx
  refine ⟨Core.dneg x, ⟨!s, c, q, ?_⟩, ?_⟩
  · rw [Core.val64_dneg, hv]; rfl
  · unfold Zv; rw [Core.val64_dneg, zval_negate]
/-- between two finite values: finite -/
theorem fin_between {x : UInt64} (hn : val64 x ≠ .nan) {L H : Int} (hL : Rep L) (hH : Rep H) (h1 : L ≤ Zv x) (h2 : Zv x ≤ H) : DFin x := by
  cases hv : val64 x with
  | nan => exact absurd hv hn
  | fin s c q => exact ⟨s, c, q, hv⟩
  | inf s =>
    exfalso
    obtain ⟨y, hy, rfl⟩ := hL
    obtain ⟨z, hz, rfl⟩ := hH
    have a1 := hy.zval_lt
    have a2 := hz.zval_lt
    have e : Zv x = signed s (b64.tails * 2 ^ (b64.exps - 2)) := by unfold Zv; rw [hv]; rfl
    have b1 : signed (sgn (val64 y)) (zmag b64 (val64 y)) ≤ signed s (b64.tails * 2 ^ (b64.exps - 2)) := e ▸ h1
    have b2 : signed s (b64.tails * 2 ^ (b64.exps - 2)) ≤ signed (sgn (val64 z)) (zmag b64 (val64 z)) := e ▸ h2
    generalize b64.tails * 2 ^ (b64.exps - 2) = top at *
    generalize zmag b64 (val64 y) = my at *
    generalize zmag b64 (val64 z) = mz at *
    generalize sgn (val64 y) = sy at *
    generalize sgn (val64 z) = sz at *
    cases s <;> cases sy <;> cases sz <;> simp only [signed, if_true, Bool.false_eq_true, if_false] at b1 b2 <;> omega
theorem not_nan {x : UInt64} (h : Core.dIsNaN x = false) : val64 x ≠ .nan := (notNaN_iff x).mp h
theorem nn_of {x : UInt64} (h : DFin x) : NoNaN64 x := (fin64_core.mpr h).noNaN
/-! sums -/
theorem add_le {a b : UInt64} (ha : DFin a) (hb : DFin b) {V : Int} (hV : Rep V) (h : Zv a + Zv b ≤ V) : Zv (FP.dadd a b) ≤ V := by
  obtain ⟨x, hx, rfl⟩ := hV
  unfold Zv at h ⊢
  rw [val64_dadd]
  exact sum_le good_b64 ha hb (val64_fits a) (val64_fits b) (val64_fits x) hx.ne_nan h
theorem add_ge {a b : UInt64} (ha : DFin a) (hb : DFin b) {V : Int} (hV : Rep V) (h : V ≤ Zv a + Zv b) : V ≤ Zv (FP.dadd a b) := by
  obtain ⟨x, hx, rfl⟩ := hV
  unfold Zv at h ⊢
  rw [val64_dadd]
  exact sum_ge good_b64 ha hb (val64_fits a) (val64_fits b) (val64_fits x) hx.ne_nan h
theorem add_in {a b : UInt64} (ha : DFin a) (hb : DFin b) {L H : Int} (hL : Rep L) (hH : Rep H) (h1 : L ≤ Zv a + Zv b) (h2 : Zv a + Zv b ≤ H) : DFin (FP.dadd a b) ∧ L ≤ Zv (FP.dadd a b) ∧ Zv (FP.dadd a b) ≤ H :=
  ⟨fin_between (not_nan (Core.dadd_out ha.notNaN hb)) hL hH (add_ge ha hb hL h1) (add_le ha hb hH h2), add_ge ha hb hL h1, add_le ha hb hH h2⟩
theorem add_eq {a b : UInt64} (ha : DFin a) (hb : DFin b) {V : Int} (hV : Rep V) (h : Zv a + Zv b = V) : DFin (FP.dadd a b) ∧ Zv (FP.dadd a b) = V := by
  obtain ⟨h1, h2, h3⟩ := add_in ha hb hV hV (Int.le_of_eq h.symm) (Int.le_of_eq h)
  exact ⟨h1, Int.le_antisymm h3 h2⟩
/-! signs -/
theorem neg_eq {a : UInt64} (ha : DFin a) : DFin (FP.dneg a) ∧ Zv (FP.dneg a) = -Zv a := by
  obtain ⟨s, c, q, hv⟩ := ha
  constructor
  · exact ⟨!s, c, q, by rw [FP.val64_dneg, hv]; rfl⟩
  · unfold Zv; rw [FP.val64_dneg, zval_negate]
theorem cneg_eq {a : UInt64} (ha : DFin a) : DFin (Core.dneg a) ∧ Zv (Core.dneg a) = -Zv a := by
  obtain ⟨s, c, q, hv⟩ := ha
  constructor
  · exact ⟨!s, c, q, by rw [Core.val64_dneg, hv]; rfl⟩
  · unfold Zv; rw [Core.val64_dneg, zval_negate]
/-! differences -/
theorem sub_in {a b : UInt64} (ha : DFin a) (hb : DFin b) {L H : Int} (hL : Rep L) (hH : Rep H) (h1 : L ≤ Zv a - Zv b) (h2 : Zv a - Zv b ≤ H) : DFin (FP.dsub a b) ∧ L ≤ Zv (FP.dsub a b) ∧ Zv (FP.dsub a b) ≤ H := by
  obtain ⟨n1, n2⟩ := cneg_eq hb
  have e : FP.dsub a b = FP.dadd a (Core.dneg b) := Core.dsub_eq a b
  rw [e]
  exact add_in ha n1 hL hH (by rw [n2]; omega) (by rw [n2]; omega)
theorem sub_eq {a b : UInt64} (ha : DFin a) (hb : DFin b) {V : Int} (hV : Rep V) (h : Zv a - Zv b = V) : DFin (FP.dsub a b) ∧ Zv (FP.dsub a b) = V := by
  obtain ⟨h1, h2, h3⟩ := sub_in ha hb hV hV (Int.le_of_eq h.symm) (Int.le_of_eq h)
  exact ⟨h1, Int.le_antisymm h3 h2⟩
/-! products -/
theorem own_q2 : (b64.qmin - 2 * b64.qmin).toNat = 1074 := by rw [qmin_b64]; decide
theorem mul_le {a b : UInt64} (ha : DFin a) (hb : DFin b) {V : Int} (hV : Rep V) (h : Zv a * Zv b ≤ V * P2 1074) : Zv (FP.dmul a b) ≤ V := by
  obtain ⟨x, hx, rfl⟩ := hV
  obtain ⟨s, c, q, hva⟩ := ha
  obtain ⟨t, d, r, hvb⟩ := hb
  have fa := val64_fits a
  have fb := val64_fits b
  unfold Zv at h ⊢
  rw [hva] at fa h
  rw [hvb] at fb h
  obtain ⟨p1, p2, p3⟩ := product_units fa fb
  rw [val64_dmul, hva, hvb, p1]
  refine zval_round_le good_b64 (val64_fits x) hx.ne_nan (e0 := 2 * b64.qmin) (by rw [qmin_b64]; decide) p2 ?_
  rw [p3, signed_xor, own_q2]
  exact h
theorem mul_ge {a b : UInt64} (ha : DFin a) (hb : DFin b) {V : Int} (hV : Rep V) (h : V * P2 1074 ≤ Zv a * Zv b) : V ≤ Zv (FP.dmul a b) := by
  obtain ⟨x, hx, rfl⟩ := hV
  obtain ⟨s, c, q, hva⟩ := ha
  obtain ⟨t, d, r, hvb⟩ := hb
  have fa := val64_fits a
  have fb := val64_fits b
  unfold Zv at h ⊢
  rw [hva] at fa h
  rw [hvb] at fb h
  obtain ⟨p1, p2, p3⟩ := product_units fa fb
  rw [val64_dmul, hva, hvb, p1]
  refine zval_round_ge good_b64 (val64_fits x) hx.ne_nan (e0 := 2 * b64.qmin) (by rw [qmin_b64]; decide) p2 ?_
  rw [p3, signed_xor, own_q2]
  exact h
theorem mul_in {a b : UInt64} (ha : DFin a) (hb : DFin b) {L H : Int} (hL : Rep L) (hH : Rep H) (h1 : L * P2 1074 ≤ Zv a * Zv b) (h2 : Zv a * Zv b ≤ H * P2 1074) : DFin (FP.dmul a b) ∧ L ≤ Zv (FP.dmul a b) ∧ Zv (FP.dmul a b) ≤ H :=
  ⟨fin_between (not_nan (Core.dmul_out ha hb)) hL hH (mul_ge ha hb hL h1) (mul_le ha hb hH h2), mul_ge ha hb hL h1, mul_le ha hb hH h2⟩
theorem mul_eq {a b : UInt64} (ha : DFin a) (hb : DFin b) {V : Int} (hV : Rep V) (h : Zv a * Zv b = V * P2 1074) : DFin (FP.dmul a b) ∧ Zv (FP.dmul a b) = V := by
  obtain ⟨h1, h2, h3⟩ := mul_in ha hb hV hV (Int.le_of_eq h.symm) (Int.le_of_eq h)
  exact ⟨h1, Int.le_antisymm h3 h2⟩
/-! quotients by a positive number -/
theorem own_sgn_le {s t : Bool} {A V B r : Nat} (hB : 0 < B) (hle : A ≤ V * B → r ≤ V) (hge : V * B ≤ A → V ≤ r) (h : signed s A ≤ signed t V * (B : Int)) : signed s r ≤ signed t V := by
  rw [← signed_mul] at h
  have hz : V * B = 0 → V = 0 := fun q => by rcases Nat.mul_eq_zero.mp q with q | q <;> omega
  generalize V * B = vb at *
  cases s <;> cases t <;> simp only [signed, if_true, Bool.false_eq_true, if_false] at h ⊢
  · have := hle (by omega); omega
  · have := hle (by omega); have := hz (by omega); omega
  · omega
  · have := hge (by omega); omega
theorem own_sgn_ge {s t : Bool} {A V B r : Nat} (hB : 0 < B) (hle : A ≤ V * B → r ≤ V) (hge : V * B ≤ A → V ≤ r) (h : signed t V * (B : Int) ≤ signed s A) : signed t V ≤ signed s r := by
  rw [← signed_mul] at h
  have hz : V * B = 0 → V = 0 := fun q => by rcases Nat.mul_eq_zero.mp q with q | q <;> omega
  generalize V * B = vb at *
  cases s <;> cases t <;> simp only [signed, if_true, Bool.false_eq_true, if_false] at h ⊢
  · have := hge (by omega); omega
  · omega
  · have := hle (by omega); have := hz (by omega); omega
  · have := hle (by omega); omega
theorem div_core {a b : UInt64} (ha : DFin a) (hb : DFin b) (hp : 0 < Zv b) (x : UInt64) (hx : DFin x) :
    ∃ (s : Bool) (A B : Nat), (B : Int) = Zv b ∧ signed s A = Zv a * P2 1074 ∧ 0 < B ∧ ∃ r, Zv (FP.ddiv a b) = signed s r ∧ (A ≤ zmag b64 (val64 x) * B → r ≤ zmag b64 (val64 x)) ∧ (zmag b64 (val64 x) * B ≤ A → zmag b64 (val64 x) ≤ r) := by
  obtain ⟨s, c, q, hva⟩ := ha
  obtain ⟨t, d, r, hvb⟩ := hb
  have fa := val64_fits a
  have fb := val64_fits b
  rw [hva] at fa
  rw [hvb] at fb
  have f1 := fa.2.1
  have f2 := fb.2.1
  have zb : Zv b = signed t (inUnits d r b64.qmin) := by unfold Zv; rw [hvb]; rfl
  have hd : 0 < d := by
    rcases Nat.eq_zero_or_pos d with q0 | q0
    · rw [zb, q0] at hp
      have : inUnits 0 r b64.qmin = 0 := Nat.zero_mul _
      rw [this, signed_zero] at hp; omega
    · exact q0
  have ht : t = false := by
    cases t with
    | false => rfl
    | true => rw [zb] at hp; simp only [signed, if_true] at hp; omega
  subst ht
  have hB : 0 < inUnits d r b64.qmin := Nat.mul_pos hd (Nat.two_pow_pos _)
  have e1 : inUnits c (q - r) (2 * b64.qmin - r) = inUnits c q b64.qmin * 2 ^ 1074 := by
    unfold inUnits
    rw [Nat.mul_assoc, ← Nat.pow_add]
    rw [qmin_b64] at *
    congr 2; omega
  have e2 : 2 ^ (b64.qmin - (2 * b64.qmin - r)).toNat * d = inUnits d r b64.qmin := by
    unfold inUnits
    rw [Nat.mul_comm]; congr 2; omega
  have hv : val64 (FP.ddiv a b) = roundRatio b64 s c d (q - r) := by
    rw [val64_ddiv, hva, hvb]
    show (if d = 0 then _ else roundRatio b64 (s != false) c d (q - r)) = _
    rw [if_neg (by omega)]
    cases s <;> rfl
  refine ⟨s, inUnits c q b64.qmin * 2 ^ 1074, inUnits d r b64.qmin, ?_, ?_, hB, zmag b64 (roundRatio b64 s c d (q - r)), ?_, ?_, ?_⟩
  · rw [zb]; simp only [signed, Bool.false_eq_true, if_false]
  · unfold Zv; rw [signed_mul, hva]; rfl
  · unfold Zv; rw [hv]; show signed (sgn _) _ = _; rw [sgn_roundRatio]
  · intro h
    refine zmag_roundRatio_le good_b64 hd (val64_fits x) hx.ne_nan (e0 := 2 * b64.qmin - r) (by have := qmin_b64; omega) (by have := qmin_b64; omega) ?_
    rw [e1, Nat.mul_assoc, e2]; exact h
  · intro h
    refine zmag_roundRatio_ge good_b64 hd (val64_fits x) (e0 := 2 * b64.qmin - r) (by have := qmin_b64; omega) (by have := qmin_b64; omega) ?_
    rw [e1, Nat.mul_assoc, e2]; exact h
theorem div_le {a b : UInt64} (ha : DFin a) (hb : DFin b) (hp : 0 < Zv b) {V : Int} (hV : Rep V) (h : Zv a * P2 1074 ≤ V * Zv b) : Zv (FP.ddiv a b) ≤ V := by
  obtain ⟨x, hx, rfl⟩ := hV
  obtain ⟨s, A, B, h1, h2, h3, r, h4, h5, h6⟩ := div_core ha hb hp x hx
  rw [h4]
  rw [← h2, ← h1] at h
  exact own_sgn_le h3 h5 h6 h
theorem div_ge {a b : UInt64} (ha : DFin a) (hb : DFin b) (hp : 0 < Zv b) {V : Int} (hV : Rep V) (h : V * Zv b ≤ Zv a * P2 1074) : V ≤ Zv (FP.ddiv a b) := by
  obtain ⟨x, hx, rfl⟩ := hV
  obtain ⟨s, A, B, h1, h2, h3, r, h4, h5, h6⟩ := div_core ha hb hp x hx
  rw [h4]
  rw [← h2, ← h1] at h
  exact own_sgn_ge h3 h5 h6 h
theorem pos_nz {b : UInt64} (hp : 0 < Zv b) : ¬ DZero b := fun q => by
  have := q.zval
  unfold Zv at hp
  omega
theorem div_in {a b : UInt64} (ha : DFin a) (hb : DFin b) (hp : 0 < Zv b) {L H : Int} (hL : Rep L) (hH : Rep H) (h1 : L * Zv b ≤ Zv a * P2 1074) (h2 : Zv a * P2 1074 ≤ H * Zv b) : DFin (FP.ddiv a b) ∧ L ≤ Zv (FP.ddiv a b) ∧ Zv (FP.ddiv a b) ≤ H :=
  ⟨fin_between (not_nan (Core.ddiv_out ha.notNaN hb (pos_nz hp))) hL hH (div_ge ha hb hp hL h1) (div_le ha hb hp hH h2), div_ge ha hb hp hL h1, div_le ha hb hp hH h2⟩
theorem div_eq {a b : UInt64} (ha : DFin a) (hb : DFin b) (hp : 0 < Zv b) {V : Int} (hV : Rep V) (h : Zv a * P2 1074 = V * Zv b) : DFin (FP.ddiv a b) ∧ Zv (FP.ddiv a b) = V := by
  obtain ⟨h1, h2, h3⟩ := div_in ha hb hp hV hV (Int.le_of_eq h.symm) (Int.le_of_eq h)
  exact ⟨h1, Int.le_antisymm h3 h2⟩
/-! whole numbers -/
theorem l2d_in {n : Int64} {L H : Int} (hL : Rep L) (hH : Rep H) (h1 : L ≤ n.toInt * P2 1074) (h2 : n.toInt * P2 1074 ≤ H) : L ≤ Zv (FP.l2d n) ∧ Zv (FP.l2d n) ≤ H := by
  obtain ⟨x, hx, rfl⟩ := hL
  obtain ⟨y, hy, rfl⟩ := hH
  exact ⟨l2d_zval_ge hx.ne_nan h1, l2d_zval_le hy.ne_nan h2⟩
theorem l2d_dfin (n : Int64) : DFin (FP.l2d n) := Core.l2d_fin n
theorem i2d_dfin (n : Int32) : DFin (FP.i2d n) := Core.i2d_fin n
theorem l2d_rep {n : Int64} (h : Rep (n.toInt * P2 1074)) : Zv (FP.l2d n) = n.toInt * P2 1074 := by
  obtain ⟨h1, h2⟩ := l2d_in h h (Int.le_refl _) (Int.le_refl _)
  exact Int.le_antisymm h2 h1
theorem l2d_eq {n : Int64} (h : n.toInt.natAbs ≤ 2 ^ 53) : Zv (FP.l2d n) = n.toInt * P2 1074 := l2d_rep (rep_int _ h)
theorem i2d_eq (n : Int32) : Zv (FP.i2d n) = n.toInt * P2 1074 := by
  rw [i2d_w, l2d_eq (by rw [Int32.toInt_toInt64]; have := int32_abs n; omega), Int32.toInt_toInt64]
theorem d2l_eq {a : UInt64} (ha : DFin a) {n : Int} (h : Zv a = n * P2 1074) (h1 : -9223372036854775808 ≤ n) (h2 : n < 9223372036854775808) : (FP.d2l a).toInt = n := by
  have e := d2l_val ha.ne_nan
  have z : signed (sgn (val64 a)) (zmag b64 (val64 a)) = n * (one64 : Int) := h
  have hp := one64_pos
  have hm : zmag b64 (val64 a) = n.natAbs * one64 := by
    have q := congrArg Int.natAbs z
    rw [natAbs_signed, Int.natAbs_mul] at q
    exact q
  have hs : signed (sgn (val64 a)) n.natAbs = n := by
    rw [hm, signed_mul] at z
    exact Int.eq_of_mul_eq_mul_right (by omega) z
  rw [hm, Nat.mul_div_cancel _ hp, hs] at e
  show (Core.d2l a).toInt = n
  rw [e]; omega
/-! comparisons -/
theorem cmp_lt {a b : UInt64} (ha : DFin a) (hb : DFin b) (o : CmpOp) (h : Zv a < Zv b) : cmpValue (FP.dcmp a b) o = -1 := by
  rw [show FP.dcmp a b = some .lt from dcmp_lt.mpr ⟨ha.ne_nan, hb.ne_nan, h⟩]; rfl
theorem cmp_eq {a b : UInt64} (ha : DFin a) (hb : DFin b) (o : CmpOp) (h : Zv a = Zv b) : cmpValue (FP.dcmp a b) o = 0 := by
  rw [show FP.dcmp a b = some .eq from dcmp_eq.mpr ⟨ha.ne_nan, hb.ne_nan, h⟩]; rfl
theorem cmp_gt {a b : UInt64} (ha : DFin a) (hb : DFin b) (o : CmpOp) (h : Zv b < Zv a) : cmpValue (FP.dcmp a b) o = 1 := by
  rw [show FP.dcmp a b = some .gt from dcmp_gt.mpr ⟨ha.ne_nan, hb.ne_nan, h⟩]; rfl
/-! constants -/
theorem zero_fin : DFin 0 := (fin_bits _).mpr (by decide)
theorem zero_z : Zv 0 = 0 := zval64_zero
theorem one_fin : DFin 4607182418800017408 := (fin_bits _).mpr (by decide)
theorem one_z : Zv 4607182418800017408 = 1 * P2 1074 := by unfold Zv P2; decide +kernel
end OwnFp

/-! own layer 2: walking forward -/
section OwnGo
open Jvm.Free.Fl
variable {p : Program} {l : Launch} {e : Env} {R : Room} {s : State} {m : MethodId} {args : Array Value} {below : List Frame} {meth : Method} {c : Code} {T : State} {locs : List Loc} {cells slots : Nat} {Q : Outcome → State → Prop}
/-- from here the run comes to an end that Q allows -/
def Go (p : Program) (e : Env) (below : List Frame) (Q : Outcome → State → Prop) (S : State) : Prop :=
  ∃ s₂ o, Steps p.tables e below S s₂ ∧ s₂.status = .running ∧ Ended s₂ below o ∧ Q o s₂
theorem Go.of {S S' : State} (h : ∀ t, Steps p.tables e below S' t → Steps p.tables e below S t) (g : Go p e below Q S') : Go p e below Q S := by
  obtain ⟨s₂, o, h1, h2⟩ := g
  exact ⟨s₂, o, h _ h1, h2⟩
theorem Go.tr {S S' : State} (h : Steps p.tables e below S S') (g : Go p e below Q S') : Go p e below Q S := Go.of (fun _ k => h.trans k) g
abbrev Ret (s : State) (Qv : Option Value → Heap → List Loc → Prop) (kc ks : Nat) : Outcome → State → Prop := fun o U' => ∃ v L, o = .returned v ∧ Qv v U'.heap L ∧ FrameEnd s o U' L kc ks
theorem Go.done (X : Stand p l e R s m args below meth c T locs cells slots) {g : JFrame} {v : Option Value} (hv : meth.sig.returnType = none → v = none) (hlocks : meth.locks = false)
    (hst : ∀ fs, (∀ (f : JFrame) (acts : List Action), f.method = m → f.locked = none → f.entered = [] → (doReturn e (T.setTop f) acts v).1 = T.setFrames fs) → Steps p.tables e below (T.setTop g) (T.setFrames fs))
    {Qv : Option Value → Heap → List Loc → Prop} {kc ks : Nat} (hc : cells ≤ kc) (hk : slots ≤ ks) (hq : Qv v T.heap locs) : Go p e below (Ret s Qv kc ks) (T.setTop g) := by
  obtain ⟨fs, hr, hrun, hended, hW, hsame⟩ := X.leave (v := v) hv hlocks
  exact ⟨_, _, hst fs hr, hrun, hended, v, locs, rfl, hq, ⟨_, rfl⟩, hW, hsame.mono hc hk⟩
theorem Go.retV (X : Stand p l e R s m args below meth c T locs cells slots) (hx : p.tables.exec = Jvm.exec) {pc : Nat} {Ls : Array Slot} (hret : meth.sig.returnType = none) (hlk : meth.locks = false) (hd : decode c.code pc = .ok (.return_, 1))
    {Qv : Option Value → Heap → List Loc → Prop} {kc ks : Nat} (hc : cells ≤ kc) (hk : slots ≤ ks) (hq : Qv none T.heap locs) : Go p e below (Ret s Qv kc ks) (T.setTop (mkF m pc Ls [])) :=
  Go.done X (fun _ => rfl) hlk (fun _ hr => X.returnOut hx hret hd hr) hc hk hq
theorem Go.retL (X : Stand p l e R s m args below meth c T locs cells slots) (hx : p.tables.exec = Jvm.exec) {pc : Nat} {Ls : Array Slot} {st : List Value} {z : Int64} (hret : meth.sig.returnType = some .long) (hlk : meth.locks = false) (hd : decode c.code pc = .ok (.lreturn, 1))
    {Qv : Option Value → Heap → List Loc → Prop} {kc ks : Nat} (hc : cells ≤ kc) (hk : slots ≤ ks) (hq : Qv (some (.long z)) T.heap locs) : Go p e below (Ret s Qv kc ks) (T.setTop (mkF m pc Ls ((.long z) :: st))) :=
  Go.done X (fun h => by rw [hret] at h; cases h) hlk (fun _ hr => retOut X hx hret rfl (Or.inr (Or.inl ⟨rfl, rfl, z, rfl⟩)) hd hr) hc hk hq
theorem Go.retD (X : Stand p l e R s m args below meth c T locs cells slots) (hx : p.tables.exec = Jvm.exec) {pc : Nat} {Ls : Array Slot} {st : List Value} {z : UInt64} (hret : meth.sig.returnType = some .double) (hlk : meth.locks = false) (hd : decode c.code pc = .ok (.dreturn, 1))
    {Qv : Option Value → Heap → List Loc → Prop} {kc ks : Nat} (hc : cells ≤ kc) (hk : slots ≤ ks) (hq : Qv (some (.double z)) T.heap locs) : Go p e below (Ret s Qv kc ks) (T.setTop (mkF m pc Ls ((.double z) :: st))) :=
  Go.done X (fun h => by rw [hret] at h; cases h) hlk (fun _ hr => retOut X hx hret rfl (Or.inr (Or.inr (Or.inl ⟨rfl, rfl, z, rfl⟩))) hd hr) hc hk hq
theorem Go.retF (X : Stand p l e R s m args below meth c T locs cells slots) (hx : p.tables.exec = Jvm.exec) {pc : Nat} {Ls : Array Slot} {st : List Value} {z : UInt32} (hret : meth.sig.returnType = some .float) (hlk : meth.locks = false) (hd : decode c.code pc = .ok (.freturn, 1))
    {Qv : Option Value → Heap → List Loc → Prop} {kc ks : Nat} (hc : cells ≤ kc) (hk : slots ≤ ks) (hq : Qv (some (.float z)) T.heap locs) : Go p e below (Ret s Qv kc ks) (T.setTop (mkF m pc Ls ((.float z) :: st))) :=
  Go.done X (fun h => by rw [hret] at h; cases h) hlk (fun _ hr => retOut X hx hret rfl (Or.inr (Or.inr (Or.inr (Or.inl ⟨rfl, rfl, z, rfl⟩)))) hd hr) hc hk hq
theorem Go.retI (X : Stand p l e R s m args below meth c T locs cells slots) (hx : p.tables.exec = Jvm.exec) {pc : Nat} {Ls : Array Slot} {st : List Value} {z : Int32} (hret : meth.sig.returnType = some .int) (hlk : meth.locks = false) (hd : decode c.code pc = .ok (.ireturn, 1))
    {Qv : Option Value → Heap → List Loc → Prop} {kc ks : Nat} (hc : cells ≤ kc) (hk : slots ≤ ks) (hq : Qv (some (.int z)) T.heap locs) : Go p e below (Ret s Qv kc ks) (T.setTop (mkF m pc Ls ((.int z) :: st))) :=
  Go.done X (fun h => by rw [hret] at h; cases h) hlk (fun _ hr => retOut X hx hret rfl (Or.inl ⟨rfl, Or.inl rfl, z, rfl⟩) hd hr) hc hk hq
theorem Go.retZ (X : Stand p l e R s m args below meth c T locs cells slots) (hx : p.tables.exec = Jvm.exec) {pc : Nat} {Ls : Array Slot} {st : List Value} {z : Int32} (hret : meth.sig.returnType = some .boolean) (hlk : meth.locks = false) (hd : decode c.code pc = .ok (.ireturn, 1)) (hz : z = 0 ∨ z = 1)
    {Qv : Option Value → Heap → List Loc → Prop} {kc ks : Nat} (hc : cells ≤ kc) (hk : slots ≤ ks) (hq : Qv (some (.int z)) T.heap locs) : Go p e below (Ret s Qv kc ks) (T.setTop (mkF m pc Ls ((.int z) :: st))) :=
  Go.done X (fun h => by rw [hret] at h; cases h) hlk (fun _ hr => retOut X hx hret (by rcases hz with rfl | rfl <;> rfl) (Or.inl ⟨rfl, Or.inr (Or.inl rfl), z, rfl⟩) hd hr) hc hk hq
theorem Go.retA (X : Stand p l e R s m args below meth c T locs cells slots) (hx : p.tables.exec = Jvm.exec) {pc : Nat} {Ls : Array Slot} {st : List Value} {v : Value} {t : FieldType} (hret : meth.sig.returnType = some t) (hlk : meth.locks = false) (hd : decode c.code pc = .ok (.areturn, 1)) (ht : t.isReference = true) (hv : v.isRef = true) (hn : narrow t v = v)
    {Qv : Option Value → Heap → List Loc → Prop} {kc ks : Nat} (hc : cells ≤ kc) (hk : slots ≤ ks) (hq : Qv (some v) T.heap locs) : Go p e below (Ret s Qv kc ks) (T.setTop (mkF m pc Ls (v :: st))) :=
  Go.done X (fun h => by rw [hret] at h; cases h) hlk (fun _ hr => retOut X hx hret hn (Or.inr (Or.inr (Or.inr (Or.inr ⟨rfl, ht, hv⟩)))) hd hr) hc hk hq
theorem enter {l : Launch} {Z : State} {y : MethodName} {bytes : ByteArray} {maxL : Nat} {ret : Option FieldType} {ws : List Jvm.Cond} {rm : Room} {as' : Array Value} {h0 : Heap} {Qv : Option Value → Heap → List Loc → Prop} {Ls : Array Slot} {kc ks : Nat}
    (hpn : plainFor y = true) (hef : ∀ m, entryFrame m as' maxL = mkF m 0 Ls [])
    (body : ∀ (p : Program) (e : Env) (s : State) (m : MethodId) (below : List Frame) (meth : Method) (c : Code) (s₁ : State), p.tables.exec = Jvm.exec → c.code = bytes → c.maxLocals = maxL → s.vm.findClass y.cls = some m.cls → meth.name = y.name → meth.sig.returnType = ret → meth.locks = false → Z.Warmed39 s.vm →
      Stand p l e rm s m as' below meth c s₁ [] 0 0 → s₁.heap = h0 → Go p e below (Ret s Qv kc ks) (s₁.setTop (mkF m 0 Ls []))) :
    MetFree l y (head1 (Jvm.Cond.code y bytes maxL ret :: ws) rm) (fun a U => a = as' ∧ Z.Warmed39 U.vm ∧ U.heap = h0) (fun _ _ _ _ _ => True) (fun _ U o U' => ∃ v L, o = .returned v ∧ Qv v U'.heap L ∧ FrameEnd U o U' L kc ks) := by
  refine MetFree.of_bodySF hpn hisR ?_
  intro p e s m args below meth c s₁ Bd hml0 hP hK
  obtain ⟨rfl, hZ, hh⟩ := hP
  have e0 : s₁.heap = h0 := by rw [← hh, Bd.state]; rfl
  obtain ⟨s₂, o, h1, h2, h3, h4⟩ := body p e s m below meth c s₁ Bd.exec Bd.bytes hml0 (findClass_of_methodNamed Bd.named) (name_of_methodNamed Bd.named Bd.method).1 Bd.returns (BodyLoose.notSynchronized Bd) hZ (Stand.of_body Bd) e0
  exact ⟨s₂, o, castTop (hef m) h1, h2, h3, h4⟩
theorem Go.iload (h : At T m c below) (hx : p.tables.exec = Jvm.exec) {pc q : Nat} {Ls : Array Slot} {st : List Value} {k : Nat} {v : Int32} (hd : decode c.code pc = .ok (.iload k, 2)) (hl : Ls[k]? = some (.val (.int v))) (hq : pc + 2 = q) (g : Go p e below Q (T.setTop (mkF m q Ls (.int v :: st)))) : Go p e below Q (T.setTop (mkF m pc Ls st)) := by
  subst hq; exact Go.of (fun _ r => XS.iload h hx rfl hd hl r) g
theorem Go.iloadN (h : At T m c below) (hx : p.tables.exec = Jvm.exec) {pc q : Nat} {Ls : Array Slot} {st : List Value} {k : Fin 4} {v : Int32} (hd : decode c.code pc = .ok (.iload_n k, 1)) (hl : Ls[k.val]? = some (.val (.int v))) (hq : pc + 1 = q) (g : Go p e below Q (T.setTop (mkF m q Ls (.int v :: st)))) : Go p e below Q (T.setTop (mkF m pc Ls st)) := by
  subst hq; exact Go.of (fun _ r => XS.iloadN h hx rfl hd hl r) g
theorem Go.istore (h : At T m c below) (hx : p.tables.exec = Jvm.exec) {pc q : Nat} {Ls : Array Slot} {st : List Value} {k : Nat} {v : Int32} {l2 : Array Slot} (hd : decode c.code pc = .ok (.istore k, 2)) (hl : storeLocals Ls k (.int v) = some l2) (hq : pc + 2 = q) (g : Go p e below Q (T.setTop (mkF m q l2 st))) : Go p e below Q (T.setTop (mkF m pc Ls (.int v :: st))) := by
  subst hq; exact Go.of (fun _ r => XS.istore h hx rfl hd rfl hl r) g
theorem Go.istoreN (h : At T m c below) (hx : p.tables.exec = Jvm.exec) {pc q : Nat} {Ls : Array Slot} {st : List Value} {k : Fin 4} {v : Int32} {l2 : Array Slot} (hd : decode c.code pc = .ok (.istore_n k, 1)) (hl : storeLocals Ls k.val (.int v) = some l2) (hq : pc + 1 = q) (g : Go p e below Q (T.setTop (mkF m q l2 st))) : Go p e below Q (T.setTop (mkF m pc Ls (.int v :: st))) := by
  subst hq; exact Go.of (fun _ r => XS.istoreN h hx rfl hd rfl hl r) g
theorem Go.lload (h : At T m c below) (hx : p.tables.exec = Jvm.exec) {pc q : Nat} {Ls : Array Slot} {st : List Value} {k : Nat} {v : Int64} (hd : decode c.code pc = .ok (.lload k, 2)) (hl : Ls[k]? = some (.val (.long v))) (hq : pc + 2 = q) (g : Go p e below Q (T.setTop (mkF m q Ls (.long v :: st)))) : Go p e below Q (T.setTop (mkF m pc Ls st)) := by
  subst hq; exact Go.of (fun _ r => XS.lload h hx rfl hd hl r) g
theorem Go.lloadN (h : At T m c below) (hx : p.tables.exec = Jvm.exec) {pc q : Nat} {Ls : Array Slot} {st : List Value} {k : Fin 4} {v : Int64} (hd : decode c.code pc = .ok (.lload_n k, 1)) (hl : Ls[k.val]? = some (.val (.long v))) (hq : pc + 1 = q) (g : Go p e below Q (T.setTop (mkF m q Ls (.long v :: st)))) : Go p e below Q (T.setTop (mkF m pc Ls st)) := by
  subst hq; exact Go.of (fun _ r => XS.lloadN h hx rfl hd hl r) g
theorem Go.lstore (h : At T m c below) (hx : p.tables.exec = Jvm.exec) {pc q : Nat} {Ls : Array Slot} {st : List Value} {k : Nat} {v : Int64} {l2 : Array Slot} (hd : decode c.code pc = .ok (.lstore k, 2)) (hl : storeLocals Ls k (.long v) = some l2) (hq : pc + 2 = q) (g : Go p e below Q (T.setTop (mkF m q l2 st))) : Go p e below Q (T.setTop (mkF m pc Ls (.long v :: st))) := by
  subst hq; exact Go.of (fun _ r => XS.lstore h hx rfl hd rfl hl r) g
theorem Go.lstoreN (h : At T m c below) (hx : p.tables.exec = Jvm.exec) {pc q : Nat} {Ls : Array Slot} {st : List Value} {k : Fin 4} {v : Int64} {l2 : Array Slot} (hd : decode c.code pc = .ok (.lstore_n k, 1)) (hl : storeLocals Ls k.val (.long v) = some l2) (hq : pc + 1 = q) (g : Go p e below Q (T.setTop (mkF m q l2 st))) : Go p e below Q (T.setTop (mkF m pc Ls (.long v :: st))) := by
  subst hq; exact Go.of (fun _ r => XS.lstoreN h hx rfl hd rfl hl r) g
theorem Go.dload (h : At T m c below) (hx : p.tables.exec = Jvm.exec) {pc q : Nat} {Ls : Array Slot} {st : List Value} {k : Nat} {v : UInt64} (hd : decode c.code pc = .ok (.dload k, 2)) (hl : Ls[k]? = some (.val (.double v))) (hq : pc + 2 = q) (g : Go p e below Q (T.setTop (mkF m q Ls (.double v :: st)))) : Go p e below Q (T.setTop (mkF m pc Ls st)) := by
  subst hq; exact Go.of (fun _ r => XS.dload h hx rfl hd hl r) g
theorem Go.dloadN (h : At T m c below) (hx : p.tables.exec = Jvm.exec) {pc q : Nat} {Ls : Array Slot} {st : List Value} {k : Fin 4} {v : UInt64} (hd : decode c.code pc = .ok (.dload_n k, 1)) (hl : Ls[k.val]? = some (.val (.double v))) (hq : pc + 1 = q) (g : Go p e below Q (T.setTop (mkF m q Ls (.double v :: st)))) : Go p e below Q (T.setTop (mkF m pc Ls st)) := by
  subst hq; exact Go.of (fun _ r => XS.dloadN h hx rfl hd hl r) g
theorem Go.dstore (h : At T m c below) (hx : p.tables.exec = Jvm.exec) {pc q : Nat} {Ls : Array Slot} {st : List Value} {k : Nat} {v : UInt64} {l2 : Array Slot} (hd : decode c.code pc = .ok (.dstore k, 2)) (hl : storeLocals Ls k (.double v) = some l2) (hq : pc + 2 = q) (g : Go p e below Q (T.setTop (mkF m q l2 st))) : Go p e below Q (T.setTop (mkF m pc Ls (.double v :: st))) := by
  subst hq; exact Go.of (fun _ r => XS.dstore h hx rfl hd rfl hl r) g
theorem Go.dstoreN (h : At T m c below) (hx : p.tables.exec = Jvm.exec) {pc q : Nat} {Ls : Array Slot} {st : List Value} {k : Fin 4} {v : UInt64} {l2 : Array Slot} (hd : decode c.code pc = .ok (.dstore_n k, 1)) (hl : storeLocals Ls k.val (.double v) = some l2) (hq : pc + 1 = q) (g : Go p e below Q (T.setTop (mkF m q l2 st))) : Go p e below Q (T.setTop (mkF m pc Ls (.double v :: st))) := by
  subst hq; exact Go.of (fun _ r => XS.dstoreN h hx rfl hd rfl hl r) g
theorem Go.fload (h : At T m c below) (hx : p.tables.exec = Jvm.exec) {pc q : Nat} {Ls : Array Slot} {st : List Value} {k : Nat} {v : UInt32} (hd : decode c.code pc = .ok (.fload k, 2)) (hl : Ls[k]? = some (.val (.float v))) (hq : pc + 2 = q) (g : Go p e below Q (T.setTop (mkF m q Ls (.float v :: st)))) : Go p e below Q (T.setTop (mkF m pc Ls st)) := by
  subst hq; exact Go.of (fun _ r => XS.fload h hx rfl hd hl r) g
theorem Go.floadN (h : At T m c below) (hx : p.tables.exec = Jvm.exec) {pc q : Nat} {Ls : Array Slot} {st : List Value} {k : Fin 4} {v : UInt32} (hd : decode c.code pc = .ok (.fload_n k, 1)) (hl : Ls[k.val]? = some (.val (.float v))) (hq : pc + 1 = q) (g : Go p e below Q (T.setTop (mkF m q Ls (.float v :: st)))) : Go p e below Q (T.setTop (mkF m pc Ls st)) := by
  subst hq; exact Go.of (fun _ r => XS.floadN h hx rfl hd hl r) g
theorem Go.fstore (h : At T m c below) (hx : p.tables.exec = Jvm.exec) {pc q : Nat} {Ls : Array Slot} {st : List Value} {k : Nat} {v : UInt32} {l2 : Array Slot} (hd : decode c.code pc = .ok (.fstore k, 2)) (hl : storeLocals Ls k (.float v) = some l2) (hq : pc + 2 = q) (g : Go p e below Q (T.setTop (mkF m q l2 st))) : Go p e below Q (T.setTop (mkF m pc Ls (.float v :: st))) := by
  subst hq; exact Go.of (fun _ r => XS.fstore h hx rfl hd rfl hl r) g
theorem Go.fstoreN (h : At T m c below) (hx : p.tables.exec = Jvm.exec) {pc q : Nat} {Ls : Array Slot} {st : List Value} {k : Fin 4} {v : UInt32} {l2 : Array Slot} (hd : decode c.code pc = .ok (.fstore_n k, 1)) (hl : storeLocals Ls k.val (.float v) = some l2) (hq : pc + 1 = q) (g : Go p e below Q (T.setTop (mkF m q l2 st))) : Go p e below Q (T.setTop (mkF m pc Ls (.float v :: st))) := by
  subst hq; exact Go.of (fun _ r => XS.fstoreN h hx rfl hd rfl hl r) g
theorem Go.aload (h : At T m c below) (hx : p.tables.exec = Jvm.exec) {pc q : Nat} {Ls : Array Slot} {st : List Value} {k : Nat} {v : Value} (hd : decode c.code pc = .ok (.aload k, 2)) (hl : Ls[k]? = some (.val v)) (hv : v.isRef = true) (hq : pc + 2 = q) (g : Go p e below Q (T.setTop (mkF m q Ls (v :: st)))) : Go p e below Q (T.setTop (mkF m pc Ls st)) := by
  subst hq; exact Go.of (fun _ r => XS.aload h hx rfl hd hl hv r) g
theorem Go.aloadN (h : At T m c below) (hx : p.tables.exec = Jvm.exec) {pc q : Nat} {Ls : Array Slot} {st : List Value} {k : Fin 4} {v : Value} (hd : decode c.code pc = .ok (.aload_n k, 1)) (hl : Ls[k.val]? = some (.val v)) (hv : v.isRef = true) (hq : pc + 1 = q) (g : Go p e below Q (T.setTop (mkF m q Ls (v :: st)))) : Go p e below Q (T.setTop (mkF m pc Ls st)) := by
  subst hq; exact Go.of (fun _ r => XS.aloadN h hx rfl hd hl hv r) g
theorem Go.astore (h : At T m c below) (hx : p.tables.exec = Jvm.exec) {pc q : Nat} {Ls : Array Slot} {st : List Value} {k : Nat} {v : Value} {l2 : Array Slot} (hd : decode c.code pc = .ok (.astore k, 2)) (hv : v.isRef = true) (hl : storeLocals Ls k v = some l2) (hq : pc + 2 = q) (g : Go p e below Q (T.setTop (mkF m q l2 st))) : Go p e below Q (T.setTop (mkF m pc Ls (v :: st))) := by
  subst hq; exact Go.of (fun _ r => XS.astore h hx rfl hd rfl hv hl r) g
theorem Go.astoreN (h : At T m c below) (hx : p.tables.exec = Jvm.exec) {pc q : Nat} {Ls : Array Slot} {st : List Value} {k : Fin 4} {v : Value} {l2 : Array Slot} (hd : decode c.code pc = .ok (.astore_n k, 1)) (hv : v.isRef = true) (hl : storeLocals Ls k.val v = some l2) (hq : pc + 1 = q) (g : Go p e below Q (T.setTop (mkF m q l2 st))) : Go p e below Q (T.setTop (mkF m pc Ls (v :: st))) := by
  subst hq; exact Go.of (fun _ r => XS.astoreN h hx rfl hd rfl hv hl r) g
theorem Go.iconst (h : At T m c below) (hx : p.tables.exec = Jvm.exec) {pc q : Nat} {Ls : Array Slot} {st : List Value} {i : Int} {v : Int32} (hd : decode c.code pc = .ok (.iconst i, 1)) (hv : Int32.ofInt i = v) (hq : pc + 1 = q) (g : Go p e below Q (T.setTop (mkF m q Ls (.int v :: st)))) : Go p e below Q (T.setTop (mkF m pc Ls st)) := by
  subst hq hv; exact Go.of (fun _ r => XS.iconst h hx rfl hd r) g
theorem Go.bipush (h : At T m c below) (hx : p.tables.exec = Jvm.exec) {pc q : Nat} {Ls : Array Slot} {st : List Value} {i : Int} {v : Int32} (hd : decode c.code pc = .ok (.bipush i, 2)) (hv : (Int8.ofInt i).toInt32 = v) (hq : pc + 2 = q) (g : Go p e below Q (T.setTop (mkF m q Ls (.int v :: st)))) : Go p e below Q (T.setTop (mkF m pc Ls st)) := by
  subst hq hv; exact Go.of (fun _ r => XS.bipush h hx rfl hd r) g
theorem Go.sipush (h : At T m c below) (hx : p.tables.exec = Jvm.exec) {pc q : Nat} {Ls : Array Slot} {st : List Value} {i : Int} {v : Int32} (hd : decode c.code pc = .ok (.sipush i, 3)) (hv : (Int16.ofInt i).toInt32 = v) (hq : pc + 3 = q) (g : Go p e below Q (T.setTop (mkF m q Ls (.int v :: st)))) : Go p e below Q (T.setTop (mkF m pc Ls st)) := by
  subst hq hv; exact Go.of (fun _ r => XS.sipush h hx rfl hd r) g
theorem Go.lconst (h : At T m c below) (hx : p.tables.exec = Jvm.exec) {pc q : Nat} {Ls : Array Slot} {st : List Value} {k : Fin 2} {v : Int64} (hd : decode c.code pc = .ok (.lconst k, 1)) (hv : Int64.ofNat k = v) (hq : pc + 1 = q) (g : Go p e below Q (T.setTop (mkF m q Ls (.long v :: st)))) : Go p e below Q (T.setTop (mkF m pc Ls st)) := by
  subst hq hv; exact Go.of (fun _ r => XS.lconst h hx rfl hd r) g
theorem Go.aconst (h : At T m c below) (hx : p.tables.exec = Jvm.exec) {pc q : Nat} {Ls : Array Slot} {st : List Value}  (hd : decode c.code pc = .ok (.aconst_null, 1)) (hq : pc + 1 = q) (g : Go p e below Q (T.setTop (mkF m q Ls (.null :: st)))) : Go p e below Q (T.setTop (mkF m pc Ls st)) := by
  subst hq; exact Go.of (fun _ r => XS.aconstNull h hx rfl hd r) g
theorem Go.dconst0 (h : At T m c below) (hx : p.tables.exec = Jvm.exec) {pc q : Nat} {Ls : Array Slot} {st : List Value} {v : UInt64} (hd : decode c.code pc = .ok (.dconst 0, 1)) (hv : FP.dconst0 = v) (hq : pc + 1 = q) (g : Go p e below Q (T.setTop (mkF m q Ls (.double v :: st)))) : Go p e below Q (T.setTop (mkF m pc Ls st)) := by
  subst hq; exact Go.of (fun _ r => XS.dconst0 h hx rfl hd hv r) g
theorem Go.dconst1 (h : At T m c below) (hx : p.tables.exec = Jvm.exec) {pc q : Nat} {Ls : Array Slot} {st : List Value} {v : UInt64} (hd : decode c.code pc = .ok (.dconst 1, 1)) (hv : FP.dconst1 = v) (hq : pc + 1 = q) (g : Go p e below Q (T.setTop (mkF m q Ls (.double v :: st)))) : Go p e below Q (T.setTop (mkF m pc Ls st)) := by
  subst hq; exact Go.of (fun _ r => XS.dconst1 h hx rfl hd hv r) g
theorem Go.fconst0 (h : At T m c below) (hx : p.tables.exec = Jvm.exec) {pc q : Nat} {Ls : Array Slot} {st : List Value} {v : UInt32} (hd : decode c.code pc = .ok (.fconst 0, 1)) (hv : FP.fconst0 = v) (hq : pc + 1 = q) (g : Go p e below Q (T.setTop (mkF m q Ls (.float v :: st)))) : Go p e below Q (T.setTop (mkF m pc Ls st)) := by
  subst hq; exact Go.of (fun _ r => XS.fconst0 h hx rfl hd hv r) g
theorem Go.fconst1 (h : At T m c below) (hx : p.tables.exec = Jvm.exec) {pc q : Nat} {Ls : Array Slot} {st : List Value} {v : UInt32} (hd : decode c.code pc = .ok (.fconst 1, 1)) (hv : FP.fconst1 = v) (hq : pc + 1 = q) (g : Go p e below Q (T.setTop (mkF m q Ls (.float v :: st)))) : Go p e below Q (T.setTop (mkF m pc Ls st)) := by
  subst hq; exact Go.of (fun _ r => XS.fconst1 h hx rfl hd hv r) g
theorem Go.iadd (h : At T m c below) (hx : p.tables.exec = Jvm.exec) {pc q : Nat} {Ls : Array Slot} {st : List Value} {x : Int32} {y : Int32} {v : Int32} (hd : decode c.code pc = .ok (.iadd, 1)) (hv : x + y = v) (hq : pc + 1 = q) (g : Go p e below Q (T.setTop (mkF m q Ls (.int v :: st)))) : Go p e below Q (T.setTop (mkF m pc Ls (.int y :: .int x :: st))) := by
  subst hq hv; exact Go.of (fun _ r => XS.iadd h hx rfl hd rfl r) g
theorem Go.isub (h : At T m c below) (hx : p.tables.exec = Jvm.exec) {pc q : Nat} {Ls : Array Slot} {st : List Value} {x : Int32} {y : Int32} {v : Int32} (hd : decode c.code pc = .ok (.isub, 1)) (hv : x - y = v) (hq : pc + 1 = q) (g : Go p e below Q (T.setTop (mkF m q Ls (.int v :: st)))) : Go p e below Q (T.setTop (mkF m pc Ls (.int y :: .int x :: st))) := by
  subst hq hv; exact Go.of (fun _ r => XS.isub h hx rfl hd rfl r) g
theorem Go.iand (h : At T m c below) (hx : p.tables.exec = Jvm.exec) {pc q : Nat} {Ls : Array Slot} {st : List Value} {x : Int32} {y : Int32} {v : Int32} (hd : decode c.code pc = .ok (.iand, 1)) (hv : x &&& y = v) (hq : pc + 1 = q) (g : Go p e below Q (T.setTop (mkF m q Ls (.int v :: st)))) : Go p e below Q (T.setTop (mkF m pc Ls (.int y :: .int x :: st))) := by
  subst hq hv; exact Go.of (fun _ r => XS.iand h hx rfl hd rfl r) g
theorem Go.imul (h : At T m c below) (hx : p.tables.exec = Jvm.exec) {pc q : Nat} {Ls : Array Slot} {st : List Value} {x : Int32} {y : Int32} {v : Int32} (hd : decode c.code pc = .ok (.imul, 1)) (hv : x * y = v) (hq : pc + 1 = q) (g : Go p e below Q (T.setTop (mkF m q Ls (.int v :: st)))) : Go p e below Q (T.setTop (mkF m pc Ls (.int y :: .int x :: st))) := by
  subst hq hv; exact Go.of (fun _ r => XS.imul h hx rfl hd rfl r) g
theorem Go.ixor (h : At T m c below) (hx : p.tables.exec = Jvm.exec) {pc q : Nat} {Ls : Array Slot} {st : List Value} {x : Int32} {y : Int32} {v : Int32} (hd : decode c.code pc = .ok (.ixor, 1)) (hv : x ^^^ y = v) (hq : pc + 1 = q) (g : Go p e below Q (T.setTop (mkF m q Ls (.int v :: st)))) : Go p e below Q (T.setTop (mkF m pc Ls (.int y :: .int x :: st))) := by
  subst hq hv; exact Go.of (fun _ r => XS.ixor h hx rfl hd rfl r) g
theorem Go.ior (h : At T m c below) (hx : p.tables.exec = Jvm.exec) {pc q : Nat} {Ls : Array Slot} {st : List Value} {x : Int32} {y : Int32} {v : Int32} (hd : decode c.code pc = .ok (.ior, 1)) (hv : x ||| y = v) (hq : pc + 1 = q) (g : Go p e below Q (T.setTop (mkF m q Ls (.int v :: st)))) : Go p e below Q (T.setTop (mkF m pc Ls (.int y :: .int x :: st))) := by
  subst hq hv; exact Go.of (fun _ r => XS.ior h hx rfl hd rfl r) g
theorem Go.ishl (h : At T m c below) (hx : p.tables.exec = Jvm.exec) {pc q : Nat} {Ls : Array Slot} {st : List Value} {x : Int32} {y : Int32} {v : Int32} (hd : decode c.code pc = .ok (.ishl, 1)) (hv : x <<< (y &&& 31) = v) (hq : pc + 1 = q) (g : Go p e below Q (T.setTop (mkF m q Ls (.int v :: st)))) : Go p e below Q (T.setTop (mkF m pc Ls (.int y :: .int x :: st))) := by
  subst hq hv; exact Go.of (fun _ r => XS.ishl h hx rfl hd rfl r) g
theorem Go.ishr (h : At T m c below) (hx : p.tables.exec = Jvm.exec) {pc q : Nat} {Ls : Array Slot} {st : List Value} {x : Int32} {y : Int32} {v : Int32} (hd : decode c.code pc = .ok (.ishr, 1)) (hv : x >>> (y &&& 31) = v) (hq : pc + 1 = q) (g : Go p e below Q (T.setTop (mkF m q Ls (.int v :: st)))) : Go p e below Q (T.setTop (mkF m pc Ls (.int y :: .int x :: st))) := by
  subst hq hv; exact Go.of (fun _ r => XS.ishr h hx rfl hd rfl r) g
theorem Go.iushr (h : At T m c below) (hx : p.tables.exec = Jvm.exec) {pc q : Nat} {Ls : Array Slot} {st : List Value} {x : Int32} {y : Int32} {v : Int32} (hd : decode c.code pc = .ok (.iushr, 1)) (hv : (x.toUInt32 >>> (y &&& 31).toUInt32).toInt32 = v) (hq : pc + 1 = q) (g : Go p e below Q (T.setTop (mkF m q Ls (.int v :: st)))) : Go p e below Q (T.setTop (mkF m pc Ls (.int y :: .int x :: st))) := by
  subst hq hv; exact Go.of (fun _ r => XS.iushr h hx rfl hd rfl r) g
theorem Go.idiv (h : At T m c below) (hx : p.tables.exec = Jvm.exec) {pc q : Nat} {Ls : Array Slot} {st : List Value} {x : Int32} {y : Int32} {v : Int32} (hd : decode c.code pc = .ok (.idiv, 1)) (hy : y ≠ 0) (hv : x / y = v) (hq : pc + 1 = q) (g : Go p e below Q (T.setTop (mkF m q Ls (.int v :: st)))) : Go p e below Q (T.setTop (mkF m pc Ls (.int y :: .int x :: st))) := by
  subst hq hv; exact Go.of (fun _ r => XS.idiv h hx rfl hd rfl hy r) g
theorem Go.irem (h : At T m c below) (hx : p.tables.exec = Jvm.exec) {pc q : Nat} {Ls : Array Slot} {st : List Value} {x : Int32} {y : Int32} {v : Int32} (hd : decode c.code pc = .ok (.irem, 1)) (hy : y ≠ 0) (hv : x - (x / y) * y = v) (hq : pc + 1 = q) (g : Go p e below Q (T.setTop (mkF m q Ls (.int v :: st)))) : Go p e below Q (T.setTop (mkF m pc Ls (.int y :: .int x :: st))) := by
  subst hq hv; exact Go.of (fun _ r => XS.irem h hx rfl hd rfl hy r) g
theorem Go.ladd (h : At T m c below) (hx : p.tables.exec = Jvm.exec) {pc q : Nat} {Ls : Array Slot} {st : List Value} {x : Int64} {y : Int64} {v : Int64} (hd : decode c.code pc = .ok (.ladd, 1)) (hv : x + y = v) (hq : pc + 1 = q) (g : Go p e below Q (T.setTop (mkF m q Ls (.long v :: st)))) : Go p e below Q (T.setTop (mkF m pc Ls (.long y :: .long x :: st))) := by
  subst hq hv; exact Go.of (fun _ r => XS.ladd h hx rfl hd rfl r) g
theorem Go.lsub (h : At T m c below) (hx : p.tables.exec = Jvm.exec) {pc q : Nat} {Ls : Array Slot} {st : List Value} {x : Int64} {y : Int64} {v : Int64} (hd : decode c.code pc = .ok (.lsub, 1)) (hv : x - y = v) (hq : pc + 1 = q) (g : Go p e below Q (T.setTop (mkF m q Ls (.long v :: st)))) : Go p e below Q (T.setTop (mkF m pc Ls (.long y :: .long x :: st))) := by
  subst hq hv; exact Go.of (fun _ r => XS.lsub h hx rfl hd rfl r) g
theorem Go.lmul (h : At T m c below) (hx : p.tables.exec = Jvm.exec) {pc q : Nat} {Ls : Array Slot} {st : List Value} {x : Int64} {y : Int64} {v : Int64} (hd : decode c.code pc = .ok (.lmul, 1)) (hv : x * y = v) (hq : pc + 1 = q) (g : Go p e below Q (T.setTop (mkF m q Ls (.long v :: st)))) : Go p e below Q (T.setTop (mkF m pc Ls (.long y :: .long x :: st))) := by
  subst hq hv; exact Go.of (fun _ r => XS.lmul h hx rfl hd rfl r) g
theorem Go.land (h : At T m c below) (hx : p.tables.exec = Jvm.exec) {pc q : Nat} {Ls : Array Slot} {st : List Value} {x : Int64} {y : Int64} {v : Int64} (hd : decode c.code pc = .ok (.land, 1)) (hv : x &&& y = v) (hq : pc + 1 = q) (g : Go p e below Q (T.setTop (mkF m q Ls (.long v :: st)))) : Go p e below Q (T.setTop (mkF m pc Ls (.long y :: .long x :: st))) := by
  subst hq hv; exact Go.of (fun _ r => XS.land h hx rfl hd rfl r) g
theorem Go.lor (h : At T m c below) (hx : p.tables.exec = Jvm.exec) {pc q : Nat} {Ls : Array Slot} {st : List Value} {x : Int64} {y : Int64} {v : Int64} (hd : decode c.code pc = .ok (.lor, 1)) (hv : x ||| y = v) (hq : pc + 1 = q) (g : Go p e below Q (T.setTop (mkF m q Ls (.long v :: st)))) : Go p e below Q (T.setTop (mkF m pc Ls (.long y :: .long x :: st))) := by
  subst hq hv; exact Go.of (fun _ r => XS.lor h hx rfl hd rfl r) g
theorem Go.lxor (h : At T m c below) (hx : p.tables.exec = Jvm.exec) {pc q : Nat} {Ls : Array Slot} {st : List Value} {x : Int64} {y : Int64} {v : Int64} (hd : decode c.code pc = .ok (.lxor, 1)) (hv : x ^^^ y = v) (hq : pc + 1 = q) (g : Go p e below Q (T.setTop (mkF m q Ls (.long v :: st)))) : Go p e below Q (T.setTop (mkF m pc Ls (.long y :: .long x :: st))) := by
  subst hq hv; exact Go.of (fun _ r => XS.lxor h hx rfl hd rfl r) g
theorem Go.lshl (h : At T m c below) (hx : p.tables.exec = Jvm.exec) {pc q : Nat} {Ls : Array Slot} {st : List Value} {x : Int64} {y : Int32} {v : Int64} (hd : decode c.code pc = .ok (.lshl, 1)) (hv : x <<< (y &&& 0x3f).toInt64 = v) (hq : pc + 1 = q) (g : Go p e below Q (T.setTop (mkF m q Ls (.long v :: st)))) : Go p e below Q (T.setTop (mkF m pc Ls (.int y :: .long x :: st))) := by
  subst hq hv; exact Go.of (fun _ r => XS.lshl h hx rfl hd rfl r) g
theorem Go.lshr (h : At T m c below) (hx : p.tables.exec = Jvm.exec) {pc q : Nat} {Ls : Array Slot} {st : List Value} {x : Int64} {y : Int32} {v : Int64} (hd : decode c.code pc = .ok (.lshr, 1)) (hv : x >>> (y &&& 0x3f).toInt64 = v) (hq : pc + 1 = q) (g : Go p e below Q (T.setTop (mkF m q Ls (.long v :: st)))) : Go p e below Q (T.setTop (mkF m pc Ls (.int y :: .long x :: st))) := by
  subst hq hv; exact Go.of (fun _ r => XS.lshr h hx rfl hd rfl r) g
theorem Go.lushr (h : At T m c below) (hx : p.tables.exec = Jvm.exec) {pc q : Nat} {Ls : Array Slot} {st : List Value} {x : Int64} {y : Int32} {v : Int64} (hd : decode c.code pc = .ok (.lushr, 1)) (hv : (x.toUInt64 >>> (y &&& 0x3f).toInt64.toUInt64).toInt64 = v) (hq : pc + 1 = q) (g : Go p e below Q (T.setTop (mkF m q Ls (.long v :: st)))) : Go p e below Q (T.setTop (mkF m pc Ls (.int y :: .long x :: st))) := by
  subst hq hv; exact Go.of (fun _ r => XS.lushr h hx rfl hd rfl r) g
theorem Go.ldiv (h : At T m c below) (hx : p.tables.exec = Jvm.exec) {pc q : Nat} {Ls : Array Slot} {st : List Value} {x : Int64} {y : Int64} {v : Int64} (hd : decode c.code pc = .ok (.ldiv, 1)) (hy : y ≠ 0) (hv : x / y = v) (hq : pc + 1 = q) (g : Go p e below Q (T.setTop (mkF m q Ls (.long v :: st)))) : Go p e below Q (T.setTop (mkF m pc Ls (.long y :: .long x :: st))) := by
  subst hq hv; exact Go.of (fun _ r => XS.ldiv h hx rfl hd rfl hy r) g
theorem Go.lrem (h : At T m c below) (hx : p.tables.exec = Jvm.exec) {pc q : Nat} {Ls : Array Slot} {st : List Value} {x : Int64} {y : Int64} {v : Int64} (hd : decode c.code pc = .ok (.lrem, 1)) (hy : y ≠ 0) (hv : x - (x / y) * y = v) (hq : pc + 1 = q) (g : Go p e below Q (T.setTop (mkF m q Ls (.long v :: st)))) : Go p e below Q (T.setTop (mkF m pc Ls (.long y :: .long x :: st))) := by
  subst hq hv; exact Go.of (fun _ r => XS.lrem h hx rfl hd rfl hy r) g
theorem Go.lcmp (h : At T m c below) (hx : p.tables.exec = Jvm.exec) {pc q : Nat} {Ls : Array Slot} {st : List Value} {x : Int64} {y : Int64} {v : Int32} (hd : decode c.code pc = .ok (.lcmp, 1)) (hv : lcmpW x y = v) (hq : pc + 1 = q) (g : Go p e below Q (T.setTop (mkF m q Ls (.int v :: st)))) : Go p e below Q (T.setTop (mkF m pc Ls (.long y :: .long x :: st))) := by
  subst hq hv; exact Go.of (fun _ r => XS.lcmp h hx rfl hd rfl r) g
theorem Go.ineg (h : At T m c below) (hx : p.tables.exec = Jvm.exec) {pc q : Nat} {Ls : Array Slot} {st : List Value} {x : Int32} {v : Int32} (hd : decode c.code pc = .ok (.ineg, 1)) (hv : -x = v) (hq : pc + 1 = q) (g : Go p e below Q (T.setTop (mkF m q Ls (.int v :: st)))) : Go p e below Q (T.setTop (mkF m pc Ls (.int x :: st))) := by
  subst hq hv; exact Go.of (fun _ r => XS.ineg h hx rfl hd rfl r) g
theorem Go.lneg (h : At T m c below) (hx : p.tables.exec = Jvm.exec) {pc q : Nat} {Ls : Array Slot} {st : List Value} {x : Int64} {v : Int64} (hd : decode c.code pc = .ok (.lneg, 1)) (hv : -x = v) (hq : pc + 1 = q) (g : Go p e below Q (T.setTop (mkF m q Ls (.long v :: st)))) : Go p e below Q (T.setTop (mkF m pc Ls (.long x :: st))) := by
  subst hq hv; exact Go.of (fun _ r => XS.lneg h hx rfl hd rfl r) g
theorem Go.i2l (h : At T m c below) (hx : p.tables.exec = Jvm.exec) {pc q : Nat} {Ls : Array Slot} {st : List Value} {x : Int32} {v : Int64} (hd : decode c.code pc = .ok (.i2l, 1)) (hv : x.toInt64 = v) (hq : pc + 1 = q) (g : Go p e below Q (T.setTop (mkF m q Ls (.long v :: st)))) : Go p e below Q (T.setTop (mkF m pc Ls (.int x :: st))) := by
  subst hq hv; exact Go.of (fun _ r => XS.i2l h hx rfl hd rfl r) g
theorem Go.l2i (h : At T m c below) (hx : p.tables.exec = Jvm.exec) {pc q : Nat} {Ls : Array Slot} {st : List Value} {x : Int64} {v : Int32} (hd : decode c.code pc = .ok (.l2i, 1)) (hv : x.toInt32 = v) (hq : pc + 1 = q) (g : Go p e below Q (T.setTop (mkF m q Ls (.int v :: st)))) : Go p e below Q (T.setTop (mkF m pc Ls (.long x :: st))) := by
  subst hq hv; exact Go.of (fun _ r => XS.l2i h hx rfl hd rfl r) g
theorem Go.i2d (h : At T m c below) (hx : p.tables.exec = Jvm.exec) {pc q : Nat} {Ls : Array Slot} {st : List Value} {x : Int32} {v : UInt64} (hd : decode c.code pc = .ok (.i2d, 1)) (hv : FP.i2d x = v) (hq : pc + 1 = q) (g : Go p e below Q (T.setTop (mkF m q Ls (.double v :: st)))) : Go p e below Q (T.setTop (mkF m pc Ls (.int x :: st))) := by
  subst hq; exact Go.of (fun _ r => XS.i2dS h hx rfl hd rfl hv r) g
theorem Go.l2d (h : At T m c below) (hx : p.tables.exec = Jvm.exec) {pc q : Nat} {Ls : Array Slot} {st : List Value} {x : Int64} {v : UInt64} (hd : decode c.code pc = .ok (.l2d, 1)) (hv : FP.l2d x = v) (hq : pc + 1 = q) (g : Go p e below Q (T.setTop (mkF m q Ls (.double v :: st)))) : Go p e below Q (T.setTop (mkF m pc Ls (.long x :: st))) := by
  subst hq; exact Go.of (fun _ r => XS.l2dS h hx rfl hd rfl hv r) g
theorem Go.d2i (h : At T m c below) (hx : p.tables.exec = Jvm.exec) {pc q : Nat} {Ls : Array Slot} {st : List Value} {x : UInt64} {v : Int32} (hd : decode c.code pc = .ok (.d2i, 1)) (hv : FP.d2i x = v) (hq : pc + 1 = q) (g : Go p e below Q (T.setTop (mkF m q Ls (.int v :: st)))) : Go p e below Q (T.setTop (mkF m pc Ls (.double x :: st))) := by
  subst hq; exact Go.of (fun _ r => XS.d2iS h hx rfl hd rfl hv r) g
theorem Go.d2l (h : At T m c below) (hx : p.tables.exec = Jvm.exec) {pc q : Nat} {Ls : Array Slot} {st : List Value} {x : UInt64} {v : Int64} (hd : decode c.code pc = .ok (.d2l, 1)) (hv : FP.d2l x = v) (hq : pc + 1 = q) (g : Go p e below Q (T.setTop (mkF m q Ls (.long v :: st)))) : Go p e below Q (T.setTop (mkF m pc Ls (.double x :: st))) := by
  subst hq; exact Go.of (fun _ r => XS.d2lS h hx rfl hd rfl hv r) g
theorem Go.dneg (h : At T m c below) (hx : p.tables.exec = Jvm.exec) {pc q : Nat} {Ls : Array Slot} {st : List Value} {x : UInt64} {v : UInt64} (hd : decode c.code pc = .ok (.dneg, 1)) (hv : FP.dneg x = v) (hq : pc + 1 = q) (g : Go p e below Q (T.setTop (mkF m q Ls (.double v :: st)))) : Go p e below Q (T.setTop (mkF m pc Ls (.double x :: st))) := by
  subst hq; exact Go.of (fun _ r => XS.dnegS h hx rfl hd rfl hv r) g
theorem Go.i2f (h : At T m c below) (hx : p.tables.exec = Jvm.exec) {pc q : Nat} {Ls : Array Slot} {st : List Value} {x : Int32} {v : UInt32} (hd : decode c.code pc = .ok (.i2f, 1)) (hv : FP.i2f x = v) (hq : pc + 1 = q) (g : Go p e below Q (T.setTop (mkF m q Ls (.float v :: st)))) : Go p e below Q (T.setTop (mkF m pc Ls (.int x :: st))) := by
  subst hq; exact Go.of (fun _ r => XS.i2fS h hx rfl hd rfl hv r) g
theorem Go.l2f (h : At T m c below) (hx : p.tables.exec = Jvm.exec) {pc q : Nat} {Ls : Array Slot} {st : List Value} {x : Int64} {v : UInt32} (hd : decode c.code pc = .ok (.l2f, 1)) (hv : FP.l2f x = v) (hq : pc + 1 = q) (g : Go p e below Q (T.setTop (mkF m q Ls (.float v :: st)))) : Go p e below Q (T.setTop (mkF m pc Ls (.long x :: st))) := by
  subst hq; exact Go.of (fun _ r => XS.l2fS h hx rfl hd rfl hv r) g
theorem Go.dadd (h : At T m c below) (hx : p.tables.exec = Jvm.exec) {pc q : Nat} {Ls : Array Slot} {st : List Value} {x y v : UInt64} (hd : decode c.code pc = .ok (.dadd, 1)) (hn : NoNaN64 (FP.dadd x y)) (hv : FP.dadd x y = v) (hq : pc + 1 = q) (g : Go p e below Q (T.setTop (mkF m q Ls (.double v :: st)))) : Go p e below Q (T.setTop (mkF m pc Ls (.double y :: .double x :: st))) := by
  subst hq; exact Go.of (fun _ r => XS.daddS h hx rfl hd rfl hn hv r) g
theorem Go.dsub (h : At T m c below) (hx : p.tables.exec = Jvm.exec) {pc q : Nat} {Ls : Array Slot} {st : List Value} {x y v : UInt64} (hd : decode c.code pc = .ok (.dsub, 1)) (hn : NoNaN64 (FP.dsub x y)) (hv : FP.dsub x y = v) (hq : pc + 1 = q) (g : Go p e below Q (T.setTop (mkF m q Ls (.double v :: st)))) : Go p e below Q (T.setTop (mkF m pc Ls (.double y :: .double x :: st))) := by
  subst hq; exact Go.of (fun _ r => XS.dsubS h hx rfl hd rfl hn hv r) g
theorem Go.dmul (h : At T m c below) (hx : p.tables.exec = Jvm.exec) {pc q : Nat} {Ls : Array Slot} {st : List Value} {x y v : UInt64} (hd : decode c.code pc = .ok (.dmul, 1)) (hn : NoNaN64 (FP.dmul x y)) (hv : FP.dmul x y = v) (hq : pc + 1 = q) (g : Go p e below Q (T.setTop (mkF m q Ls (.double v :: st)))) : Go p e below Q (T.setTop (mkF m pc Ls (.double y :: .double x :: st))) := by
  subst hq; exact Go.of (fun _ r => XS.dmulS h hx rfl hd rfl hn hv r) g
theorem Go.ddiv (h : At T m c below) (hx : p.tables.exec = Jvm.exec) {pc q : Nat} {Ls : Array Slot} {st : List Value} {x y v : UInt64} (hd : decode c.code pc = .ok (.ddiv, 1)) (hn : NoNaN64 (FP.ddiv x y)) (hv : FP.ddiv x y = v) (hq : pc + 1 = q) (g : Go p e below Q (T.setTop (mkF m q Ls (.double v :: st)))) : Go p e below Q (T.setTop (mkF m pc Ls (.double y :: .double x :: st))) := by
  subst hq; exact Go.of (fun _ r => XS.ddivS h hx rfl hd rfl hn hv r) g
theorem Go.dcmp (h : At T m c below) (hx : p.tables.exec = Jvm.exec) {pc q : Nat} {Ls : Array Slot} {st : List Value} {o : CmpOp} {x y : UInt64} {v : Int32} (hd : decode c.code pc = .ok (.dcmp o, 1)) (hv : cmpValue (FP.dcmp x y) o = v) (hq : pc + 1 = q) (g : Go p e below Q (T.setTop (mkF m q Ls (.int v :: st)))) : Go p e below Q (T.setTop (mkF m pc Ls (.double y :: .double x :: st))) := by
  subst hq; exact Go.of (fun _ r => XS.dcmpS h hx rfl hd rfl hv r) g
theorem Go.fcmp (h : At T m c below) (hx : p.tables.exec = Jvm.exec) {pc q : Nat} {Ls : Array Slot} {st : List Value} {o : CmpOp} {x y : UInt32} {v : Int32} (hd : decode c.code pc = .ok (.fcmp o, 1)) (hv : cmpValue (FP.fcmp x y) o = v) (hq : pc + 1 = q) (g : Go p e below Q (T.setTop (mkF m q Ls (.int v :: st)))) : Go p e below Q (T.setTop (mkF m pc Ls (.float y :: .float x :: st))) := by
  subst hq; exact Go.of (fun _ r => XS.fcmpS h hx rfl hd rfl hv r) g
theorem Go.dup (h : At T m c below) (hx : p.tables.exec = Jvm.exec) {pc q : Nat} {Ls : Array Slot} {st : List Value} {v : Value} (hd : decode c.code pc = .ok (.dup, 1)) (hc : v.category = 1) (hq : pc + 1 = q) (g : Go p e below Q (T.setTop (mkF m q Ls (v :: v :: st)))) : Go p e below Q (T.setTop (mkF m pc Ls (v :: st))) := by
  subst hq; exact Go.of (fun _ r => XS.dup h hx rfl hd rfl hc r) g
theorem Go.dup2 (h : At T m c below) (hx : p.tables.exec = Jvm.exec) {pc q : Nat} {Ls : Array Slot} {st : List Value} {v w : Value} (hd : decode c.code pc = .ok (.dup2, 1)) (hc : v.category = 1) (hc2 : w.category = 1) (hq : pc + 1 = q) (g : Go p e below Q (T.setTop (mkF m q Ls (v :: w :: v :: w :: st)))) : Go p e below Q (T.setTop (mkF m pc Ls (v :: w :: st))) := by
  subst hq; exact Go.of (fun _ r => Jvm.Free.XT.dup2 h hx rfl hd rfl hc hc2 r) g
theorem Go.pop (h : At T m c below) (hx : p.tables.exec = Jvm.exec) {pc q : Nat} {Ls : Array Slot} {st : List Value} {v : Value} (hd : decode c.code pc = .ok (.pop, 1)) (hc : v.category = 1) (hq : pc + 1 = q) (g : Go p e below Q (T.setTop (mkF m q Ls st))) : Go p e below Q (T.setTop (mkF m pc Ls (v :: st))) := by
  subst hq; exact Go.of (fun _ r => XS.pop h hx rfl hd rfl hc r) g
theorem step_dup2x1 {tb : Tables} [Ours tb] {target : State} {g : JFrame} (h : At T m c below) (hx : tb.exec = Jvm.exec) (hg : g.method = m) {x : Int64} {b : Value} {rest : List Value} (hd : decode c.code g.pc = .ok (.dup2_x1, 1)) (hs : g.stack = .long x :: b :: rest) (hb : b.category = 1)
    (hr : Steps tb e below (T.setTop { g with pc := g.pc + 1, stack := .long x :: b :: .long x :: rest }) target) : Steps tb e below (T.setTop g) target := by
  subst hg
  jvm_step h [h.top, hx, hd, hs, hb, Value.category]
  exact ⟨hb, hr⟩
theorem Go.dup2x1 (h : At T m c below) (hx : p.tables.exec = Jvm.exec) {pc q : Nat} {Ls : Array Slot} {st : List Value} {x : Int64} {b : Value} (hd : decode c.code pc = .ok (.dup2_x1, 1)) (hb : b.category = 1) (hq : pc + 1 = q) (g : Go p e below Q (T.setTop (mkF m q Ls (.long x :: b :: .long x :: st)))) : Go p e below Q (T.setTop (mkF m pc Ls (.long x :: b :: st))) := by
  subst hq; exact Go.of (fun _ r => step_dup2x1 h hx rfl hd rfl hb r) g
theorem Go.iinc (h : At T m c below) (hx : p.tables.exec = Jvm.exec) {pc q : Nat} {Ls : Array Slot} {st : List Value} {k : Nat} {cst : Int} {x v : Int32} {l2 : Array Slot} (hd : decode c.code pc = .ok (.iinc k cst, 3)) (hl : Ls[k]? = some (.val (.int x))) (hv : x + Int32.ofInt cst = v) (hl2 : storeLocals Ls k (.int v) = some l2) (hq : pc + 3 = q) (g : Go p e below Q (T.setTop (mkF m q l2 st))) : Go p e below Q (T.setTop (mkF m pc Ls st)) := by
  subst hq hv; exact Go.of (fun _ r => XS.iinc h hx rfl hd hl hl2 r) g
theorem Go.goto (h : At T m c below) (hx : p.tables.exec = Jvm.exec) {pc q : Nat} {Ls : Array Slot} {st : List Value} {o : Int} (hd : decode c.code pc = .ok (.goto o, 3)) (ho : 0 ≤ (pc : Int) + o) (hq : ((pc : Int) + o).toNat = q) (g : Go p e below Q (T.setTop (mkF m q Ls st))) : Go p e below Q (T.setTop (mkF m pc Ls st)) := Go.of (fun _ r => XS.goto h hx rfl rfl hd ho hq r) g
theorem Go.ifY (h : At T m c below) (hx : p.tables.exec = Jvm.exec) {pc q : Nat} {Ls : Array Slot} {st : List Value} {cd : ClassFile.Cond} {x : Int32} {o : Int} (hd : decode c.code pc = .ok (.ifCond cd o, 3)) (hc : ifCond.holds cd x = true) (ho : 0 ≤ (pc : Int) + o) (hq : ((pc : Int) + o).toNat = q) (g : Go p e below Q (T.setTop (mkF m q Ls st))) : Go p e below Q (T.setTop (mkF m pc Ls (.int x :: st))) := Go.of (fun _ r => XS.ifYes h hx rfl rfl hd rfl hc ho hq r) g
theorem Go.ifN (h : At T m c below) (hx : p.tables.exec = Jvm.exec) {pc q : Nat} {Ls : Array Slot} {st : List Value} {cd : ClassFile.Cond} {x : Int32} {o : Int} (hd : decode c.code pc = .ok (.ifCond cd o, 3)) (hc : ifCond.holds cd x = false) (hq : pc + 3 = q) (g : Go p e below Q (T.setTop (mkF m q Ls st))) : Go p e below Q (T.setTop (mkF m pc Ls (.int x :: st))) := by
  subst hq; exact Go.of (fun _ r => XS.ifNo h hx rfl hd rfl hc r) g
theorem Go.icmpY (h : At T m c below) (hx : p.tables.exec = Jvm.exec) {pc q : Nat} {Ls : Array Slot} {st : List Value} {cd : ClassFile.Cond} {x y : Int32} {o : Int} (hd : decode c.code pc = .ok (.if_icmp cd o, 3)) (hc : if_icmp.holds cd x y = true) (ho : 0 ≤ (pc : Int) + o) (hq : ((pc : Int) + o).toNat = q) (g : Go p e below Q (T.setTop (mkF m q Ls st))) : Go p e below Q (T.setTop (mkF m pc Ls (.int y :: .int x :: st))) := Go.of (fun _ r => XS.icmpYes h hx rfl rfl hd rfl hc ho hq r) g
theorem Go.icmpN (h : At T m c below) (hx : p.tables.exec = Jvm.exec) {pc q : Nat} {Ls : Array Slot} {st : List Value} {cd : ClassFile.Cond} {x y : Int32} {o : Int} (hd : decode c.code pc = .ok (.if_icmp cd o, 3)) (hc : if_icmp.holds cd x y = false) (hq : pc + 3 = q) (g : Go p e below Q (T.setTop (mkF m q Ls st))) : Go p e below Q (T.setTop (mkF m pc Ls (.int y :: .int x :: st))) := by
  subst hq; exact Go.of (fun _ r => XS.icmpNo h hx rfl hd rfl hc r) g
theorem Go.acmpY (h : At T m c below) (hx : p.tables.exec = Jvm.exec) {pc q : Nat} {Ls : Array Slot} {st : List Value} {cd : ClassFile.ACond} {a b : Addr} {o : Int} (hd : decode c.code pc = .ok (.if_acmp cd o, 3)) (hc : if_acmp.holds cd (some a) (some b) = true) (ho : 0 ≤ (pc : Int) + o) (hq : ((pc : Int) + o).toNat = q) (g : Go p e below Q (T.setTop (mkF m q Ls st))) : Go p e below Q (T.setTop (mkF m pc Ls (.ref b :: .ref a :: st))) := Go.of (fun _ r => XS.acmpYes h hx rfl rfl hd rfl hc ho hq r) g
theorem Go.acmpN (h : At T m c below) (hx : p.tables.exec = Jvm.exec) {pc q : Nat} {Ls : Array Slot} {st : List Value} {cd : ClassFile.ACond} {a b : Addr} {o : Int} (hd : decode c.code pc = .ok (.if_acmp cd o, 3)) (hc : if_acmp.holds cd (some a) (some b) = false) (hq : pc + 3 = q) (g : Go p e below Q (T.setTop (mkF m q Ls st))) : Go p e below Q (T.setTop (mkF m pc Ls (.ref b :: .ref a :: st))) := by
  subst hq; exact Go.of (fun _ r => XS.acmpNo h hx rfl hd rfl hc r) g
theorem Go.nullY (h : At T m c below) (hx : p.tables.exec = Jvm.exec) {pc q : Nat} {Ls : Array Slot} {st : List Value} {o : Int} (hd : decode c.code pc = .ok (.ifnull o, 3)) (ho : 0 ≤ (pc : Int) + o) (hq : ((pc : Int) + o).toNat = q) (g : Go p e below Q (T.setTop (mkF m q Ls st))) : Go p e below Q (T.setTop (mkF m pc Ls (.null :: st))) := Go.of (fun _ r => XS.ifnullYes h hx rfl rfl hd rfl ho hq r) g
theorem Go.nullN (h : At T m c below) (hx : p.tables.exec = Jvm.exec) {pc q : Nat} {Ls : Array Slot} {st : List Value} {o : Int} {b : Addr} (hd : decode c.code pc = .ok (.ifnull o, 3)) (hq : pc + 3 = q) (g : Go p e below Q (T.setTop (mkF m q Ls st))) : Go p e below Q (T.setTop (mkF m pc Ls (.ref b :: st))) := by
  subst hq; exact Go.of (fun _ r => XS.ifnullNo h hx rfl hd rfl r) g
theorem Go.nonnullY (h : At T m c below) (hx : p.tables.exec = Jvm.exec) {pc q : Nat} {Ls : Array Slot} {st : List Value} {o : Int} {b : Addr} (hd : decode c.code pc = .ok (.ifnonnull o, 3)) (ho : 0 ≤ (pc : Int) + o) (hq : ((pc : Int) + o).toNat = q) (g : Go p e below Q (T.setTop (mkF m q Ls st))) : Go p e below Q (T.setTop (mkF m pc Ls (.ref b :: st))) := Go.of (fun _ r => XS.ifnonnullYes h hx rfl rfl hd rfl ho hq r) g
theorem Go.nonnullN (h : At T m c below) (hx : p.tables.exec = Jvm.exec) {pc q : Nat} {Ls : Array Slot} {st : List Value} {o : Int} (hd : decode c.code pc = .ok (.ifnonnull o, 3)) (hq : pc + 3 = q) (g : Go p e below Q (T.setTop (mkF m q Ls st))) : Go p e below Q (T.setTop (mkF m pc Ls (.null :: st))) := by
  subst hq; exact Go.of (fun _ r => XS.ifnonnullNo h hx rfl hd rfl r) g
theorem Go.ldcI (X : Stand p l e R s m args below meth c T locs cells slots) (hx : p.tables.exec = Jvm.exec) {own : String} {index : Nat} {v : Int32} (hown : s.vm.findClass own = some m.cls) (w : (Jvm.Cond.constant own index v).before args s = true) {pc q : Nat} {Ls : Array Slot} {st : List Value} (hd : decode c.code pc = .ok (.ldc index, 2)) (hq : pc + 2 = q) (g : Go p e below Q (T.setTop (mkF m q Ls (.int v :: st)))) : Go p e below Q (T.setTop (mkF m pc Ls st)) := by
  subst hq; exact Go.of (fun _ r => X.ldcInt hx hown w (g := mkF m pc Ls st) rfl hd _ r) g
theorem Go.ldc2J (X : Stand p l e R s m args below meth c T locs cells slots) (hx : p.tables.exec = Jvm.exec) {own : String} {index : Nat} {v : Int64} (hown : s.vm.findClass own = some m.cls) (w : (Jvm.Cond.constantLong own index v).before args s = true) {pc q : Nat} {Ls : Array Slot} {st : List Value} (hd : decode c.code pc = .ok (.ldc2_w index, 3)) (hq : pc + 3 = q) (g : Go p e below Q (T.setTop (mkF m q Ls (.long v :: st)))) : Go p e below Q (T.setTop (mkF m pc Ls st)) := by
  subst hq; exact Go.of (fun _ r => X.ldc2Long hx hown w (g := mkF m pc Ls st) rfl hd _ r) g
theorem Go.ldc2D (X : Stand p l e R s m args below meth c T locs cells slots) (hx : p.tables.exec = Jvm.exec) {own : String} {index : Nat} {v : UInt64} (hown : s.vm.findClass own = some m.cls) (w : (Jvm.Cond.constantDouble own index v).before args s = true) {pc q : Nat} {Ls : Array Slot} {st : List Value} (hd : decode c.code pc = .ok (.ldc2_w index, 3)) (hq : pc + 3 = q) (g : Go p e below Q (T.setTop (mkF m q Ls (.double v :: st)))) : Go p e below Q (T.setTop (mkF m pc Ls st)) := by
  subst hq; exact Go.of (fun _ r => X.ldc2DoubleC hx hown w (g := mkF m pc Ls st) rfl hd _ r) g
theorem Go.ldcF (X : Stand p l e R s m args below meth c T locs cells slots) (hx : p.tables.exec = Jvm.exec) {own : String} {index : Nat} {v : UInt32} (hown : s.vm.findClass own = some m.cls) (w : (Jvm.Cond.constantFloat own index v).before args s = true) {pc q : Nat} {Ls : Array Slot} {st : List Value} (hd : decode c.code pc = .ok (.ldc index, 2)) (hq : pc + 2 = q) (g : Go p e below Q (T.setTop (mkF m q Ls (.float v :: st)))) : Go p e below Q (T.setTop (mkF m pc Ls st)) := by
  subst hq; exact Go.of (fun _ r => X.ldcFloatC hx hown w (g := mkF m pc Ls st) rfl hd _ r) g
end OwnGo

/-! own layer 3: steps that touch the heap, and calls by contract, in the same forward form -/
section OwnHeap
variable {p : Program} {l : Launch} {e : Env} {R : Room} {s : State} {m : MethodId} {args : Array Value} {below : List Frame} {meth : Method} {c : Code} {T : State} {locs : List Loc} {cells slots : Nat} {Q : Outcome → State → Prop} {Z : State} {a0 : Array Value} {h : Heap}
/-- a callee's contract at one call -/
abbrev Con (l : Launch) (Z : State) (y : MethodName) (bytes : ByteArray) (maxL : Nat) (ret : Option FieldType) (rm : Room) (as' : Array Value) (h : Heap) (Qv : Option Value → Heap → List Loc → Prop) : Prop :=
  MetFree l y (head1 [Jvm.Cond.code y bytes maxL ret] rm) (fun a U => a = as' ∧ Z.Warmed39 U.vm ∧ U.heap = h) (fun _ _ _ _ _ => True) (fun _ U o U' => ∃ v L, o = .returned v ∧ Qv v U'.heap L ∧ FrameEnd U o U' L rm.cells rm.slots)
theorem Go.new (X : Stand p l e R s m args below meth c T locs cells slots) (hx : p.tables.exec = Jvm.exec) (hZ : Z.Warmed39 s.vm) {own C : String} {index n : Nat} (hown : s.vm.findClass own = some m.cls) (w : (Jvm.Cond.classLink own index C).before a0 Z = true) (wi : (Jvm.Cond.instantiable C n).before a0 Z = true) (wz : (Jvm.Cond.initialized C).before a0 Z = true) (eT : T.heap = h)
    {pc q : Nat} {Ls : Array Slot} {st : List Value} (hd : decode c.code pc = .ok (.new index, 3)) (hc : cells + 1 ≤ R.cells) (hl : slots + n ≤ R.slots) (hq : pc + 3 = q)
    (k : ∀ (T' : State) (h' : Heap) (a : Addr), a = h.size → Stand p l e R s m args below meth c T' locs (cells + 1) (slots + n) → T'.heap = h' → Ext h h' → Exa Z h' a C → (∀ {O nm d : String} {ty : FieldType}, Laid Z a0 C O nm d → parseFieldDescriptor d = some ty → Fld Z h' a O nm d (defaultValue ty)) →
      Go p e below Q (T'.setTop (mkF m q Ls (.ref a :: st)))) : Go p e below Q (T.setTop (mkF m pc Ls st)) := by
  subst hq
  obtain ⟨T', h', X', e', E', A', D', -, st'⟩ := newO X hx hZ hown w wi wz eT (g := mkF m pc Ls st) rfl hd hc hl
  exact Go.of st' (k T' h' _ rfl X' e' E' A' D')
theorem Go.getf (X : Stand p l e R s m args below meth c T locs cells slots) (hx : p.tables.exec = Jvm.exec) (hZ : Z.Warmed39 s.vm) {own O n d : String} {index : Nat} (hown : s.vm.findClass own = some m.cls) (w : (Jvm.Cond.fieldLink own index O n d).before a0 Z = true) (eT : T.heap = h) {a : Addr} {v : Value} (F : Fld Z h a O n d v)
    {pc q : Nat} {Ls : Array Slot} {st : List Value} (hd : decode c.code pc = .ok (.getfield index, 3)) (hq : pc + 3 = q)
    (k : ∀ T' : State, Stand p l e R s m args below meth c T' locs cells slots → T'.heap = h → Go p e below Q (T'.setTop (mkF m q Ls (v :: st)))) : Go p e below Q (T.setTop (mkF m pc Ls (.ref a :: st))) := by
  subst hq
  obtain ⟨T', X', e', st'⟩ := getF X hx hZ hown (host := "") (Or.inl w) Via.refl eT F (g := mkF m pc Ls (.ref a :: st)) rfl rfl hd
  exact Go.of st' (k T' X' e')
theorem Go.gets (X : Stand p l e R s m args below meth c T locs cells slots) (hx : p.tables.exec = Jvm.exec) (hZ : Z.Warmed39 s.vm) {own O n d : String} {index : Nat} (hown : s.vm.findClass own = some m.cls) (w : (Jvm.Cond.fieldLink own index O n d).before a0 Z = true) (eT : T.heap = h) {v : Value} (F : Sta Z h O n d v)
    {pc q : Nat} {Ls : Array Slot} {st : List Value} (hd : decode c.code pc = .ok (.getstatic index, 3)) (hq : pc + 3 = q)
    (k : ∀ T' : State, Stand p l e R s m args below meth c T' locs cells slots → T'.heap = h → Go p e below Q (T'.setTop (mkF m q Ls (v :: st)))) : Go p e below Q (T.setTop (mkF m pc Ls st)) := by
  subst hq
  obtain ⟨T', X', e', st'⟩ := getS X hx hZ hown (host := "") w Via.refl eT F (g := mkF m pc Ls st) rfl hd
  exact Go.of st' (k T' X' e')
theorem Go.putf (X : Stand p l e R s m args below meth c T locs cells slots) (hx : p.tables.exec = Jvm.exec) (hZ : Z.Warmed39 s.vm) {own O n d C : String} {index kk : Nat} {ty : FieldType} (hown : s.vm.findClass own = some m.cls) (w : (Jvm.Cond.fieldLink own index O n d).before a0 Z = true) (eT : T.heap = h) {a : Addr} {v old : Value} (F : Fld Z h a O n d old) (E : Exa Z h a C)
    (L : (Jvm.Cond.lays C O n d).before a0 Z = true ∨ ((Jvm.Cond.laysFinal C O n d).before a0 Z = true ∧ own = O ∧ meth.name = "<init>")) (wi : (Jvm.Cond.instantiable C kk).before a0 Z = true) (hty : parseFieldDescriptor d = some ty) (hn : narrow ty v = v) (hf : fits ty v = true)
    {pc q : Nat} {Ls : Array Slot} {st : List Value} (hd : decode c.code pc = .ok (.putfield index, 3)) (hq : pc + 3 = q)
    (k : ∀ (T' : State) (h' : Heap), Stand p l e R s m args below meth c T' (locs ++ [⟨a, Jvm.RoadKit.slotOf Z O n d⟩]) cells slots → T'.heap = h' → Wr h h' a (Jvm.RoadKit.slotOf Z O n d) v → Go p e below Q (T'.setTop (mkF m q Ls st))) : Go p e below Q (T.setTop (mkF m pc Ls (v :: .ref a :: st))) := by
  subst hq
  obtain ⟨T', h', X', e', W', st'⟩ := putF X hx hZ hown (host := "") (Or.inl w) Via.refl eT F E L wi hty hn hf (g := mkF m pc Ls (v :: .ref a :: st)) rfl rfl hd
  exact Go.of st' (k T' h' X' e' W')
theorem Go.init (X : Stand p l e R s m args below meth c T locs cells slots) (hx : p.tables.exec = Jvm.exec) (hZ : Z.Warmed39 s.vm) {own : String} {index : Nat} (hown : s.vm.findClass own = some m.cls) (w1 : (Jvm.Cond.methodLink own index Lib.objectInit).before a0 Z = true) (w2 : (Jvm.Cond.instanceMethod Lib.objectInit).before a0 Z = true) (w3 : (Jvm.Cond.code Lib.objectInit ⟨#[0xb1]⟩ 1 none).before a0 Z = true) (eT : T.heap = h)
    {pc q : Nat} {Ls : Array Slot} {st : List Value} {a : Addr} {W : Nat} (hd : decode c.code pc = .ok (.invokespecial index, 3)) (hsz : Ls.size = c.maxLocals) (hf : 1 ≤ R.frames) (hW : (st.map fun v => v.category).sum ≤ W) (hl : W + 12 ≤ R.locals) (hq : pc + 3 = q)
    (k : ∀ T' : State, Stand p l e R s m args below meth c T' locs cells slots → T'.heap = h → Go p e below Q (T'.setTop (mkF m q Ls st))) : Go p e below Q (T.setTop (mkF m pc Ls (.ref a :: st))) := by
  subst hq
  obtain ⟨T', X', e', st'⟩ := initO X hx hZ hown w1 w2 w3 eT (g := mkF m pc Ls (.ref a :: st)) rfl hsz rfl hd hf (W := W) (by show 2 * 0 + _ ≤ _; omega) hl
  exact Go.of st' (k T' X' e')
theorem Go.special (X : Stand p l e R s m args below meth c T locs cells slots) (hx : p.tables.exec = Jvm.exec) (hZ : Z.Warmed39 s.vm) {own : String} {index : Nat} {y : MethodName} (hy1 : y.name = "<init>") (hown : s.vm.findClass own = some m.cls) (w1 : (Jvm.Cond.methodLink own index y).before a0 Z = true) (w2 : (Jvm.Cond.instanceMethod y).before a0 Z = true)
    {bytes : ByteArray} {maxL : Nat} (w3 : (Jvm.Cond.code y bytes maxL none).before a0 Z = true) (wz : (Jvm.Cond.initialized y.cls).before a0 Z = true) (hy : y.cls ≠ "java/lang/invoke/MethodHandle" ∧ y.cls ≠ "java/lang/invoke/VarHandle")
    {rm : Room} {as' : Array Value} {Qv : Option Value → Heap → List Loc → Prop} (hM : Con l Z y bytes maxL none rm as' h Qv) (eT : T.heap = h) {pc q : Nat} {Ls : Array Slot} {st : List Value} {a : Addr} {argsL rest : List Value} {W : Nat} (hd : decode c.code pc = .ok (.invokespecial index, 3))
    (hst : st = argsL.reverse ++ .ref a :: rest) (has : as' = (.ref a :: argsL).toArray) (hlen : ∀ sig, parseMethodDescriptor y.desc = some sig → argsL.length = sig.parameters.length) (hsz : Ls.size = c.maxLocals) (hW : (rest.map fun v => v.category).sum ≤ W)
    (hf : rm.frames + 1 ≤ R.frames) (hl : W + (maxL + 11) + rm.locals ≤ R.locals) (hc : cells + rm.cells ≤ R.cells) (hs : slots + rm.slots ≤ R.slots) (hq : pc + 3 = q)
    (k : ∀ (T' : State) (L : List Loc) (v : Option Value), Stand p l e R s m args below meth c T' (locs ++ L) (cells + rm.cells) (slots + rm.slots) → Qv v T'.heap L → Go p e below Q (T'.setTop (mkF m q Ls (v.toList ++ rest)))) : Go p e below Q (T.setTop (mkF m pc Ls st)) := by
  subst hq hst has
  obtain ⟨v, vm₁, ⟨T', L', k', n'⟩, -, X', ⟨Lc, hQ, l1, y1, z1⟩, st'⟩ := X.specialBack hx (y := y) hy1 hown (mvT hZ w1) (mvT hZ w2) (mvT hZ w3) hy (backOf (W := W) hM hZ w3 wz hf hl) (g := mkF m pc Ls (argsL.reverse ++ .ref a :: rest)) rfl hsz (Steps.refl _) (a := a) (argsL := argsL) (rest := rest) hlen rfl (by show 2 * 0 + _ ≤ _; omega) hd (fun _ _ => ⟨rfl, eT, hc, hs⟩)
  dsimp only [Pt.U, Pt.locs, Pt.cells, Pt.slots] at X' l1 y1 z1 st' hQ
  subst l1 y1 z1
  exact Go.tr st' (k T' Lc v X' hQ)
theorem Go.virtual (X : Stand p l e R s m args below meth c T locs cells slots) (hx : p.tables.exec = Jvm.exec) (hZ : Z.Warmed39 s.vm) {own C : String} {index : Nat} {y : MethodName} (hown : s.vm.findClass own = some m.cls) (w1 : (Jvm.Cond.methodLink own index y).before a0 Z = true) (w2 : (Jvm.Cond.declares y).before a0 Z = true) (w3 : (Jvm.Cond.selects C y y).before a0 Z = true) (w4 : (Jvm.Cond.instanceMethod y).before a0 Z = true)
    {bytes : ByteArray} {maxL : Nat} {ret : Option FieldType} (w5 : (Jvm.Cond.code y bytes maxL ret).before a0 Z = true) (wz : (Jvm.Cond.initialized y.cls).before a0 Z = true) (hy : y.cls ≠ "java/lang/invoke/MethodHandle" ∧ y.cls ≠ "java/lang/invoke/VarHandle")
    {rm : Room} {as' : Array Value} {Qv : Option Value → Heap → List Loc → Prop} (hM : Con l Z y bytes maxL ret rm as' h Qv) (eT : T.heap = h) {a : Addr} (E : Exa Z h a C) {pc q : Nat} {Ls : Array Slot} {st : List Value} {argsL rest : List Value} {W : Nat} (hd : decode c.code pc = .ok (.invokevirtual index, 3))
    (hst : st = argsL.reverse ++ .ref a :: rest) (has : as' = (.ref a :: argsL).toArray) (hlen : ∀ sig, parseMethodDescriptor y.desc = some sig → argsL.length = sig.parameters.length) (hsz : Ls.size = c.maxLocals) (hW : (rest.map fun v => v.category).sum ≤ W)
    (hf : rm.frames + 1 ≤ R.frames) (hl : W + (maxL + 11) + rm.locals ≤ R.locals) (hc : cells + rm.cells ≤ R.cells) (hs : slots + rm.slots ≤ R.slots) (hq : pc + 3 = q)
    (k : ∀ (T' : State) (L : List Loc) (v : Option Value), Stand p l e R s m args below meth c T' (locs ++ L) (cells + rm.cells) (slots + rm.slots) → Qv v T'.heap L → Go p e below Q (T'.setTop (mkF m q Ls (v.toList ++ rest)))) : Go p e below Q (T.setTop (mkF m pc Ls st)) := by
  subst hq hst has
  obtain ⟨cq, kq, qa, -, qc⟩ := isOf hZ eT E
  obtain ⟨v, vm₁, ⟨T', L', k', n'⟩, -, X', ⟨Lc, hQ, l1, y1, z1⟩, st'⟩ := X.virtualBack hx (y := y) (z := y) hown (mvT hZ w1) (mvT hZ w2) (notFace_of_selects (args := #[]) (mvT hZ w3)) (mvT hZ w3) (mvT hZ w4) hy (backOf (W := W) hM hZ w5 wz hf hl) qa qc (g := mkF m pc Ls (argsL.reverse ++ .ref a :: rest)) rfl hsz (Steps.refl _) (argsL := argsL) (rest := rest) hlen rfl (by show 2 * 0 + _ ≤ _; omega) hd (fun _ _ => ⟨rfl, eT, hc, hs⟩)
  dsimp only [Pt.U, Pt.locs, Pt.cells, Pt.slots] at X' l1 y1 z1 st' hQ
  subst l1 y1 z1
  exact Go.tr st' (k T' Lc v X' hQ)
theorem Go.static (X : Stand p l e R s m args below meth c T locs cells slots) (hx : p.tables.exec = Jvm.exec) (hZ : Z.Warmed39 s.vm) {own : String} {index : Nat} {y : MethodName} (hown : s.vm.findClass own = some m.cls) (w1 : (Jvm.Cond.methodLink own index y).before a0 Z = true) (w2 : (Jvm.Cond.static y).before a0 Z = true)
    {bytes : ByteArray} {maxL : Nat} {ret : Option FieldType} (w3 : (Jvm.Cond.code y bytes maxL ret).before a0 Z = true) (wz : (Jvm.Cond.initialized y.cls).before a0 Z = true) (hy : y.cls ≠ "java/lang/invoke/MethodHandle" ∧ y.cls ≠ "java/lang/invoke/VarHandle")
    {rm : Room} {as' : Array Value} {Qv : Option Value → Heap → List Loc → Prop} (hM : Con l Z y bytes maxL ret rm as' h Qv) (eT : T.heap = h) {pc q : Nat} {Ls : Array Slot} {st : List Value} {argsL rest : List Value} {W : Nat} (hd : decode c.code pc = .ok (.invokestatic index, 3))
    (hst : st = argsL.reverse ++ rest) (has : as' = argsL.toArray) (hlen : ∀ sig, parseMethodDescriptor y.desc = some sig → argsL.length = sig.parameters.length) (hsz : Ls.size = c.maxLocals) (hW : (rest.map fun v => v.category).sum ≤ W)
    (hf : rm.frames + 1 ≤ R.frames) (hl : W + (maxL + 11) + rm.locals ≤ R.locals) (hc : cells + rm.cells ≤ R.cells) (hs : slots + rm.slots ≤ R.slots) (hq : pc + 3 = q)
    (k : ∀ (T' : State) (L : List Loc) (v : Option Value), Stand p l e R s m args below meth c T' (locs ++ L) (cells + rm.cells) (slots + rm.slots) → Qv v T'.heap L → Go p e below Q (T'.setTop (mkF m q Ls (v.toList ++ rest)))) : Go p e below Q (T.setTop (mkF m pc Ls st)) := by
  subst hq hst has
  obtain ⟨v, vm₁, ⟨T', L', k', n'⟩, -, X', ⟨Lc, hQ, l1, y1, z1⟩, st'⟩ := Jvm.LawKit.callS X hx (y := y) hown (mvT hZ w1) (mvT hZ w2) (mvT hZ wz) (mvT hZ w3) hy (backOf (W := W) hM hZ w3 wz hf hl) (g := mkF m pc Ls (argsL.reverse ++ rest)) rfl hsz (argsL := argsL) (rest := rest) hlen rfl (by show 2 * 0 + _ ≤ _; omega) hd (fun _ _ => ⟨rfl, eT, hc, hs⟩)
  dsimp only [Pt.U, Pt.locs, Pt.cells, Pt.slots] at X' l1 y1 z1 st' hQ
  subst l1 y1 z1
  exact Go.of st' (k T' Lc v X' hQ)
/-- a static call that a payer of the library answers, and that leaves all as it was -/
theorem Go.nat (X : Stand p l e R s m args below meth c T locs cells slots) (hx : p.tables.exec = Jvm.exec) (hZ : Z.Warmed39 s.vm) {own : String} {index : Nat} {y : MethodName} (hown : s.vm.findClass own = some m.cls) (w1 : (Jvm.Cond.methodLink own index y).before a0 Z = true) (w2 : (Jvm.Cond.static y).before a0 Z = true) (w3 : (Jvm.Cond.initialized y.cls).before a0 Z = true)
    {by0 : ByteArray} {ml : Nat} {rt : Option FieldType} (w4 : (Jvm.Cond.code y by0 ml rt).before a0 Z = true) (hy : y.cls ≠ "java/lang/invoke/MethodHandle" ∧ y.cls ≠ "java/lang/invoke/VarHandle") (eT : T.heap = h) {W : Nat} {F : Array Value → Prop} {val : Value}
    (hK : (Jvm.Cond.code y by0 ml rt).before args s = true → Back l R p e below s args y 3 W (fun A a' => A.cells ≤ R.cells ∧ A.slots ≤ R.slots ∧ F a') (fun A _ v B => v = some val ∧ B = A))
    {pc q : Nat} {Ls : Array Slot} {st : List Value} {argsL rest : List Value} (hd : decode c.code pc = .ok (.invokestatic index, 3)) (hst : st = argsL.reverse ++ rest) (hlen : ∀ sig, parseMethodDescriptor y.desc = some sig → argsL.length = sig.parameters.length) (hsz : Ls.size = c.maxLocals) (hW : (rest.map fun v => v.category).sum ≤ W)
    (hc : cells ≤ R.cells) (hs : slots ≤ R.slots) (hF : F argsL.toArray) (hq : pc + 3 = q)
    (k : ∀ T' : State, Stand p l e R s m args below meth c T' locs cells slots → T'.heap = h → Go p e below Q (T'.setTop (mkF m q Ls (val :: rest)))) : Go p e below Q (T.setTop (mkF m pc Ls st)) := by
  subst hq hst
  obtain ⟨T', X', e', st'⟩ := natS X hx hZ hown w1 w2 w3 w4 hy eT hK (g := mkF m pc Ls (argsL.reverse ++ rest)) rfl hsz hlen rfl (by show 2 * 0 + _ ≤ _; omega) hd hc hs hF rfl
  exact Go.of st' (k T' X' e')
/-! words of the sheet by their place -/
theorem word {ts : List Jvm.Cond} (hw : ∀ d ∈ ts, d.before a0 Z = true) {d : Jvm.Cond} (i : Nat) (hi : ts[i]? = some d) : d.before a0 Z = true := hw _ (List.mem_of_getElem? hi)
end OwnHeap

theorem pd0 : parseMethodDescriptor "()V" = some ⟨[], none⟩ := by decide +kernel
theorem pd1 : parseMethodDescriptor "(D)Z" = some ⟨[.double], some .boolean⟩ := by decide +kernel
theorem pd2 : parseMethodDescriptor "(IDDD)V" = some ⟨[.int, .double, .double, .double], none⟩ := by decide +kernel
theorem pd3 : parseMethodDescriptor "()Z" = some ⟨[], some .boolean⟩ := by decide +kernel
theorem pd4 : parseMethodDescriptor "()Lcom/example/batchline/batchline/sim/Picker;" = some ⟨[], some (.object "com/example/batchline/batchline/sim/Picker")⟩ := by decide +kernel
theorem pd5 : parseMethodDescriptor "(D)Lcom/example/batchline/batchline/sim/Picker;" = some ⟨[.double], some (.object "com/example/batchline/batchline/sim/Picker")⟩ := by decide +kernel
theorem pd6 : parseMethodDescriptor "(I)V" = some ⟨[.int], none⟩ := by decide +kernel

section OwnLaw
open Jvm.FP Jvm.FP.Core Jvm.Free.Fl
/-- what Double.isNaN gives -/
def own_isnan (x : UInt64) : Int32 := if cmpValue (FP.dcmp x x) .l = 0 then 0 else 1
/-- what waiting gives, by the field -/
def own_wait (x : UInt64) : Int32 := if cmpValue (FP.dcmp x x) .l = 0 then 1 else 0
theorem own_isnan01 (x : UInt64) : own_isnan x = 0 ∨ own_isnan x = 1 := by unfold own_isnan; split; exact Or.inl rfl; exact Or.inr rfl
theorem own_isnan_0 {x : UInt64} (h : own_isnan x = 0) : own_wait x = 1 := by
  unfold own_isnan at h
  unfold own_wait
  split at h
  · rename_i z; rw [if_pos z]
  · exact absurd h (by decide)
theorem own_isnan_1 {x : UInt64} (h : ¬ own_isnan x = 0) : own_wait x = 0 := by
  unfold own_isnan at h
  unfold own_wait
  split at h
  · exact absurd rfl h
  · rename_i z; rw [if_neg z]
theorem own_wait_nn {x : UInt64} (h : NoNaN64 x) : own_wait x = 1 := by unfold own_wait; rw [dcmpV_self h]; rfl
theorem own_wait_nan : own_wait 9221120237041090560 = 0 := by decide +kernel
theorem own_half : DFin 4602678819172646912 := (fin_bits _).mpr (by decide)
theorem own_mul_nn {a : Int64} {t : UInt64} (h : FP.l2d a = t) : NoNaN64 (FP.dmul t 4602678819172646912) := by
  subst h; exact noNaN64_no.mpr (Core.dmul_out (l2d_dfin a) own_half)
end OwnLaw

theorem d2_0 : decode jdk_30_method_1_code 0 = .ok (.aload_n 0, 1) := by decide +kernel
theorem d2_1 : decode jdk_30_method_1_code 1 = .ok (.invokespecial 1, 3) := by decide +kernel
theorem d2_4 : decode jdk_30_method_1_code 4 = .ok (.return_, 1) := by decide +kernel
set_option maxRecDepth 65536 in
set_option maxHeartbeats 40000000 in
theorem rm_rec (l : Launch) (Z : State) (a0 : Array Value) (hw : ∀ d ∈ tables_1, d.before a0 Z = true) (a1 : Addr) (h0 : Heap) (n0 : Nat) (Z0 : n0 ≤ h0.size)  :
    Con l Z (⟨"java/lang/Record", "<init>", "()V"⟩ : MethodName) jdk_30_method_1_code 1 none ({ frames := 1, cells := 0, slots := 0, locals := 12 } : Room) #[(.ref a1)] h0 (fun v h L => v = none ∧ Fr n0 L ∧ h = h0) := by
  refine enter (l := l) (Z := Z) (y := (⟨"java/lang/Record", "<init>", "()V"⟩ : MethodName)) (bytes := jdk_30_method_1_code) (maxL := 1) (ret := none) (ws := []) (rm := ({ frames := 1, cells := 0, slots := 0, locals := 12 } : Room)) (as' := #[(.ref a1)]) (h0 := h0) (Qv := (fun v h L => v = none ∧ Fr n0 L ∧ h = h0)) (kc := 0) (ks := 0) (by first | exact plainFor_of_name (by first | (simp [plainName, overriddenIn]; done) | decide +kernel) | decide +kernel) (Ls := #[.val (.ref a1)]) (fun m => by first | (simp [entryFrame, mkF, argsToLocals, Value.category]; done) | rfl) ?_
  intro p e s m below meth c s₁ hx hby hml hown hnm hret hlk hZ X0 e0
  have hown : s.vm.findClass "java/lang/Record" = some m.cls := hown
  have hml : c.maxLocals = 1 := hml
  have N0 := Fr.nil n0
  refine Go.aloadN X0.here hx (Jvm.hb hby d2_0) rfl rfl (q := 1) rfl ?_
  refine Go.init X0 hx hZ hown (word hw 12 rfl) (word hw 13 rfl) (word hw 14 rfl) e0 (Jvm.hb hby d2_1) (by rw [hml]; rfl) (by decide) (W := 0) (Nat.le_of_eq rfl) (by decide) (q := 4) rfl ?_
  intro T101 X101 e101
  refine Go.retV X101 hx hret hlk (Jvm.hb hby d2_4) (by decide) (by decide) ?_
  exact ⟨rfl, N0, e101⟩
theorem d1_0 : decode prog_60_method_2_code 0 = .ok (.aload_n 0, 1) := by decide +kernel
theorem d1_1 : decode prog_60_method_2_code 1 = .ok (.invokespecial 3, 3) := by decide +kernel
theorem d1_4 : decode prog_60_method_2_code 4 = .ok (.aload_n 0, 1) := by decide +kernel
theorem d1_5 : decode prog_60_method_2_code 5 = .ok (.iload_n 1, 1) := by decide +kernel
theorem d1_6 : decode prog_60_method_2_code 6 = .ok (.putfield 9, 3) := by decide +kernel
theorem d1_9 : decode prog_60_method_2_code 9 = .ok (.aload_n 0, 1) := by decide +kernel
theorem d1_10 : decode prog_60_method_2_code 10 = .ok (.dload_n 2, 1) := by decide +kernel
theorem d1_11 : decode prog_60_method_2_code 11 = .ok (.putfield 15, 3) := by decide +kernel
theorem d1_14 : decode prog_60_method_2_code 14 = .ok (.aload_n 0, 1) := by decide +kernel
theorem d1_15 : decode prog_60_method_2_code 15 = .ok (.dload 4, 2) := by decide +kernel
theorem d1_17 : decode prog_60_method_2_code 17 = .ok (.putfield 19, 3) := by decide +kernel
theorem d1_20 : decode prog_60_method_2_code 20 = .ok (.aload_n 0, 1) := by decide +kernel
theorem d1_21 : decode prog_60_method_2_code 21 = .ok (.dload 6, 2) := by decide +kernel
theorem d1_23 : decode prog_60_method_2_code 23 = .ok (.putfield 22, 3) := by decide +kernel
theorem d1_26 : decode prog_60_method_2_code 26 = .ok (.return_, 1) := by decide +kernel
set_option maxRecDepth 65536 in
set_option maxHeartbeats 40000000 in
theorem rm_init4 (l : Launch) (Z : State) (a0 : Array Value) (hw : ∀ d ∈ tables_1, d.before a0 Z = true) (a1 : Addr) (q2 : Int32) (q3 : UInt64) (q4 : UInt64) (q5 : UInt64) (o1 : Value) (o2 : Value) (o3 : Value) (o4 : Value) (h0 : Heap) (n0 : Nat) (Z0 : n0 ≤ h0.size) (E1 : Exa Z h0 a1 "com/example/batchline/batchline/sim/Picker") (F1 : Fld Z h0 a1 "com/example/batchline/batchline/sim/Picker" "number" "I" o1) (F2 : Fld Z h0 a1 "com/example/batchline/batchline/sim/Picker" "free" "D" o2) (F3 : Fld Z h0 a1 "com/example/batchline/batchline/sim/Picker" "distance" "D" o3) (F4 : Fld Z h0 a1 "com/example/batchline/batchline/sim/Picker" "waitingSince" "D" o4) (g1 : n0 ≤ a1) :
    Con l Z (⟨"com/example/batchline/batchline/sim/Picker", "<init>", "(IDDD)V"⟩ : MethodName) prog_60_method_2_code 8 none ({ frames := 2, cells := 0, slots := 0, locals := 24 } : Room) #[(.ref a1), (.int q2), (.double q3), (.double q4), (.double q5)] h0 (fun v h L => v = none ∧ Fr n0 L ∧ Keep h0 h [a1] ∧ Exa Z h a1 "com/example/batchline/batchline/sim/Picker" ∧ Fld Z h a1 "com/example/batchline/batchline/sim/Picker" "number" "I" (.int q2) ∧ Fld Z h a1 "com/example/batchline/batchline/sim/Picker" "free" "D" (.double q3) ∧ Fld Z h a1 "com/example/batchline/batchline/sim/Picker" "distance" "D" (.double q4) ∧ Fld Z h a1 "com/example/batchline/batchline/sim/Picker" "waitingSince" "D" (.double q5)) := by
  refine enter (l := l) (Z := Z) (y := (⟨"com/example/batchline/batchline/sim/Picker", "<init>", "(IDDD)V"⟩ : MethodName)) (bytes := prog_60_method_2_code) (maxL := 8) (ret := none) (ws := []) (rm := ({ frames := 2, cells := 0, slots := 0, locals := 24 } : Room)) (as' := #[(.ref a1), (.int q2), (.double q3), (.double q4), (.double q5)]) (h0 := h0) (Qv := (fun v h L => v = none ∧ Fr n0 L ∧ Keep h0 h [a1] ∧ Exa Z h a1 "com/example/batchline/batchline/sim/Picker" ∧ Fld Z h a1 "com/example/batchline/batchline/sim/Picker" "number" "I" (.int q2) ∧ Fld Z h a1 "com/example/batchline/batchline/sim/Picker" "free" "D" (.double q3) ∧ Fld Z h a1 "com/example/batchline/batchline/sim/Picker" "distance" "D" (.double q4) ∧ Fld Z h a1 "com/example/batchline/batchline/sim/Picker" "waitingSince" "D" (.double q5))) (kc := 0) (ks := 0) (by first | exact plainFor_of_name (by first | (simp [plainName, overriddenIn]; done) | decide +kernel) | decide +kernel) (Ls := #[.val (.ref a1), .val (.int q2), .val (.double q3), .second, .val (.double q4), .second, .val (.double q5), .second]) (fun m => by first | (simp [entryFrame, mkF, argsToLocals, Value.category]; done) | rfl) ?_
  intro p e s m below meth c s₁ hx hby hml hown hnm hret hlk hZ X0 e0
  have hown : s.vm.findClass "com/example/batchline/batchline/sim/Picker" = some m.cls := hown
  have hml : c.maxLocals = 8 := hml
  have N0 := Fr.nil n0
  refine Go.aloadN X0.here hx (Jvm.hb hby d1_0) rfl rfl (q := 1) rfl ?_
  refine Go.special X0 hx hZ (y := (⟨"java/lang/Record", "<init>", "()V"⟩ : MethodName)) rfl hown (word hw 7 rfl) (word hw 8 rfl) (word hw 11 rfl) (word hw 10 rfl) (by decide) (rm_rec l Z a0 hw a1 h0 n0 Z0 ) e0 (a := a1) (argsL := []) (rest := []) (W := 0) (Jvm.hb hby d1_1) rfl rfl (lenOf (pd0) rfl) (by rw [hml]; rfl) (Nat.le_of_eq rfl) (by decide) (by decide) (by decide) (by decide) (q := 4) rfl ?_
  intro T101 L101 w101 X101 hQ101
  obtain ⟨rfl, M101, q101⟩ := hQ101
  have N101 := Fr.app N0 M101
  show Go p e below _ (T101.setTop (mkF m 4 #[.val (.ref a1), .val (.int q2), .val (.double q3), .second, .val (.double q4), .second, .val (.double q5), .second] []))
  refine Go.aloadN X101.here hx (Jvm.hb hby d1_4) rfl rfl (q := 5) rfl ?_
  refine Go.iloadN X101.here hx (Jvm.hb hby d1_5) rfl (q := 6) rfl ?_
  refine Go.putf X101 hx hZ hown (word hw 15 rfl) q101 F1 E1 (Or.inr ⟨(word hw 16 rfl), rfl, hnm⟩) (word hw 2 rfl) (ty := .int) (by decide) rfl rfl (Jvm.hb hby d1_6) (q := 9) rfl ?_
  intro T102 h102 X102 e102 W102
  have N102 := Fr.snoc X102 N101 g1
  have F102 := F1.same W102
  refine Go.aloadN X102.here hx (Jvm.hb hby d1_9) rfl rfl (q := 10) rfl ?_
  refine Go.dloadN X102.here hx (Jvm.hb hby d1_10) rfl (q := 11) rfl ?_
  have f104 := F2.other W102 (Or.inr (Jvm.RoadKit.slot_ne (Or.inr (word hw 18 rfl)) (Or.inr (word hw 16 rfl)) (by decide) (t := .double) (t' := .int) (by decide) (by decide)))
  have f105 := E1.wr W102
  refine Go.putf X102 hx hZ hown (word hw 17 rfl) e102 f104 f105 (Or.inr ⟨(word hw 18 rfl), rfl, hnm⟩) (word hw 2 rfl) (ty := .double) (by decide) rfl rfl (Jvm.hb hby d1_11) (q := 14) rfl ?_
  intro T103 h103 X103 e103 W103
  have N103 := Fr.snoc X103 N102 g1
  have F103 := f104.same W103
  refine Go.aloadN X103.here hx (Jvm.hb hby d1_14) rfl rfl (q := 15) rfl ?_
  refine Go.dload X103.here hx (Jvm.hb hby d1_15) rfl (q := 17) rfl ?_
  have f107 := F3.other W102 (Or.inr (Jvm.RoadKit.slot_ne (Or.inr (word hw 20 rfl)) (Or.inr (word hw 16 rfl)) (by decide) (t := .double) (t' := .int) (by decide) (by decide)))
  have f108 := f107.other W103 (Or.inr (Jvm.RoadKit.slot_ne (Or.inr (word hw 20 rfl)) (Or.inr (word hw 18 rfl)) (by decide) (t := .double) (t' := .double) (by decide) (by decide)))
  have f109 := f105.wr W103
  refine Go.putf X103 hx hZ hown (word hw 19 rfl) e103 f108 f109 (Or.inr ⟨(word hw 20 rfl), rfl, hnm⟩) (word hw 2 rfl) (ty := .double) (by decide) rfl rfl (Jvm.hb hby d1_17) (q := 20) rfl ?_
  intro T106 h106 X106 e106 W106
  have N106 := Fr.snoc X106 N103 g1
  have F106 := f108.same W106
  refine Go.aloadN X106.here hx (Jvm.hb hby d1_20) rfl rfl (q := 21) rfl ?_
  refine Go.dload X106.here hx (Jvm.hb hby d1_21) rfl (q := 23) rfl ?_
  have f111 := F4.other W102 (Or.inr (Jvm.RoadKit.slot_ne (Or.inr (word hw 22 rfl)) (Or.inr (word hw 16 rfl)) (by decide) (t := .double) (t' := .int) (by decide) (by decide)))
  have f112 := f111.other W103 (Or.inr (Jvm.RoadKit.slot_ne (Or.inr (word hw 22 rfl)) (Or.inr (word hw 18 rfl)) (by decide) (t := .double) (t' := .double) (by decide) (by decide)))
  have f113 := f112.other W106 (Or.inr (Jvm.RoadKit.slot_ne (Or.inr (word hw 22 rfl)) (Or.inr (word hw 20 rfl)) (by decide) (t := .double) (t' := .double) (by decide) (by decide)))
  have f114 := f109.wr W106
  refine Go.putf X106 hx hZ hown (word hw 21 rfl) e106 f113 f114 (Or.inr ⟨(word hw 22 rfl), rfl, hnm⟩) (word hw 2 rfl) (ty := .double) (by decide) rfl rfl (Jvm.hb hby d1_23) (q := 26) rfl ?_
  intro T110 h110 X110 e110 W110
  have N110 := Fr.snoc X110 N106 g1
  have F110 := f113.same W110
  have k115 : Keep h0 h102 [a1] := (Keep.refl h0 [a1]).wr W102 (Or.inl (List.mem_of_getElem? (i := 0) rfl))
  have k116 : Keep h0 h103 [a1] := k115.wr W103 (Or.inl (List.mem_of_getElem? (i := 0) rfl))
  have k117 : Keep h0 h106 [a1] := k116.wr W106 (Or.inl (List.mem_of_getElem? (i := 0) rfl))
  have k118 : Keep h0 h110 [a1] := k117.wr W110 (Or.inl (List.mem_of_getElem? (i := 0) rfl))
  have f119 := f114.wr W110
  have f120 := F102.other W103 (Or.inr (Jvm.RoadKit.slot_ne (Or.inr (word hw 16 rfl)) (Or.inr (word hw 18 rfl)) (by decide) (t := .int) (t' := .double) (by decide) (by decide)))
  have f121 := f120.other W106 (Or.inr (Jvm.RoadKit.slot_ne (Or.inr (word hw 16 rfl)) (Or.inr (word hw 20 rfl)) (by decide) (t := .int) (t' := .double) (by decide) (by decide)))
  have f122 := f121.other W110 (Or.inr (Jvm.RoadKit.slot_ne (Or.inr (word hw 16 rfl)) (Or.inr (word hw 22 rfl)) (by decide) (t := .int) (t' := .double) (by decide) (by decide)))
  have f123 := F103.other W106 (Or.inr (Jvm.RoadKit.slot_ne (Or.inr (word hw 18 rfl)) (Or.inr (word hw 20 rfl)) (by decide) (t := .double) (t' := .double) (by decide) (by decide)))
  have f124 := f123.other W110 (Or.inr (Jvm.RoadKit.slot_ne (Or.inr (word hw 18 rfl)) (Or.inr (word hw 22 rfl)) (by decide) (t := .double) (t' := .double) (by decide) (by decide)))
  have f125 := F106.other W110 (Or.inr (Jvm.RoadKit.slot_ne (Or.inr (word hw 20 rfl)) (Or.inr (word hw 22 rfl)) (by decide) (t := .double) (t' := .double) (by decide) (by decide)))
  refine Go.retV X110 hx hret hlk (Jvm.hb hby d1_26) (by decide) (by decide) ?_
  rw [e110]
  exact ⟨rfl, N110, k118, f119, f122, f124, f125, F110⟩
theorem d5_0 : decode jdk_117_method_6_code 0 = .ok (.dload_n 0, 1) := by decide +kernel
theorem d5_1 : decode jdk_117_method_6_code 1 = .ok (.dload_n 0, 1) := by decide +kernel
theorem d5_2 : decode jdk_117_method_6_code 2 = .ok (.dcmp .l, 1) := by decide +kernel
theorem d5_3 : decode jdk_117_method_6_code 3 = .ok (.ifCond .eq 7, 3) := by decide +kernel
theorem d5_6 : decode jdk_117_method_6_code 6 = .ok (.iconst 1, 1) := by decide +kernel
theorem d5_7 : decode jdk_117_method_6_code 7 = .ok (.goto 4, 3) := by decide +kernel
theorem d5_10 : decode jdk_117_method_6_code 10 = .ok (.iconst 0, 1) := by decide +kernel
theorem d5_11 : decode jdk_117_method_6_code 11 = .ok (.ireturn, 1) := by decide +kernel
set_option maxRecDepth 65536 in
set_option maxHeartbeats 40000000 in
theorem rm_isnan (l : Launch) (Z : State) (a0 : Array Value) (hw : ∀ d ∈ tables_1, d.before a0 Z = true) (x : UInt64) (h0 : Heap) (n0 : Nat) (Z0 : n0 ≤ h0.size)  :
    Con l Z (⟨"java/lang/Double", "isNaN", "(D)Z"⟩ : MethodName) jdk_117_method_6_code 2 (some .boolean) ({ frames := 0, cells := 0, slots := 0, locals := 0 } : Room) #[(.double x)] h0 (fun v h L => v = some (.int (own_isnan x)) ∧ Fr n0 L ∧ h = h0) := by
  refine enter (l := l) (Z := Z) (y := (⟨"java/lang/Double", "isNaN", "(D)Z"⟩ : MethodName)) (bytes := jdk_117_method_6_code) (maxL := 2) (ret := (some .boolean)) (ws := []) (rm := ({ frames := 0, cells := 0, slots := 0, locals := 0 } : Room)) (as' := #[(.double x)]) (h0 := h0) (Qv := (fun v h L => v = some (.int (own_isnan x)) ∧ Fr n0 L ∧ h = h0)) (kc := 0) (ks := 0) (by first | exact plainFor_of_name (by first | (simp [plainName, overriddenIn]; done) | decide +kernel) | decide +kernel) (Ls := #[.val (.double x), .second]) (fun m => by first | (simp [entryFrame, mkF, argsToLocals, Value.category]; done) | rfl) ?_
  intro p e s m below meth c s₁ hx hby hml hown hnm hret hlk hZ X0 e0
  have hown : s.vm.findClass "java/lang/Double" = some m.cls := hown
  have hml : c.maxLocals = 2 := hml
  have N0 := Fr.nil n0
  refine Go.dloadN X0.here hx (Jvm.hb hby d5_0) rfl (q := 1) rfl ?_
  refine Go.dloadN X0.here hx (Jvm.hb hby d5_1) rfl (q := 2) rfl ?_
  obtain ⟨u2, hu2⟩ : ∃ zq, cmpValue (FP.dcmp x x) .l = zq := ⟨_, rfl⟩
  refine Go.dcmp X0.here hx (Jvm.hb hby d5_2) hu2 (q := 3) rfl ?_
  by_cases hc3 : u2 = (0 : Int32)
  · -- pc 3: u2 = (0 : Int32)
    refine Go.ifY X0.here hx (Jvm.hb hby d5_3) ((if0 _ _).trans (teq hc3).1) (by decide) (q := 10) rfl ?_
    refine Go.iconst X0.here hx (Jvm.hb hby d5_10) (v := (0 : Int32)) rfl (q := 11) rfl ?_
    refine Go.retZ X0 hx hret hlk (Jvm.hb hby d5_11) (Or.inl rfl) (by decide) (by decide) ?_
    exact ⟨by rw [own_isnan, hu2, if_pos hc3], N0, e0⟩
  · -- pc 3: not u2 = (0 : Int32)
    refine Go.ifN X0.here hx (Jvm.hb hby d5_3) ((if0 _ _).trans (feq hc3).1) (q := 6) rfl ?_
    refine Go.iconst X0.here hx (Jvm.hb hby d5_6) (v := (1 : Int32)) rfl (q := 7) rfl ?_
    refine Go.goto X0.here hx (Jvm.hb hby d5_7) (by decide) (q := 11) rfl ?_
    refine Go.retZ X0 hx hret hlk (Jvm.hb hby d5_11) (Or.inr rfl) (by decide) (by decide) ?_
    exact ⟨by rw [own_isnan, hu2, if_neg hc3], N0, e0⟩
theorem d4_0 : decode prog_60_method_3_code 0 = .ok (.aload_n 0, 1) := by decide +kernel
theorem d4_1 : decode prog_60_method_3_code 1 = .ok (.getfield 22, 3) := by decide +kernel
theorem d4_4 : decode prog_60_method_3_code 4 = .ok (.invokestatic 30, 3) := by decide +kernel
theorem d4_7 : decode prog_60_method_3_code 7 = .ok (.ifCond .ne 7, 3) := by decide +kernel
theorem d4_10 : decode prog_60_method_3_code 10 = .ok (.iconst 1, 1) := by decide +kernel
theorem d4_11 : decode prog_60_method_3_code 11 = .ok (.goto 4, 3) := by decide +kernel
theorem d4_14 : decode prog_60_method_3_code 14 = .ok (.iconst 0, 1) := by decide +kernel
theorem d4_15 : decode prog_60_method_3_code 15 = .ok (.ireturn, 1) := by decide +kernel
set_option maxRecDepth 65536 in
set_option maxHeartbeats 40000000 in
theorem rm_wait (l : Launch) (Z : State) (a0 : Array Value) (hw : ∀ d ∈ tables_1, d.before a0 Z = true) (a1 : Addr) (y : UInt64) (h0 : Heap) (n0 : Nat) (Z0 : n0 ≤ h0.size) (F1 : Fld Z h0 a1 "com/example/batchline/batchline/sim/Picker" "waitingSince" "D" (.double y)) :
    Con l Z (⟨"com/example/batchline/batchline/sim/Picker", "waiting", "()Z"⟩ : MethodName) prog_60_method_3_code 1 (some .boolean) ({ frames := 1, cells := 0, slots := 0, locals := 13 } : Room) #[(.ref a1)] h0 (fun v h L => v = some (.int (own_wait y)) ∧ Fr n0 L ∧ h = h0) := by
  refine enter (l := l) (Z := Z) (y := (⟨"com/example/batchline/batchline/sim/Picker", "waiting", "()Z"⟩ : MethodName)) (bytes := prog_60_method_3_code) (maxL := 1) (ret := (some .boolean)) (ws := []) (rm := ({ frames := 1, cells := 0, slots := 0, locals := 13 } : Room)) (as' := #[(.ref a1)]) (h0 := h0) (Qv := (fun v h L => v = some (.int (own_wait y)) ∧ Fr n0 L ∧ h = h0)) (kc := 0) (ks := 0) (by first | exact plainFor_of_name (by first | (simp [plainName, overriddenIn]; done) | decide +kernel) | decide +kernel) (Ls := #[.val (.ref a1)]) (fun m => by first | (simp [entryFrame, mkF, argsToLocals, Value.category]; done) | rfl) ?_
  intro p e s m below meth c s₁ hx hby hml hown hnm hret hlk hZ X0 e0
  have hown : s.vm.findClass "com/example/batchline/batchline/sim/Picker" = some m.cls := hown
  have hml : c.maxLocals = 1 := hml
  have N0 := Fr.nil n0
  refine Go.aloadN X0.here hx (Jvm.hb hby d4_0) rfl rfl (q := 1) rfl ?_
  refine Go.getf X0 hx hZ hown (word hw 21 rfl) e0 F1 (Jvm.hb hby d4_1) (q := 4) rfl ?_
  intro T101 X101 e101
  refine Go.static X101 hx hZ (y := (⟨"java/lang/Double", "isNaN", "(D)Z"⟩ : MethodName)) hown (word hw 28 rfl) (word hw 29 rfl) (word hw 31 rfl) (word hw 30 rfl) (by decide) (rm_isnan l Z a0 hw y h0 n0 Z0 ) e101  (argsL := [(.double y)]) (rest := []) (W := 0) (Jvm.hb hby d4_4) rfl rfl (lenOf (pd1) rfl) (by rw [hml]; rfl) (Nat.le_of_eq rfl) (by decide) (by decide) (by decide) (by decide) (q := 7) rfl ?_
  intro T102 L102 w102 X102 hQ102
  obtain ⟨rfl, M102, q102⟩ := hQ102
  have N102 := Fr.app N0 M102
  show Go p e below _ (T102.setTop (mkF m 7 #[.val (.ref a1)] [(.int (own_isnan y))]))
  by_cases hc7 : (own_isnan y) = (0 : Int32)
  · -- pc 7: (own_isnan y) = (0 : Int32)
    refine Go.ifN X102.here hx (Jvm.hb hby d4_7) ((if0 _ _).trans (teq hc7).2) (q := 10) rfl ?_
    refine Go.iconst X102.here hx (Jvm.hb hby d4_10) (v := (1 : Int32)) rfl (q := 11) rfl ?_
    refine Go.goto X102.here hx (Jvm.hb hby d4_11) (by decide) (q := 15) rfl ?_
    refine Go.retZ X102 hx hret hlk (Jvm.hb hby d4_15) (Or.inr rfl) (by decide) (by decide) ?_
    exact ⟨by rw [own_isnan_0 hc7], N102, q102⟩
  · -- pc 7: not (own_isnan y) = (0 : Int32)
    refine Go.ifY X102.here hx (Jvm.hb hby d4_7) ((if0 _ _).trans (feq hc7).2) (by decide) (q := 14) rfl ?_
    refine Go.iconst X102.here hx (Jvm.hb hby d4_14) (v := (0 : Int32)) rfl (q := 15) rfl ?_
    refine Go.retZ X102 hx hret hlk (Jvm.hb hby d4_15) (Or.inl rfl) (by decide) (by decide) ?_
    exact ⟨by rw [own_isnan_1 hc7], N102, q102⟩
theorem d6_0 : decode prog_60_method_6_code 0 = .ok (.new 10, 3) := by decide +kernel
theorem d6_3 : decode prog_60_method_6_code 3 = .ok (.dup, 1) := by decide +kernel
theorem d6_4 : decode prog_60_method_6_code 4 = .ok (.aload_n 0, 1) := by decide +kernel
theorem d6_5 : decode prog_60_method_6_code 5 = .ok (.getfield 9, 3) := by decide +kernel
theorem d6_8 : decode prog_60_method_6_code 8 = .ok (.aload_n 0, 1) := by decide +kernel
theorem d6_9 : decode prog_60_method_6_code 9 = .ok (.getfield 15, 3) := by decide +kernel
theorem d6_12 : decode prog_60_method_6_code 12 = .ok (.aload_n 0, 1) := by decide +kernel
theorem d6_13 : decode prog_60_method_6_code 13 = .ok (.getfield 19, 3) := by decide +kernel
theorem d6_16 : decode prog_60_method_6_code 16 = .ok (.ldc2_w 25, 3) := by decide +kernel
theorem d6_19 : decode prog_60_method_6_code 19 = .ok (.invokespecial 27, 3) := by decide +kernel
theorem d6_22 : decode prog_60_method_6_code 22 = .ok (.areturn, 1) := by decide +kernel
set_option maxRecDepth 65536 in
set_option maxHeartbeats 40000000 in
theorem rm_stop (l : Launch) (Z : State) (a0 : Array Value) (hw : ∀ d ∈ tables_1, d.before a0 Z = true) (a1 : Addr) (o1 : Int32) (o2 : UInt64) (o3 : UInt64) (h0 : Heap) (n0 : Nat) (Z0 : n0 ≤ h0.size) (F1 : Fld Z h0 a1 "com/example/batchline/batchline/sim/Picker" "number" "I" (.int o1)) (F2 : Fld Z h0 a1 "com/example/batchline/batchline/sim/Picker" "free" "D" (.double o2)) (F3 : Fld Z h0 a1 "com/example/batchline/batchline/sim/Picker" "distance" "D" (.double o3)) :
    Con l Z (⟨"com/example/batchline/batchline/sim/Picker", "stopWaiting", "()Lcom/example/batchline/batchline/sim/Picker;"⟩ : MethodName) prog_60_method_6_code 1 (some (.object "com/example/batchline/batchline/sim/Picker")) ({ frames := 3, cells := 1, slots := 4, locals := 44 } : Room) #[(.ref a1)] h0 (fun v h L => ∃ (b : Addr), v = some (.ref b) ∧ Fr n0 L ∧ Keep h0 h [] ∧ h0.size ≤ b ∧ Exa Z h b "com/example/batchline/batchline/sim/Picker" ∧ Fld Z h b "com/example/batchline/batchline/sim/Picker" "waitingSince" "D" (.double (9221120237041090560 : UInt64))) := by
  refine enter (l := l) (Z := Z) (y := (⟨"com/example/batchline/batchline/sim/Picker", "stopWaiting", "()Lcom/example/batchline/batchline/sim/Picker;"⟩ : MethodName)) (bytes := prog_60_method_6_code) (maxL := 1) (ret := (some (.object "com/example/batchline/batchline/sim/Picker"))) (ws := []) (rm := ({ frames := 3, cells := 1, slots := 4, locals := 44 } : Room)) (as' := #[(.ref a1)]) (h0 := h0) (Qv := (fun v h L => ∃ (b : Addr), v = some (.ref b) ∧ Fr n0 L ∧ Keep h0 h [] ∧ h0.size ≤ b ∧ Exa Z h b "com/example/batchline/batchline/sim/Picker" ∧ Fld Z h b "com/example/batchline/batchline/sim/Picker" "waitingSince" "D" (.double (9221120237041090560 : UInt64)))) (kc := 1) (ks := 4) (by first | exact plainFor_of_name (by first | (simp [plainName, overriddenIn]; done) | decide +kernel) | decide +kernel) (Ls := #[.val (.ref a1)]) (fun m => by first | (simp [entryFrame, mkF, argsToLocals, Value.category]; done) | rfl) ?_
  intro p e s m below meth c s₁ hx hby hml hown hnm hret hlk hZ X0 e0
  have hown : s.vm.findClass "com/example/batchline/batchline/sim/Picker" = some m.cls := hown
  have hml : c.maxLocals = 1 := hml
  have N0 := Fr.nil n0
  refine Go.new X0 hx hZ hown (word hw 37 rfl) (word hw 2 rfl) (word hw 3 rfl) e0 (Jvm.hb hby d6_0) (by decide) (by decide) (q := 3) rfl ?_
  intro T101 h101 a101 g101 X101 e101 E101 A101 D101
  have r102 : n0 ≤ a101 := Nat.le_trans Z0 (Nat.le_of_eq g101.symm)
  have y102 : h0.size ≤ a101 := Nat.le_trans (Keep.refl h0 []).1 (Nat.le_of_eq g101.symm)
  have F103 : Fld Z h101 a101 "com/example/batchline/batchline/sim/Picker" "number" "I" (.int (0 : Int32)) := D101 (Or.inr (word hw 16 rfl)) (ty := .int) (by decide)
  have F104 : Fld Z h101 a101 "com/example/batchline/batchline/sim/Picker" "free" "D" (.double (0 : UInt64)) := D101 (Or.inr (word hw 18 rfl)) (ty := .double) (by decide)
  have F105 : Fld Z h101 a101 "com/example/batchline/batchline/sim/Picker" "distance" "D" (.double (0 : UInt64)) := D101 (Or.inr (word hw 20 rfl)) (ty := .double) (by decide)
  have F106 : Fld Z h101 a101 "com/example/batchline/batchline/sim/Picker" "waitingSince" "D" (.double (0 : UInt64)) := D101 (Or.inr (word hw 22 rfl)) (ty := .double) (by decide)
  refine Go.dup X101.here hx (Jvm.hb hby d6_3) rfl (q := 4) rfl ?_
  refine Go.aloadN X101.here hx (Jvm.hb hby d6_4) rfl rfl (q := 5) rfl ?_
  have f108 := F1.ext E101
  refine Go.getf X101 hx hZ hown (word hw 15 rfl) e101 f108 (Jvm.hb hby d6_5) (q := 8) rfl ?_
  intro T107 X107 e107
  refine Go.aloadN X107.here hx (Jvm.hb hby d6_8) rfl rfl (q := 9) rfl ?_
  have f110 := F2.ext E101
  refine Go.getf X107 hx hZ hown (word hw 17 rfl) e107 f110 (Jvm.hb hby d6_9) (q := 12) rfl ?_
  intro T109 X109 e109
  refine Go.aloadN X109.here hx (Jvm.hb hby d6_12) rfl rfl (q := 13) rfl ?_
  have f112 := F3.ext E101
  refine Go.getf X109 hx hZ hown (word hw 19 rfl) e109 f112 (Jvm.hb hby d6_13) (q := 16) rfl ?_
  intro T111 X111 e111
  refine Go.ldc2D X111 hx hown (mvT hZ (word hw 38 rfl)) (Jvm.hb hby d6_16) (q := 19) rfl ?_
  have z114 : n0 ≤ h101.size := Nat.le_trans Z0 E101.1
  refine Go.special X111 hx hZ (y := (⟨"com/example/batchline/batchline/sim/Picker", "<init>", "(IDDD)V"⟩ : MethodName)) rfl hown (word hw 39 rfl) (word hw 5 rfl) (word hw 6 rfl) (word hw 3 rfl) (by decide) (rm_init4 l Z a0 hw a101 o1 o2 o3 (9221120237041090560 : UInt64) (.int (0 : Int32)) (.double (0 : UInt64)) (.double (0 : UInt64)) (.double (0 : UInt64)) h101 n0 z114 A101 F103 F104 F105 F106 r102) e111 (a := a101) (argsL := [(.int o1), (.double o2), (.double o3), (.double (9221120237041090560 : UInt64))]) (rest := [(.ref a101)]) (W := 1) (Jvm.hb hby d6_19) rfl rfl (lenOf (pd2) rfl) (by rw [hml]; rfl) (Nat.le_of_eq rfl) (by decide) (by decide) (by decide) (by decide) (q := 22) rfl ?_
  intro T113 L113 w113 X113 hQ113
  obtain ⟨rfl, M113, K113, P113_0, P113_1, P113_2, P113_3, P113_4⟩ := hQ113
  have N113 := Fr.app N0 M113
  show Go p e below _ (T113.setTop (mkF m 22 #[.val (.ref a1)] [(.ref a101)]))
  have k115 : Keep h0 h101 [] := (Keep.refl h0 []).ext E101
  have k116 : Keep h0 T113.heap [] := k115.trans K113 (allS (Or.inr y102) all0)
  refine Go.retA X113 hx hret hlk (Jvm.hb hby d6_22) rfl rfl rfl (by decide) (by decide) ?_
  exact ⟨a101, rfl, N113, k116, y102, P113_0, P113_4⟩
theorem d7_0 : decode prog_60_method_5_code 0 = .ok (.new 10, 3) := by decide +kernel
theorem d7_3 : decode prog_60_method_5_code 3 = .ok (.dup, 1) := by decide +kernel
theorem d7_4 : decode prog_60_method_5_code 4 = .ok (.aload_n 0, 1) := by decide +kernel
theorem d7_5 : decode prog_60_method_5_code 5 = .ok (.getfield 9, 3) := by decide +kernel
theorem d7_8 : decode prog_60_method_5_code 8 = .ok (.aload_n 0, 1) := by decide +kernel
theorem d7_9 : decode prog_60_method_5_code 9 = .ok (.getfield 15, 3) := by decide +kernel
theorem d7_12 : decode prog_60_method_5_code 12 = .ok (.aload_n 0, 1) := by decide +kernel
theorem d7_13 : decode prog_60_method_5_code 13 = .ok (.getfield 19, 3) := by decide +kernel
theorem d7_16 : decode prog_60_method_5_code 16 = .ok (.dload_n 1, 1) := by decide +kernel
theorem d7_17 : decode prog_60_method_5_code 17 = .ok (.invokespecial 27, 3) := by decide +kernel
theorem d7_20 : decode prog_60_method_5_code 20 = .ok (.areturn, 1) := by decide +kernel
set_option maxRecDepth 65536 in
set_option maxHeartbeats 40000000 in
theorem rm_start (l : Launch) (Z : State) (a0 : Array Value) (hw : ∀ d ∈ tables_1, d.before a0 Z = true) (a1 : Addr) (y : UInt64) (o1 : Int32) (o2 : UInt64) (o3 : UInt64) (h0 : Heap) (n0 : Nat) (Z0 : n0 ≤ h0.size) (F1 : Fld Z h0 a1 "com/example/batchline/batchline/sim/Picker" "number" "I" (.int o1)) (F2 : Fld Z h0 a1 "com/example/batchline/batchline/sim/Picker" "free" "D" (.double o2)) (F3 : Fld Z h0 a1 "com/example/batchline/batchline/sim/Picker" "distance" "D" (.double o3)) :
    Con l Z (⟨"com/example/batchline/batchline/sim/Picker", "startWaiting", "(D)Lcom/example/batchline/batchline/sim/Picker;"⟩ : MethodName) prog_60_method_5_code 3 (some (.object "com/example/batchline/batchline/sim/Picker")) ({ frames := 3, cells := 1, slots := 4, locals := 44 } : Room) #[(.ref a1), (.double y)] h0 (fun v h L => ∃ (b : Addr), v = some (.ref b) ∧ Fr n0 L ∧ Keep h0 h [] ∧ h0.size ≤ b ∧ Exa Z h b "com/example/batchline/batchline/sim/Picker" ∧ Fld Z h b "com/example/batchline/batchline/sim/Picker" "waitingSince" "D" (.double y)) := by
  refine enter (l := l) (Z := Z) (y := (⟨"com/example/batchline/batchline/sim/Picker", "startWaiting", "(D)Lcom/example/batchline/batchline/sim/Picker;"⟩ : MethodName)) (bytes := prog_60_method_5_code) (maxL := 3) (ret := (some (.object "com/example/batchline/batchline/sim/Picker"))) (ws := []) (rm := ({ frames := 3, cells := 1, slots := 4, locals := 44 } : Room)) (as' := #[(.ref a1), (.double y)]) (h0 := h0) (Qv := (fun v h L => ∃ (b : Addr), v = some (.ref b) ∧ Fr n0 L ∧ Keep h0 h [] ∧ h0.size ≤ b ∧ Exa Z h b "com/example/batchline/batchline/sim/Picker" ∧ Fld Z h b "com/example/batchline/batchline/sim/Picker" "waitingSince" "D" (.double y))) (kc := 1) (ks := 4) (by first | exact plainFor_of_name (by first | (simp [plainName, overriddenIn]; done) | decide +kernel) | decide +kernel) (Ls := #[.val (.ref a1), .val (.double y), .second]) (fun m => by first | (simp [entryFrame, mkF, argsToLocals, Value.category]; done) | rfl) ?_
  intro p e s m below meth c s₁ hx hby hml hown hnm hret hlk hZ X0 e0
  have hown : s.vm.findClass "com/example/batchline/batchline/sim/Picker" = some m.cls := hown
  have hml : c.maxLocals = 3 := hml
  have N0 := Fr.nil n0
  refine Go.new X0 hx hZ hown (word hw 37 rfl) (word hw 2 rfl) (word hw 3 rfl) e0 (Jvm.hb hby d7_0) (by decide) (by decide) (q := 3) rfl ?_
  intro T101 h101 a101 g101 X101 e101 E101 A101 D101
  have r102 : n0 ≤ a101 := Nat.le_trans Z0 (Nat.le_of_eq g101.symm)
  have y102 : h0.size ≤ a101 := Nat.le_trans (Keep.refl h0 []).1 (Nat.le_of_eq g101.symm)
  have F103 : Fld Z h101 a101 "com/example/batchline/batchline/sim/Picker" "number" "I" (.int (0 : Int32)) := D101 (Or.inr (word hw 16 rfl)) (ty := .int) (by decide)
  have F104 : Fld Z h101 a101 "com/example/batchline/batchline/sim/Picker" "free" "D" (.double (0 : UInt64)) := D101 (Or.inr (word hw 18 rfl)) (ty := .double) (by decide)
  have F105 : Fld Z h101 a101 "com/example/batchline/batchline/sim/Picker" "distance" "D" (.double (0 : UInt64)) := D101 (Or.inr (word hw 20 rfl)) (ty := .double) (by decide)
  have F106 : Fld Z h101 a101 "com/example/batchline/batchline/sim/Picker" "waitingSince" "D" (.double (0 : UInt64)) := D101 (Or.inr (word hw 22 rfl)) (ty := .double) (by decide)
  refine Go.dup X101.here hx (Jvm.hb hby d7_3) rfl (q := 4) rfl ?_
  refine Go.aloadN X101.here hx (Jvm.hb hby d7_4) rfl rfl (q := 5) rfl ?_
  have f108 := F1.ext E101
  refine Go.getf X101 hx hZ hown (word hw 15 rfl) e101 f108 (Jvm.hb hby d7_5) (q := 8) rfl ?_
  intro T107 X107 e107
  refine Go.aloadN X107.here hx (Jvm.hb hby d7_8) rfl rfl (q := 9) rfl ?_
  have f110 := F2.ext E101
  refine Go.getf X107 hx hZ hown (word hw 17 rfl) e107 f110 (Jvm.hb hby d7_9) (q := 12) rfl ?_
  intro T109 X109 e109
  refine Go.aloadN X109.here hx (Jvm.hb hby d7_12) rfl rfl (q := 13) rfl ?_
  have f112 := F3.ext E101
  refine Go.getf X109 hx hZ hown (word hw 19 rfl) e109 f112 (Jvm.hb hby d7_13) (q := 16) rfl ?_
  intro T111 X111 e111
  refine Go.dloadN X111.here hx (Jvm.hb hby d7_16) rfl (q := 17) rfl ?_
  have z114 : n0 ≤ h101.size := Nat.le_trans Z0 E101.1
  refine Go.special X111 hx hZ (y := (⟨"com/example/batchline/batchline/sim/Picker", "<init>", "(IDDD)V"⟩ : MethodName)) rfl hown (word hw 39 rfl) (word hw 5 rfl) (word hw 6 rfl) (word hw 3 rfl) (by decide) (rm_init4 l Z a0 hw a101 o1 o2 o3 y (.int (0 : Int32)) (.double (0 : UInt64)) (.double (0 : UInt64)) (.double (0 : UInt64)) h101 n0 z114 A101 F103 F104 F105 F106 r102) e111 (a := a101) (argsL := [(.int o1), (.double o2), (.double o3), (.double y)]) (rest := [(.ref a101)]) (W := 1) (Jvm.hb hby d7_17) rfl rfl (lenOf (pd2) rfl) (by rw [hml]; rfl) (Nat.le_of_eq rfl) (by decide) (by decide) (by decide) (by decide) (q := 20) rfl ?_
  intro T113 L113 w113 X113 hQ113
  obtain ⟨rfl, M113, K113, P113_0, P113_1, P113_2, P113_3, P113_4⟩ := hQ113
  have N113 := Fr.app N0 M113
  show Go p e below _ (T113.setTop (mkF m 20 #[.val (.ref a1), .val (.double y), .second] [(.ref a101)]))
  have k115 : Keep h0 h101 [] := (Keep.refl h0 []).ext E101
  have k116 : Keep h0 T113.heap [] := k115.trans K113 (allS (Or.inr y102) all0)
  refine Go.retA X113 hx hret hlk (Jvm.hb hby d7_20) rfl rfl rfl (by decide) (by decide) ?_
  exact ⟨a101, rfl, N113, k116, y102, P113_0, P113_4⟩
theorem d8_0 : decode prog_60_method_1_code 0 = .ok (.aload_n 0, 1) := by decide +kernel
theorem d8_1 : decode prog_60_method_1_code 1 = .ok (.iload_n 1, 1) := by decide +kernel
theorem d8_2 : decode prog_60_method_1_code 2 = .ok (.dconst 0, 1) := by decide +kernel
theorem d8_3 : decode prog_60_method_1_code 3 = .ok (.dconst 0, 1) := by decide +kernel
theorem d8_4 : decode prog_60_method_1_code 4 = .ok (.ldc2_w 25, 3) := by decide +kernel
theorem d8_7 : decode prog_60_method_1_code 7 = .ok (.invokespecial 27, 3) := by decide +kernel
theorem d8_10 : decode prog_60_method_1_code 10 = .ok (.return_, 1) := by decide +kernel
set_option maxRecDepth 65536 in
set_option maxHeartbeats 40000000 in
theorem rm_init1 (l : Launch) (Z : State) (a0 : Array Value) (hw : ∀ d ∈ tables_1, d.before a0 Z = true) (a1 : Addr) (q2 : Int32) (o1 : Value) (o2 : Value) (o3 : Value) (o4 : Value) (h0 : Heap) (n0 : Nat) (Z0 : n0 ≤ h0.size) (E1 : Exa Z h0 a1 "com/example/batchline/batchline/sim/Picker") (F1 : Fld Z h0 a1 "com/example/batchline/batchline/sim/Picker" "number" "I" o1) (F2 : Fld Z h0 a1 "com/example/batchline/batchline/sim/Picker" "free" "D" o2) (F3 : Fld Z h0 a1 "com/example/batchline/batchline/sim/Picker" "distance" "D" o3) (F4 : Fld Z h0 a1 "com/example/batchline/batchline/sim/Picker" "waitingSince" "D" o4) (g1 : n0 ≤ a1) :
    Con l Z (⟨"com/example/batchline/batchline/sim/Picker", "<init>", "(I)V"⟩ : MethodName) prog_60_method_1_code 2 none ({ frames := 3, cells := 0, slots := 0, locals := 43 } : Room) #[(.ref a1), (.int q2)] h0 (fun v h L => v = none ∧ Fr n0 L ∧ Keep h0 h [a1] ∧ Exa Z h a1 "com/example/batchline/batchline/sim/Picker" ∧ Fld Z h a1 "com/example/batchline/batchline/sim/Picker" "waitingSince" "D" (.double (9221120237041090560 : UInt64))) := by
  refine enter (l := l) (Z := Z) (y := (⟨"com/example/batchline/batchline/sim/Picker", "<init>", "(I)V"⟩ : MethodName)) (bytes := prog_60_method_1_code) (maxL := 2) (ret := none) (ws := []) (rm := ({ frames := 3, cells := 0, slots := 0, locals := 43 } : Room)) (as' := #[(.ref a1), (.int q2)]) (h0 := h0) (Qv := (fun v h L => v = none ∧ Fr n0 L ∧ Keep h0 h [a1] ∧ Exa Z h a1 "com/example/batchline/batchline/sim/Picker" ∧ Fld Z h a1 "com/example/batchline/batchline/sim/Picker" "waitingSince" "D" (.double (9221120237041090560 : UInt64)))) (kc := 0) (ks := 0) (by first | exact plainFor_of_name (by first | (simp [plainName, overriddenIn]; done) | decide +kernel) | decide +kernel) (Ls := #[.val (.ref a1), .val (.int q2)]) (fun m => by first | (simp [entryFrame, mkF, argsToLocals, Value.category]; done) | rfl) ?_
  intro p e s m below meth c s₁ hx hby hml hown hnm hret hlk hZ X0 e0
  have hown : s.vm.findClass "com/example/batchline/batchline/sim/Picker" = some m.cls := hown
  have hml : c.maxLocals = 2 := hml
  have N0 := Fr.nil n0
  refine Go.aloadN X0.here hx (Jvm.hb hby d8_0) rfl rfl (q := 1) rfl ?_
  refine Go.iloadN X0.here hx (Jvm.hb hby d8_1) rfl (q := 2) rfl ?_
  refine Go.dconst0 X0.here hx (Jvm.hb hby d8_2) (v := (0 : UInt64)) rfl (q := 3) rfl ?_
  refine Go.dconst0 X0.here hx (Jvm.hb hby d8_3) (v := (0 : UInt64)) rfl (q := 4) rfl ?_
  refine Go.ldc2D X0 hx hown (mvT hZ (word hw 38 rfl)) (Jvm.hb hby d8_4) (q := 7) rfl ?_
  refine Go.special X0 hx hZ (y := (⟨"com/example/batchline/batchline/sim/Picker", "<init>", "(IDDD)V"⟩ : MethodName)) rfl hown (word hw 39 rfl) (word hw 5 rfl) (word hw 6 rfl) (word hw 3 rfl) (by decide) (rm_init4 l Z a0 hw a1 q2 (0 : UInt64) (0 : UInt64) (9221120237041090560 : UInt64) o1 o2 o3 o4 h0 n0 Z0 E1 F1 F2 F3 F4 g1) e0 (a := a1) (argsL := [(.int q2), (.double (0 : UInt64)), (.double (0 : UInt64)), (.double (9221120237041090560 : UInt64))]) (rest := []) (W := 0) (Jvm.hb hby d8_7) rfl rfl (lenOf (pd2) rfl) (by rw [hml]; rfl) (Nat.le_of_eq rfl) (by decide) (by decide) (by decide) (by decide) (q := 10) rfl ?_
  intro T101 L101 w101 X101 hQ101
  obtain ⟨rfl, M101, K101, P101_0, P101_1, P101_2, P101_3, P101_4⟩ := hQ101
  have N101 := Fr.app N0 M101
  show Go p e below _ (T101.setTop (mkF m 10 #[.val (.ref a1), .val (.int q2)] []))
  have k102 : Keep h0 T101.heap [a1] := (Keep.refl h0 [a1]).trans K101 (allS (Or.inl (List.mem_of_getElem? (i := 0) rfl)) all0)
  refine Go.retV X101 hx hret hlk (Jvm.hb hby d8_10) (by decide) (by decide) ?_
  exact ⟨rfl, N101, k102, P101_0, P101_4⟩
set_option maxRecDepth 65536 in
set_option maxHeartbeats 40000000 in
theorem rm_law (l : Launch) (Z : State) (a0 : Array Value) (hw : ∀ d ∈ tables_1, d.before a0 Z = true) (ws : List Jvm.Cond) (q1 : Int32) (q2 : Int64) (q3 : Int64) (q4 : Int64) (q5 : Int32) (h0 : Heap) (n0 : Nat) (Z0 : n0 ≤ h0.size)  :
    MetFree l x (head1 (Jvm.Cond.code x code maxLocals ret :: ws) room_1) (fun a U => a = #[(.int q1), (.long q2), (.long q3), (.long q4), (.int q5)] ∧ Z.Warmed39 U.vm ∧ U.heap = h0) (fun _ _ _ _ _ => True) (fun _ U o U' => ∃ v L, o = .returned v ∧ (fun v h L => v = some (.int (1 : Int32)) ∧ Fr n0 L) v U'.heap L ∧ FrameEnd U o U' L 16 128) := by
  refine enter (l := l) (Z := Z) (y := x) (bytes := code) (maxL := maxLocals) (ret := ret) (ws := ws) (rm := room_1) (as' := #[(.int q1), (.long q2), (.long q3), (.long q4), (.int q5)]) (h0 := h0) (Qv := (fun v h L => v = some (.int (1 : Int32)) ∧ Fr n0 L)) (kc := 16) (ks := 128) (by first | exact plainFor_of_name (by first | (simp [plainName, overriddenIn]; done) | decide +kernel) | decide +kernel) (Ls := #[.val (.int q1), .val (.long q2), .second, .val (.long q3), .second, .val (.long q4), .second, .val (.int q5), .unset, .unset, .unset, .unset, .unset, .unset, .unset, .unset]) (fun m => by first | (simp [entryFrame, mkF, argsToLocals, Value.category, maxLocals]; done) | rfl) ?_
  intro p e s m below meth c s₁ hx hby hml hown hnm hret hlk hZ X0 e0
  have hown : s.vm.findClass "com/example/batchline/batchline/sim/PickerWaitingPinLaw" = some m.cls := hown
  have hml : c.maxLocals = 16 := hml
  have N0 := Fr.nil n0
  refine Go.iload X0.here hx (Jvm.hb hby at_0) rfl (q := 2) rfl ?_
  refine Go.iconst X0.here hx (Jvm.hb hby at_2) (v := (3 : Int32)) rfl (q := 3) rfl ?_
  obtain ⟨u3, hu3⟩ : ∃ zq, q5 &&& (3 : Int32) = zq := ⟨_, rfl⟩
  refine Go.iand X0.here hx (Jvm.hb hby at_3) hu3 (q := 4) rfl ?_
  refine Go.istore X0.here hx (Jvm.hb hby at_4) (l2 := #[.val (.int q1), .val (.long q2), .second, .val (.long q3), .second, .val (.long q4), .second, .val (.int q5), .val (.int u3), .unset, .unset, .unset, .unset, .unset, .unset, .unset]) rfl (q := 6) rfl ?_
  refine Go.lload X0.here hx (Jvm.hb hby at_6) rfl (q := 8) rfl ?_
  obtain ⟨tt, htt⟩ : ∃ zq, FP.l2d q4 = zq := ⟨_, rfl⟩
  refine Go.l2d X0.here hx (Jvm.hb hby at_8) htt (q := 9) rfl ?_
  refine Go.dstore X0.here hx (Jvm.hb hby at_9) (l2 := #[.val (.int q1), .val (.long q2), .second, .val (.long q3), .second, .val (.long q4), .second, .val (.int q5), .val (.int u3), .val (.double tt), .second, .unset, .unset, .unset, .unset, .unset]) rfl (q := 11) rfl ?_
  refine Go.iload X0.here hx (Jvm.hb hby at_11) rfl (q := 13) rfl ?_
  have J71 : ∀ (wv : UInt64) (ex : Int32), (own_wait wv = ex) → Go p e below (Ret s (fun v h L => v = some (.int (1 : Int32)) ∧ Fr n0 L) 16 128) (s₁.setTop (mkF m 71 #[.val (.int q1), .val (.long q2), .second, .val (.long q3), .second, .val (.long q4), .second, .val (.int q5), .val (.int u3), .val (.double tt), .second, .val (.double wv), .second, .val (.int ex), .unset, .unset] [])) := by
    intro wv ex hj
    refine Go.new X0 hx hZ hown (word hw 1 rfl) (word hw 2 rfl) (word hw 3 rfl) e0 (Jvm.hb hby at_71) (by decide) (by decide) (q := 74) rfl ?_
    intro T101 h101 a101 g101 X101 e101 E101 A101 D101
    have r102 : n0 ≤ a101 := Nat.le_trans Z0 (Nat.le_of_eq g101.symm)
    have F103 : Fld Z h101 a101 "com/example/batchline/batchline/sim/Picker" "number" "I" (.int (0 : Int32)) := D101 (Or.inr (word hw 16 rfl)) (ty := .int) (by decide)
    have F104 : Fld Z h101 a101 "com/example/batchline/batchline/sim/Picker" "free" "D" (.double (0 : UInt64)) := D101 (Or.inr (word hw 18 rfl)) (ty := .double) (by decide)
    have F105 : Fld Z h101 a101 "com/example/batchline/batchline/sim/Picker" "distance" "D" (.double (0 : UInt64)) := D101 (Or.inr (word hw 20 rfl)) (ty := .double) (by decide)
    have F106 : Fld Z h101 a101 "com/example/batchline/batchline/sim/Picker" "waitingSince" "D" (.double (0 : UInt64)) := D101 (Or.inr (word hw 22 rfl)) (ty := .double) (by decide)
    refine Go.dup X101.here hx (Jvm.hb hby at_74) rfl (q := 75) rfl ?_
    refine Go.iloadN X101.here hx (Jvm.hb hby at_75) rfl (q := 76) rfl ?_
    refine Go.lloadN X101.here hx (Jvm.hb hby at_76) rfl (q := 77) rfl ?_
    obtain ⟨u77, hu77⟩ : ∃ zq, FP.l2d q2 = zq := ⟨_, rfl⟩
    refine Go.l2d X101.here hx (Jvm.hb hby at_77) hu77 (q := 78) rfl ?_
    refine Go.lloadN X101.here hx (Jvm.hb hby at_78) rfl (q := 79) rfl ?_
    obtain ⟨u79, hu79⟩ : ∃ zq, FP.l2d q3 = zq := ⟨_, rfl⟩
    refine Go.l2d X101.here hx (Jvm.hb hby at_79) hu79 (q := 80) rfl ?_
    refine Go.dload X101.here hx (Jvm.hb hby at_80) rfl (q := 82) rfl ?_
    have z108 : n0 ≤ h101.size := Nat.le_trans Z0 E101.1
    refine Go.special X101 hx hZ (y := (⟨"com/example/batchline/batchline/sim/Picker", "<init>", "(IDDD)V"⟩ : MethodName)) rfl hown (word hw 4 rfl) (word hw 5 rfl) (word hw 6 rfl) (word hw 3 rfl) (by decide) (rm_init4 l Z a0 hw a101 q1 u77 u79 wv (.int (0 : Int32)) (.double (0 : UInt64)) (.double (0 : UInt64)) (.double (0 : UInt64)) h101 n0 z108 A101 F103 F104 F105 F106 r102) e101 (a := a101) (argsL := [(.int q1), (.double u77), (.double u79), (.double wv)]) (rest := [(.ref a101)]) (W := 1) (Jvm.hb hby at_82) rfl rfl (lenOf (pd2) rfl) (by rw [hml]; rfl) (Nat.le_of_eq rfl) (by decide) (by decide) (by decide) (by decide) (q := 85) rfl ?_
    intro T107 L107 w107 X107 hQ107
    obtain ⟨rfl, M107, K107, P107_0, P107_1, P107_2, P107_3, P107_4⟩ := hQ107
    have N107 := Fr.app N0 M107
    show Go p e below _ (T107.setTop (mkF m 85 #[.val (.int q1), .val (.long q2), .second, .val (.long q3), .second, .val (.long q4), .second, .val (.int q5), .val (.int u3), .val (.double tt), .second, .val (.double wv), .second, .val (.int ex), .unset, .unset] [(.ref a101)]))
    refine Go.astore X107.here hx (Jvm.hb hby at_85) rfl (l2 := #[.val (.int q1), .val (.long q2), .second, .val (.long q3), .second, .val (.long q4), .second, .val (.int q5), .val (.int u3), .val (.double tt), .second, .val (.double wv), .second, .val (.int ex), .val (.ref a101), .unset]) rfl (q := 87) rfl ?_
    refine Go.aload X107.here hx (Jvm.hb hby at_87) rfl rfl (q := 89) rfl ?_
    have z110 : n0 ≤ T107.heap.size := Nat.le_trans z108 K107.1
    refine Go.virtual X107 hx hZ (y := (⟨"com/example/batchline/batchline/sim/Picker", "waiting", "()Z"⟩ : MethodName)) hown (word hw 23 rfl) (word hw 24 rfl) (word hw 26 rfl) (word hw 25 rfl) (word hw 27 rfl) (word hw 3 rfl) (by decide) (rm_wait l Z a0 hw a101 wv T107.heap n0 z110 P107_4) rfl P107_0  (argsL := []) (rest := []) (W := 0) (Jvm.hb hby at_89) rfl rfl (lenOf (pd3) rfl) (by rw [hml]; rfl) (Nat.le_of_eq rfl) (by decide) (by decide) (by decide) (by decide) (q := 92) rfl ?_
    intro T109 L109 w109 X109 hQ109
    obtain ⟨rfl, M109, q109⟩ := hQ109
    have N109 := Fr.app N107 M109
    show Go p e below _ (T109.setTop (mkF m 92 #[.val (.int q1), .val (.long q2), .second, .val (.long q3), .second, .val (.long q4), .second, .val (.int q5), .val (.int u3), .val (.double tt), .second, .val (.double wv), .second, .val (.int ex), .val (.ref a101), .unset] [(.int (own_wait wv))]))
    obtain ⟨wa, hwa⟩ : ∃ zq, (own_wait wv) = zq := ⟨_, rfl⟩
    rw [hwa]
    refine Go.iload X109.here hx (Jvm.hb hby at_92) rfl (q := 94) rfl ?_
    have hc94 : wa = ex := hwa.symm.trans hj
    refine Go.icmpN X109.here hx (Jvm.hb hby at_94) (teq hc94).2 (q := 97) rfl ?_
    refine Go.iconst X109.here hx (Jvm.hb hby at_97) (v := (1 : Int32)) rfl (q := 98) rfl ?_
    refine Go.goto X109.here hx (Jvm.hb hby at_98) (by decide) (q := 102) rfl ?_
    refine Go.istore X109.here hx (Jvm.hb hby at_102) (l2 := #[.val (.int q1), .val (.long q2), .second, .val (.long q3), .second, .val (.long q4), .second, .val (.int q5), .val (.int u3), .val (.double tt), .second, .val (.double wv), .second, .val (.int ex), .val (.ref a101), .val (.int (1 : Int32))]) rfl (q := 104) rfl ?_
    refine Go.iload X109.here hx (Jvm.hb hby at_104) rfl (q := 106) rfl ?_
    have hc106_113 : ¬ ((1 : Int32) = (0 : Int32)) := by decide
    refine Go.ifN X109.here hx (Jvm.hb hby at_106) ((if0 _ _).trans (feq hc106_113).1) (q := 109) rfl ?_
    refine Go.aload X109.here hx (Jvm.hb hby at_109) rfl rfl (q := 111) rfl ?_
    refine Go.virtual X109 hx hZ (y := (⟨"com/example/batchline/batchline/sim/Picker", "stopWaiting", "()Lcom/example/batchline/batchline/sim/Picker;"⟩ : MethodName)) hown (word hw 32 rfl) (word hw 33 rfl) (word hw 35 rfl) (word hw 34 rfl) (word hw 36 rfl) (word hw 3 rfl) (by decide) (rm_stop l Z a0 hw a101 q1 u77 u79 T107.heap n0 z110 P107_1 P107_2 P107_3) q109 P107_0  (argsL := []) (rest := []) (W := 0) (Jvm.hb hby at_111) rfl rfl (lenOf (pd4) rfl) (by rw [hml]; rfl) (Nat.le_of_eq rfl) (by decide) (by decide) (by decide) (by decide) (q := 114) rfl ?_
    intro T114 L114 w114 X114 hQ114
    obtain ⟨a114, rfl, M114, K114, G114_0, P114_0, P114_1⟩ := hQ114
    have N114 := Fr.app N109 M114
    have r115 : n0 ≤ a114 := Nat.le_trans z110 (G114_0)
    show Go p e below _ (T114.setTop (mkF m 114 #[.val (.int q1), .val (.long q2), .second, .val (.long q3), .second, .val (.long q4), .second, .val (.int q5), .val (.int u3), .val (.double tt), .second, .val (.double wv), .second, .val (.int ex), .val (.ref a101), .val (.int (1 : Int32))] [(.ref a114)]))
    have z117 : n0 ≤ T114.heap.size := Nat.le_trans z110 K114.1
    refine Go.virtual X114 hx hZ (y := (⟨"com/example/batchline/batchline/sim/Picker", "waiting", "()Z"⟩ : MethodName)) hown (word hw 23 rfl) (word hw 24 rfl) (word hw 26 rfl) (word hw 25 rfl) (word hw 27 rfl) (word hw 3 rfl) (by decide) (rm_wait l Z a0 hw a114 (9221120237041090560 : UInt64) T114.heap n0 z117 P114_1) rfl P114_0  (argsL := []) (rest := []) (W := 0) (Jvm.hb hby at_114) rfl rfl (lenOf (pd3) rfl) (by rw [hml]; rfl) (Nat.le_of_eq rfl) (by decide) (by decide) (by decide) (by decide) (q := 117) rfl ?_
    intro T116 L116 w116 X116 hQ116
    obtain ⟨rfl, M116, q116⟩ := hQ116
    have N116 := Fr.app N114 M116
    show Go p e below _ (T116.setTop (mkF m 117 #[.val (.int q1), .val (.long q2), .second, .val (.long q3), .second, .val (.long q4), .second, .val (.int q5), .val (.int u3), .val (.double tt), .second, .val (.double wv), .second, .val (.int ex), .val (.ref a101), .val (.int (1 : Int32))] [(.int (own_wait (9221120237041090560 : UInt64)))]))
    obtain ⟨wb, hwb⟩ : ∃ zq, (own_wait (9221120237041090560 : UInt64)) = zq := ⟨_, rfl⟩
    rw [hwb]
    have hc117 : wb = (0 : Int32) := by rw [← hwb]; exact own_wait_nan
    refine Go.ifN X116.here hx (Jvm.hb hby at_117) ((if0 _ _).trans (teq hc117).2) (q := 120) rfl ?_
    refine Go.iconst X116.here hx (Jvm.hb hby at_120) (v := (1 : Int32)) rfl (q := 121) rfl ?_
    refine Go.goto X116.here hx (Jvm.hb hby at_121) (by decide) (q := 125) rfl ?_
    refine Go.istore X116.here hx (Jvm.hb hby at_125) (l2 := #[.val (.int q1), .val (.long q2), .second, .val (.long q3), .second, .val (.long q4), .second, .val (.int q5), .val (.int u3), .val (.double tt), .second, .val (.double wv), .second, .val (.int ex), .val (.ref a101), .val (.int (1 : Int32))]) rfl (q := 127) rfl ?_
    refine Go.iload X116.here hx (Jvm.hb hby at_127) rfl (q := 129) rfl ?_
    have hc129_120 : ¬ ((1 : Int32) = (0 : Int32)) := by decide
    refine Go.ifN X116.here hx (Jvm.hb hby at_129) ((if0 _ _).trans (feq hc129_120).1) (q := 132) rfl ?_
    refine Go.aload X116.here hx (Jvm.hb hby at_132) rfl rfl (q := 134) rfl ?_
    refine Go.dload X116.here hx (Jvm.hb hby at_134) rfl (q := 136) rfl ?_
    have f122 := P107_1.keep K114 (by simp)
    have f123 := P107_2.keep K114 (by simp)
    have f124 := P107_3.keep K114 (by simp)
    have f125 := P107_0.keep K114
    refine Go.virtual X116 hx hZ (y := (⟨"com/example/batchline/batchline/sim/Picker", "startWaiting", "(D)Lcom/example/batchline/batchline/sim/Picker;"⟩ : MethodName)) hown (word hw 40 rfl) (word hw 41 rfl) (word hw 43 rfl) (word hw 42 rfl) (word hw 44 rfl) (word hw 3 rfl) (by decide) (rm_start l Z a0 hw a101 tt q1 u77 u79 T114.heap n0 z117 f122 f123 f124) q116 f125  (argsL := [(.double tt)]) (rest := []) (W := 0) (Jvm.hb hby at_136) rfl rfl (lenOf (pd5) rfl) (by rw [hml]; rfl) (Nat.le_of_eq rfl) (by decide) (by decide) (by decide) (by decide) (q := 139) rfl ?_
    intro T121 L121 w121 X121 hQ121
    obtain ⟨a121, rfl, M121, K121, G121_0, P121_0, P121_1⟩ := hQ121
    have N121 := Fr.app N116 M121
    have r126 : n0 ≤ a121 := Nat.le_trans z117 (G121_0)
    show Go p e below _ (T121.setTop (mkF m 139 #[.val (.int q1), .val (.long q2), .second, .val (.long q3), .second, .val (.long q4), .second, .val (.int q5), .val (.int u3), .val (.double tt), .second, .val (.double wv), .second, .val (.int ex), .val (.ref a101), .val (.int (1 : Int32))] [(.ref a121)]))
    have z128 : n0 ≤ T121.heap.size := Nat.le_trans z117 K121.1
    refine Go.virtual X121 hx hZ (y := (⟨"com/example/batchline/batchline/sim/Picker", "waiting", "()Z"⟩ : MethodName)) hown (word hw 23 rfl) (word hw 24 rfl) (word hw 26 rfl) (word hw 25 rfl) (word hw 27 rfl) (word hw 3 rfl) (by decide) (rm_wait l Z a0 hw a121 tt T121.heap n0 z128 P121_1) rfl P121_0  (argsL := []) (rest := []) (W := 0) (Jvm.hb hby at_139) rfl rfl (lenOf (pd3) rfl) (by rw [hml]; rfl) (Nat.le_of_eq rfl) (by decide) (by decide) (by decide) (by decide) (q := 142) rfl ?_
    intro T127 L127 w127 X127 hQ127
    obtain ⟨rfl, M127, q127⟩ := hQ127
    have N127 := Fr.app N121 M127
    show Go p e below _ (T127.setTop (mkF m 142 #[.val (.int q1), .val (.long q2), .second, .val (.long q3), .second, .val (.long q4), .second, .val (.int q5), .val (.int u3), .val (.double tt), .second, .val (.double wv), .second, .val (.int ex), .val (.ref a101), .val (.int (1 : Int32))] [(.int (own_wait tt))]))
    obtain ⟨wc, hwc⟩ : ∃ zq, (own_wait tt) = zq := ⟨_, rfl⟩
    rw [hwc]
    have hc142 : ¬ (wc = (0 : Int32)) := by rw [← hwc, own_wait_nn (htt ▸ (nn_of (l2d_dfin q4)))]; decide
    refine Go.ifN X127.here hx (Jvm.hb hby at_142) ((if0 _ _).trans (feq hc142).1) (q := 145) rfl ?_
    refine Go.iconst X127.here hx (Jvm.hb hby at_145) (v := (1 : Int32)) rfl (q := 146) rfl ?_
    refine Go.goto X127.here hx (Jvm.hb hby at_146) (by decide) (q := 150) rfl ?_
    refine Go.istore X127.here hx (Jvm.hb hby at_150) (l2 := #[.val (.int q1), .val (.long q2), .second, .val (.long q3), .second, .val (.long q4), .second, .val (.int q5), .val (.int u3), .val (.double tt), .second, .val (.double wv), .second, .val (.int ex), .val (.ref a101), .val (.int (1 : Int32))]) rfl (q := 152) rfl ?_
    refine Go.iload X127.here hx (Jvm.hb hby at_152) rfl (q := 154) rfl ?_
    have hc154_131 : ¬ ((1 : Int32) = (0 : Int32)) := by decide
    refine Go.ifN X127.here hx (Jvm.hb hby at_154) ((if0 _ _).trans (feq hc154_131).1) (q := 157) rfl ?_
    refine Go.new X127 hx hZ hown (word hw 1 rfl) (word hw 2 rfl) (word hw 3 rfl) q127 (Jvm.hb hby at_157) (by decide) (by decide) (q := 160) rfl ?_
    intro T132 h132 a132 g132 X132 e132 E132 A132 D132
    have r133 : n0 ≤ a132 := Nat.le_trans z128 (Nat.le_of_eq g132.symm)
    have F134 : Fld Z h132 a132 "com/example/batchline/batchline/sim/Picker" "number" "I" (.int (0 : Int32)) := D132 (Or.inr (word hw 16 rfl)) (ty := .int) (by decide)
    have F135 : Fld Z h132 a132 "com/example/batchline/batchline/sim/Picker" "free" "D" (.double (0 : UInt64)) := D132 (Or.inr (word hw 18 rfl)) (ty := .double) (by decide)
    have F136 : Fld Z h132 a132 "com/example/batchline/batchline/sim/Picker" "distance" "D" (.double (0 : UInt64)) := D132 (Or.inr (word hw 20 rfl)) (ty := .double) (by decide)
    have F137 : Fld Z h132 a132 "com/example/batchline/batchline/sim/Picker" "waitingSince" "D" (.double (0 : UInt64)) := D132 (Or.inr (word hw 22 rfl)) (ty := .double) (by decide)
    refine Go.dup X132.here hx (Jvm.hb hby at_160) rfl (q := 161) rfl ?_
    refine Go.iloadN X132.here hx (Jvm.hb hby at_161) rfl (q := 162) rfl ?_
    have z139 : n0 ≤ h132.size := Nat.le_trans z128 E132.1
    refine Go.special X132 hx hZ (y := (⟨"com/example/batchline/batchline/sim/Picker", "<init>", "(I)V"⟩ : MethodName)) rfl hown (word hw 45 rfl) (word hw 46 rfl) (word hw 47 rfl) (word hw 3 rfl) (by decide) (rm_init1 l Z a0 hw a132 q1 (.int (0 : Int32)) (.double (0 : UInt64)) (.double (0 : UInt64)) (.double (0 : UInt64)) h132 n0 z139 A132 F134 F135 F136 F137 r133) e132 (a := a132) (argsL := [(.int q1)]) (rest := [(.ref a132)]) (W := 1) (Jvm.hb hby at_162) rfl rfl (lenOf (pd6) rfl) (by rw [hml]; rfl) (Nat.le_of_eq rfl) (by decide) (by decide) (by decide) (by decide) (q := 165) rfl ?_
    intro T138 L138 w138 X138 hQ138
    obtain ⟨rfl, M138, K138, P138_0, P138_1⟩ := hQ138
    have N138 := Fr.app N127 M138
    show Go p e below _ (T138.setTop (mkF m 165 #[.val (.int q1), .val (.long q2), .second, .val (.long q3), .second, .val (.long q4), .second, .val (.int q5), .val (.int u3), .val (.double tt), .second, .val (.double wv), .second, .val (.int ex), .val (.ref a101), .val (.int (1 : Int32))] [(.ref a132)]))
    have z141 : n0 ≤ T138.heap.size := Nat.le_trans z139 K138.1
    refine Go.virtual X138 hx hZ (y := (⟨"com/example/batchline/batchline/sim/Picker", "waiting", "()Z"⟩ : MethodName)) hown (word hw 23 rfl) (word hw 24 rfl) (word hw 26 rfl) (word hw 25 rfl) (word hw 27 rfl) (word hw 3 rfl) (by decide) (rm_wait l Z a0 hw a132 (9221120237041090560 : UInt64) T138.heap n0 z141 P138_1) rfl P138_0  (argsL := []) (rest := []) (W := 0) (Jvm.hb hby at_165) rfl rfl (lenOf (pd3) rfl) (by rw [hml]; rfl) (Nat.le_of_eq rfl) (by decide) (by decide) (by decide) (by decide) (q := 168) rfl ?_
    intro T140 L140 w140 X140 hQ140
    obtain ⟨rfl, M140, q140⟩ := hQ140
    have N140 := Fr.app N138 M140
    show Go p e below _ (T140.setTop (mkF m 168 #[.val (.int q1), .val (.long q2), .second, .val (.long q3), .second, .val (.long q4), .second, .val (.int q5), .val (.int u3), .val (.double tt), .second, .val (.double wv), .second, .val (.int ex), .val (.ref a101), .val (.int (1 : Int32))] [(.int (own_wait (9221120237041090560 : UInt64)))]))
    obtain ⟨wd, hwd⟩ : ∃ zq, (own_wait (9221120237041090560 : UInt64)) = zq := ⟨_, rfl⟩
    rw [hwd]
    have hc168 : wd = (0 : Int32) := by rw [← hwd]; exact own_wait_nan
    refine Go.ifN X140.here hx (Jvm.hb hby at_168) ((if0 _ _).trans (teq hc168).2) (q := 171) rfl ?_
    refine Go.iconst X140.here hx (Jvm.hb hby at_171) (v := (1 : Int32)) rfl (q := 172) rfl ?_
    refine Go.goto X140.here hx (Jvm.hb hby at_172) (by decide) (q := 176) rfl ?_
    refine Go.istore X140.here hx (Jvm.hb hby at_176) (l2 := #[.val (.int q1), .val (.long q2), .second, .val (.long q3), .second, .val (.long q4), .second, .val (.int q5), .val (.int u3), .val (.double tt), .second, .val (.double wv), .second, .val (.int ex), .val (.ref a101), .val (.int (1 : Int32))]) rfl (q := 178) rfl ?_
    refine Go.iload X140.here hx (Jvm.hb hby at_178) rfl (q := 180) rfl ?_
    refine Go.retZ X140 hx hret hlk (Jvm.hb hby at_180) (Or.inr rfl) (by decide) (by decide) ?_
    exact ⟨rfl, N140⟩
  by_cases hc13 : u3 = (0 : Int32)
  · -- pc 13: u3 = (0 : Int32)
    refine Go.ifN X0.here hx (Jvm.hb hby at_13) ((if0 _ _).trans (teq hc13).2) (q := 16) rfl ?_
    refine Go.dload X0.here hx (Jvm.hb hby at_16) rfl (q := 18) rfl ?_
    refine Go.dstore X0.here hx (Jvm.hb hby at_18) (l2 := #[.val (.int q1), .val (.long q2), .second, .val (.long q3), .second, .val (.long q4), .second, .val (.int q5), .val (.int u3), .val (.double tt), .second, .val (.double tt), .second, .unset, .unset, .unset]) rfl (q := 20) rfl ?_
    refine Go.iconst X0.here hx (Jvm.hb hby at_20) (v := (1 : Int32)) rfl (q := 21) rfl ?_
    refine Go.istore X0.here hx (Jvm.hb hby at_21) (l2 := #[.val (.int q1), .val (.long q2), .second, .val (.long q3), .second, .val (.long q4), .second, .val (.int q5), .val (.int u3), .val (.double tt), .second, .val (.double tt), .second, .val (.int (1 : Int32)), .unset, .unset]) rfl (q := 23) rfl ?_
    refine Go.goto X0.here hx (Jvm.hb hby at_23) (by decide) (q := 71) rfl ?_
    exact J71 tt (1 : Int32) (own_wait_nn (htt ▸ (nn_of (l2d_dfin q4))))
  · -- pc 13: not u3 = (0 : Int32)
    refine Go.ifY X0.here hx (Jvm.hb hby at_13) ((if0 _ _).trans (feq hc13).2) (by decide) (q := 26) rfl ?_
    refine Go.iload X0.here hx (Jvm.hb hby at_26) rfl (q := 28) rfl ?_
    refine Go.iconst X0.here hx (Jvm.hb hby at_28) (v := (1 : Int32)) rfl (q := 29) rfl ?_
    by_cases hc29 : u3 = (1 : Int32)
    · -- pc 29: u3 = (1 : Int32)
      refine Go.icmpN X0.here hx (Jvm.hb hby at_29) (teq hc29).2 (q := 32) rfl ?_
      refine Go.dload X0.here hx (Jvm.hb hby at_32) rfl (q := 34) rfl ?_
      obtain ⟨u34, hu34⟩ : ∃ zq, FP.dneg tt = zq := ⟨_, rfl⟩
      refine Go.dneg X0.here hx (Jvm.hb hby at_34) hu34 (q := 35) rfl ?_
      refine Go.dstore X0.here hx (Jvm.hb hby at_35) (l2 := #[.val (.int q1), .val (.long q2), .second, .val (.long q3), .second, .val (.long q4), .second, .val (.int q5), .val (.int u3), .val (.double tt), .second, .val (.double u34), .second, .unset, .unset, .unset]) rfl (q := 37) rfl ?_
      refine Go.iconst X0.here hx (Jvm.hb hby at_37) (v := (1 : Int32)) rfl (q := 38) rfl ?_
      refine Go.istore X0.here hx (Jvm.hb hby at_38) (l2 := #[.val (.int q1), .val (.long q2), .second, .val (.long q3), .second, .val (.long q4), .second, .val (.int q5), .val (.int u3), .val (.double tt), .second, .val (.double u34), .second, .val (.int (1 : Int32)), .unset, .unset]) rfl (q := 40) rfl ?_
      refine Go.goto X0.here hx (Jvm.hb hby at_40) (by decide) (q := 71) rfl ?_
      exact J71 u34 (1 : Int32) (own_wait_nn (hu34 ▸ (nn_of (neg_eq (htt ▸ l2d_dfin q4)).1)))
    · -- pc 29: not u3 = (1 : Int32)
      refine Go.icmpY X0.here hx (Jvm.hb hby at_29) (feq hc29).2 (by decide) (q := 43) rfl ?_
      refine Go.iload X0.here hx (Jvm.hb hby at_43) rfl (q := 45) rfl ?_
      refine Go.iconst X0.here hx (Jvm.hb hby at_45) (v := (2 : Int32)) rfl (q := 46) rfl ?_
      by_cases hc46 : u3 = (2 : Int32)
      · -- pc 46: u3 = (2 : Int32)
        refine Go.icmpN X0.here hx (Jvm.hb hby at_46) (teq hc46).2 (q := 49) rfl ?_
        refine Go.ldc2D X0 hx hown (mvT hZ (word hw 48 rfl)) (Jvm.hb hby at_49) (q := 52) rfl ?_
        refine Go.dstore X0.here hx (Jvm.hb hby at_52) (l2 := #[.val (.int q1), .val (.long q2), .second, .val (.long q3), .second, .val (.long q4), .second, .val (.int q5), .val (.int u3), .val (.double tt), .second, .val (.double (9221120237041090560 : UInt64)), .second, .unset, .unset, .unset]) rfl (q := 54) rfl ?_
        refine Go.iconst X0.here hx (Jvm.hb hby at_54) (v := (0 : Int32)) rfl (q := 55) rfl ?_
        refine Go.istore X0.here hx (Jvm.hb hby at_55) (l2 := #[.val (.int q1), .val (.long q2), .second, .val (.long q3), .second, .val (.long q4), .second, .val (.int q5), .val (.int u3), .val (.double tt), .second, .val (.double (9221120237041090560 : UInt64)), .second, .val (.int (0 : Int32)), .unset, .unset]) rfl (q := 57) rfl ?_
        refine Go.goto X0.here hx (Jvm.hb hby at_57) (by decide) (q := 71) rfl ?_
        exact J71 (9221120237041090560 : UInt64) (0 : Int32) own_wait_nan
      · -- pc 46: not u3 = (2 : Int32)
        refine Go.icmpY X0.here hx (Jvm.hb hby at_46) (feq hc46).2 (by decide) (q := 60) rfl ?_
        refine Go.dload X0.here hx (Jvm.hb hby at_60) rfl (q := 62) rfl ?_
        refine Go.ldc2D X0 hx hown (mvT hZ (word hw 0 rfl)) (Jvm.hb hby at_62) (q := 65) rfl ?_
        obtain ⟨u65, hu65⟩ : ∃ zq, FP.dmul tt (4602678819172646912 : UInt64) = zq := ⟨_, rfl⟩
        refine Go.dmul X0.here hx (Jvm.hb hby at_65) (own_mul_nn htt) hu65 (q := 66) rfl ?_
        refine Go.dstore X0.here hx (Jvm.hb hby at_66) (l2 := #[.val (.int q1), .val (.long q2), .second, .val (.long q3), .second, .val (.long q4), .second, .val (.int q5), .val (.int u3), .val (.double tt), .second, .val (.double u65), .second, .unset, .unset, .unset]) rfl (q := 68) rfl ?_
        refine Go.iconst X0.here hx (Jvm.hb hby at_68) (v := (1 : Int32)) rfl (q := 69) rfl ?_
        refine Go.istore X0.here hx (Jvm.hb hby at_69) (l2 := #[.val (.int q1), .val (.long q2), .second, .val (.long q3), .second, .val (.long q4), .second, .val (.int q5), .val (.int u3), .val (.double tt), .second, .val (.double u65), .second, .val (.int (1 : Int32)), .unset, .unset]) rfl (q := 71) rfl ?_
        exact J71 u65 (1 : Int32) (own_wait_nn (hu65 ▸ own_mul_nn htt))
set_option maxRecDepth 65536 in
set_option maxHeartbeats 40000000 in
theorem comes_1 {Post : Tables → Env → Array Value → State → Outcome → State → Prop} (hpost : ∀ tb e args s v u, (limb_1_1.after args s (.returned v) u = true ∧ limb_1_2.after args s (.returned v) u = true ∧ True) → FrameEnd s (.returned v) u (Jvm.fieldLocs frame_1_writes args s ++ Jvm.arrayLocs frame_1_arrays args s ++ Jvm.staticLocs frame_1_statics s) 16 128 → Post tb e args s (.returned v) u) :
    ArmFor flags0 classFile x code maxLocals ret World_1 tables_1 room_1 Calls_1 rest_1 Pre_1 Post := by
  intro l hfl _ _ p e ha hc hk s m args below hf hA hF happ hP
  obtain ⟨hcalls, hrest, hpre⟩ := hP
  obtain ⟨-, -, -, hnamed, -, -, -, hat⟩ := (Spec.applies_iff hf).mp happ
  obtain ⟨hg, hn⟩ := and_e (Cond.before_iff.mp (show (Jvm.Cond.and given_1 narrow_1).before args s = true from hpre))
  obtain ⟨g0, hg⟩ := and_e hg
  obtain ⟨w0, w1, w2, w3, w4, rfl⟩ : ∃ w0 w1 w2 w3 w4 : Value, args = #[w0, w1, w2, w3, w4] := by
    have hs : args.size = 5 := by simpa [Cond.value, given_1] using g0
    obtain ⟨L⟩ := args
    match L, hs with
    | [w0, w1, w2, w3, w4], _ => exact ⟨w0, w1, w2, w3, w4, rfl⟩
  have hw := fun d (hd : d ∈ tables_1) => atoms_spec (ws := Jvm.Cond.code x code maxLocals ret :: tables_1) hat d (List.mem_cons_of_mem _ hd)
  obtain ⟨g1, hg⟩ := and_e hg
  obtain ⟨i0, e0⟩ := is_v g1
  obtain rfl : w0 = (.int i0) := Option.some.inj e0
  obtain ⟨g2, hg⟩ := and_e hg
  obtain ⟨i1, e1⟩ := isL_v g2
  obtain rfl : w1 = (.long i1) := Option.some.inj e1
  obtain ⟨g3, hg⟩ := and_e hg
  obtain ⟨i2, e2⟩ := isL_v g3
  obtain rfl : w2 = (.long i2) := Option.some.inj e2
  obtain ⟨g4, hg⟩ := and_e hg
  obtain ⟨i3, e3⟩ := isL_v g4
  obtain rfl : w3 = (.long i3) := Option.some.inj e3
  obtain ⟨i4, e4⟩ := is_v hg
  obtain rfl : w4 = (.int i4) := Option.some.inj e4
  obtain ⟨n, o, h1, h2, h3, _, L, rfl, ⟨rfl, N⟩, hq⟩ := rm_law l s _ hw tables_1 i0 i1 i2 i3 i4  s.heap s.heap.size (Nat.le_refl _)  p e ha hc hk s m _ below hf ((Spec.applies_iff_loose hf).mp happ).1 ⟨rfl, State.Warmed39.refl s, rfl⟩ trivial
  refine ⟨n, _, h1, h2, h3, hpost _ _ _ _ _ _ ⟨Cond.after_iff.mpr rfl, Cond.after_iff.mpr (eq_i res_at (Term.int_eval (1)) rfl), trivial⟩ ⟨hq.1, hq.2.1, (hq.2.2.sift fun y hy => Or.inr (N y hy)).mono (by decide) (by decide)⟩⟩
theorem main_1_1 : Claimed_1_1 := comes_1 fun _ _ _ _ _ _ h hF => ⟨h.1, hF⟩
theorem main_1_2 : Claimed_1_2 := comes_1 fun _ _ _ _ _ _ h hF => ⟨h.2.1, hF⟩
end Jvm.Pilot.@@N@@
namespace Jvm.Pilot.@@N@@
open Jvm Jvm.ClassFile Sem Op Lib Jvm.Free Jvm.Stand Jvm.Pilot.@@N@@.Jvm.D
/-! MADE BY PROGRAM (witnessworld.py) out of the Statement's table words and the real class files: 15 classes; the members and pool entries that the words name. The judged class is class 1, her method 1. -/
namespace start1
open Jvm.ClassFile
def u (s : String) : CpInfo := .utf8 (stringToUtf16 s)
/-- a pool by its gaps: so many unusable entries, then the entry; so many at the end -/
def gap : Nat → List CpInfo → List CpInfo
  | 0, r => r
  | n + 1, r => .unusable :: gap n r
def poolList (es : List (Nat × CpInfo)) (last : Nat) : List CpInfo := es.foldr (fun e r => gap e.1 (e.2 :: r)) (gap last [])
def pool (es : List (Nat × CpInfo)) (last : Nat) : Array CpInfo := ⟨poolList es last⟩
def fileOf (pool : Array CpInfo) (this : Nat) (attrs : Array Attribute := #[]) (ms : Array MethodInfo := #[]) (fl : Nat := 33) (sup : Nat := 0) (ifs : Array Nat := #[]) (fds : Array FieldInfo := #[]) : ClassFile where
  minorVersion := 0
  majorVersion := 65
  constantPool := pool
  accessFlags := fl
  thisClass := this
  superClass := sup
  interfaces := ifs
  fields := fds
  methods := ms
  attributes := attrs
def plain (name : String) (sup : Option ClassId) : Class where
  name := name
  kind := .ordinary
  loader := none
  accessFlags := 33
  super := sup
  interfaces := #[]
  cf := none
  fields := #[]
  methods := #[]
  instanceTypes := #[]
  staticTypes := #[]
  resolved := #[]
  callSites := []
  init := .initialized
  statics := none
  mirror := none

def pool0 : Array CpInfo := pool [(5, u "<init>"), (0, u "()V"), (1, .class_ 10), (1, u "java/lang/Object")] 113

def k0c0 : Code := { maxStack := 0, maxLocals := 1, code := object_method_1_code, exceptionTable := #[], attributes := #[] }
def k0m0 : Method := { name := "<init>", desc := "()V", sig := { parameters := [], returnType := none }, accessFlags := 1, code := some k0c0 }
/-- java/lang/Object -/
def k0 : Class := { plain "java/lang/Object" none with
  accessFlags := 33
  interfaces := #[]
  cf := some (fileOf pool0 8 #[] #[{ accessFlags := 1, nameIndex := 5, descriptorIndex := 6, attributes := #[] }] 33 0 #[] #[])
  fields := #[]
  methods := #[k0m0]
  instanceTypes := #[]
  staticTypes := #[]
  resolved := Array.replicate 124 none
  statics := none }

def pool1 : Array CpInfo := pool [(2, .class_ 4), (1, u "java/lang/Object"), (0, u "<init>"), (0, u "()V"), (0, .class_ 8), (0, u "com/example/batchline/batchline/sim/Picker"), (0, .double 9221120237041090560), (1, .double 4602678819172646912), (1, .methodref 7 14), (0, .nameAndType 5 15), (0, u "(IDDD)V"), (0, .methodref 7 17), (0, .nameAndType 18 19), (0, u "waiting"), (0, u "()Z"), (0, .methodref 7 21), (0, .nameAndType 22 23), (0, u "stopWaiting"), (0, u "()Lcom/example/batchline/batchline/sim/Picker;"), (0, .methodref 7 25), (0, .nameAndType 26 27), (0, u "startWaiting"), (0, u "(D)Lcom/example/batchline/batchline/sim/Picker;"), (0, .methodref 7 29), (0, .nameAndType 5 30), (0, u "(I)V"), (0, .class_ 32), (0, u "com/example/batchline/batchline/sim/PickerWaitingPinLaw"), (2, u "law"), (0, u "(IJJJI)Z")] 3

def k1m0 : Method := { name := "<init>", desc := "()V", sig := { parameters := [], returnType := none }, accessFlags := 1, code := none }
def k1c1 : Code := { maxStack := 9, maxLocals := 16, code := code, exceptionTable := #[], attributes := #[] }
def k1m1 : Method := { name := "law", desc := "(IJJJI)Z", sig := { parameters := [.int, .long, .long, .long, .int], returnType := some .boolean }, accessFlags := 9, code := some k1c1 }
/-- com/example/batchline/batchline/sim/PickerWaitingPinLaw -/
def k1 : Class := { plain "com/example/batchline/batchline/sim/PickerWaitingPinLaw" (some 0) with
  accessFlags := 49
  interfaces := #[]
  cf := some (fileOf pool1 31 #[] #[{ accessFlags := 1, nameIndex := 5, descriptorIndex := 6, attributes := #[] }, { accessFlags := 9, nameIndex := 35, descriptorIndex := 36, attributes := #[] }] 49 2 #[] #[])
  fields := #[]
  methods := #[k1m0, k1m1]
  instanceTypes := #[]
  staticTypes := #[]
  resolved := Array.replicate 40 none
  statics := none }

def pool2 : Array CpInfo := pool [(1, .methodref 2 3), (0, .class_ 4), (0, .nameAndType 5 6), (0, u "java/lang/Object"), (0, u "<init>"), (0, u "()V"), (0, .class_ 8), (0, u "java/lang/Record")] 13

def k2c0 : Code := { maxStack := 1, maxLocals := 1, code := jdk_30_method_1_code, exceptionTable := #[], attributes := #[] }
def k2m0 : Method := { name := "<init>", desc := "()V", sig := { parameters := [], returnType := none }, accessFlags := 4, code := some k2c0 }
/-- java/lang/Record -/
def k2 : Class := { plain "java/lang/Record" (some 0) with
  accessFlags := 1057
  interfaces := #[]
  cf := some (fileOf pool2 7 #[] #[{ accessFlags := 4, nameIndex := 5, descriptorIndex := 6, attributes := #[] }] 1057 2 #[] #[])
  fields := #[]
  methods := #[k2m0]
  instanceTypes := #[]
  staticTypes := #[]
  resolved := Array.replicate 22 none
  statics := none }

def pool3 : Array CpInfo := pool [(1, .class_ 2), (0, u "java/lang/Double"), (0, .methodref 4 5), (0, .class_ 6), (0, .nameAndType 7 8), (0, u "java/lang/Record"), (0, u "<init>"), (0, u "()V"), (0, .fieldref 10 11), (0, .class_ 12), (0, .nameAndType 13 14), (0, u "com/example/batchline/batchline/sim/Picker"), (0, u "number"), (0, u "I"), (0, .fieldref 10 16), (0, .nameAndType 17 18), (0, u "free"), (0, u "D"), (0, .fieldref 10 20), (0, .nameAndType 21 18), (0, u "distance"), (0, .fieldref 10 23), (0, .nameAndType 24 18), (0, u "waitingSince"), (0, .double 9221120237041090560), (1, .methodref 10 28), (0, .nameAndType 7 29), (0, u "(IDDD)V"), (0, .methodref 1 31), (0, .nameAndType 32 33), (0, u "isNaN"), (0, u "(D)Z"), (26, u "NOT_WAITING"), (1, u "(I)V"), (3, u "waiting"), (0, u "()Z"), (3, u "startWaiting"), (0, u "(D)Lcom/example/batchline/batchline/sim/Picker;"), (0, u "stopWaiting"), (0, u "()Lcom/example/batchline/batchline/sim/Picker;")] 26

def k3c0 : Code := { maxStack := 8, maxLocals := 2, code := prog_60_method_1_code, exceptionTable := #[], attributes := #[] }
def k3m0 : Method := { name := "<init>", desc := "(I)V", sig := { parameters := [.int], returnType := none }, accessFlags := 0, code := some k3c0 }
def k3c1 : Code := { maxStack := 3, maxLocals := 8, code := prog_60_method_2_code, exceptionTable := #[], attributes := #[] }
def k3m1 : Method := { name := "<init>", desc := "(IDDD)V", sig := { parameters := [.int, .double, .double, .double], returnType := none }, accessFlags := 1, code := some k3c1 }
def k3c2 : Code := { maxStack := 2, maxLocals := 1, code := prog_60_method_3_code, exceptionTable := #[], attributes := #[] }
def k3m2 : Method := { name := "waiting", desc := "()Z", sig := { parameters := [], returnType := some .boolean }, accessFlags := 1, code := some k3c2 }
def k3c3 : Code := { maxStack := 9, maxLocals := 3, code := prog_60_method_5_code, exceptionTable := #[], attributes := #[] }
def k3m3 : Method := { name := "startWaiting", desc := "(D)Lcom/example/batchline/batchline/sim/Picker;", sig := { parameters := [.double], returnType := some (.object "com/example/batchline/batchline/sim/Picker") }, accessFlags := 0, code := some k3c3 }
def k3c4 : Code := { maxStack := 9, maxLocals := 1, code := prog_60_method_6_code, exceptionTable := #[], attributes := #[] }
def k3m4 : Method := { name := "stopWaiting", desc := "()Lcom/example/batchline/batchline/sim/Picker;", sig := { parameters := [], returnType := some (.object "com/example/batchline/batchline/sim/Picker") }, accessFlags := 0, code := some k3c4 }
/-- com/example/batchline/batchline/sim/Picker -/
def k3 : Class := { plain "com/example/batchline/batchline/sim/Picker" (some 2) with
  accessFlags := 49
  interfaces := #[]
  cf := some (fileOf pool3 10 #[] #[{ accessFlags := 0, nameIndex := 7, descriptorIndex := 62, attributes := #[] }, { accessFlags := 1, nameIndex := 7, descriptorIndex := 29, attributes := #[] }, { accessFlags := 1, nameIndex := 66, descriptorIndex := 67, attributes := #[] }, { accessFlags := 0, nameIndex := 71, descriptorIndex := 72, attributes := #[] }, { accessFlags := 0, nameIndex := 73, descriptorIndex := 74, attributes := #[] }] 49 4 #[] #[{ accessFlags := 18, nameIndex := 13, descriptorIndex := 14, attributes := #[] }, { accessFlags := 18, nameIndex := 17, descriptorIndex := 18, attributes := #[] }, { accessFlags := 18, nameIndex := 21, descriptorIndex := 18, attributes := #[] }, { accessFlags := 18, nameIndex := 24, descriptorIndex := 18, attributes := #[] }, { accessFlags := 25, nameIndex := 60, descriptorIndex := 18, attributes := #[] }])
  fields := #[{ name := "number", type := .int, accessFlags := 18, slot := 0, constantValue := 0 }, { name := "free", type := .double, accessFlags := 18, slot := 1, constantValue := 0 }, { name := "distance", type := .double, accessFlags := 18, slot := 2, constantValue := 0 }, { name := "waitingSince", type := .double, accessFlags := 18, slot := 3, constantValue := 0 }, { name := "NOT_WAITING", type := .double, accessFlags := 25, slot := 0, constantValue := 0 }]
  methods := #[k3m0, k3m1, k3m2, k3m3, k3m4]
  instanceTypes := #[.int, .double, .double, .double]
  staticTypes := #[.double]
  resolved := Array.replicate 101 none
  statics := none }

def pool4 : Array CpInfo := pool [(1, .class_ 2), (0, u "java/io/Serializable"), (0, .class_ 4), (0, u "java/lang/Object")] 2

/-- java/io/Serializable -/
def k4 : Class := { plain "java/io/Serializable" (some 0) with
  accessFlags := 1537
  interfaces := #[]
  cf := some (fileOf pool4 1 #[] #[] 1537 3 #[] #[])
  fields := #[]
  methods := #[]
  instanceTypes := #[]
  staticTypes := #[]
  resolved := Array.replicate 7 none
  statics := none }

def pool5 : Array CpInfo := pool [(2, .class_ 4), (1, u "java/lang/Object"), (0, u "<init>"), (0, u "()V"), (1, .class_ 10), (1, u "java/lang/Number"), (2, .class_ 14), (0, u "java/io/Serializable"), (0, u "serialVersionUID"), (0, u "J")] 20

def k5m0 : Method := { name := "<init>", desc := "()V", sig := { parameters := [], returnType := none }, accessFlags := 1, code := none }
/-- java/lang/Number -/
def k5 : Class := { plain "java/lang/Number" (some 0) with
  accessFlags := 1057
  interfaces := #[4]
  cf := some (fileOf pool5 8 #[] #[{ accessFlags := 1, nameIndex := 5, descriptorIndex := 6, attributes := #[] }] 1057 2 #[13] #[{ accessFlags := 26, nameIndex := 15, descriptorIndex := 16, attributes := #[] }])
  fields := #[{ name := "serialVersionUID", type := .long, accessFlags := 26, slot := 0, constantValue := 0 }]
  methods := #[k5m0]
  instanceTypes := #[]
  staticTypes := #[.long]
  resolved := Array.replicate 37 none
  statics := none }

def pool6 : Array CpInfo := pool [(1, .class_ 2), (0, u "java/lang/Comparable"), (0, .class_ 4), (0, u "java/lang/Object")] 7

/-- java/lang/Comparable -/
def k6 : Class := { plain "java/lang/Comparable" (some 0) with
  accessFlags := 1537
  interfaces := #[]
  cf := some (fileOf pool6 1 #[] #[] 1537 3 #[] #[])
  fields := #[]
  methods := #[]
  instanceTypes := #[]
  staticTypes := #[]
  resolved := Array.replicate 12 none
  statics := none }

def pool7 : Array CpInfo := pool [(1, .class_ 2), (0, u "java/lang/constant/Constable"), (0, .class_ 4), (0, u "java/lang/Object")] 6

/-- java/lang/constant/Constable -/
def k7 : Class := { plain "java/lang/constant/Constable" (some 0) with
  accessFlags := 1537
  interfaces := #[]
  cf := some (fileOf pool7 1 #[] #[] 1537 3 #[] #[])
  fields := #[]
  methods := #[]
  instanceTypes := #[]
  staticTypes := #[]
  resolved := Array.replicate 11 none
  statics := none }

def pool8 : Array CpInfo := pool [(1, .class_ 2), (0, u "java/lang/constant/ConstantDesc"), (0, .class_ 4), (0, u "java/lang/Object")] 32

/-- java/lang/constant/ConstantDesc -/
def k8 : Class := { plain "java/lang/constant/ConstantDesc" (some 0) with
  accessFlags := 1537
  interfaces := #[]
  cf := some (fileOf pool8 1 #[] #[] 1537 3 #[] #[])
  fields := #[]
  methods := #[]
  instanceTypes := #[]
  staticTypes := #[]
  resolved := Array.replicate 37 none
  statics := none }

def pool9 : Array CpInfo := pool [(1, .class_ 2), (0, u "java/lang/Double"), (11, u "(D)Z"), (99, .class_ 116), (1, u "java/lang/Number"), (3, u "value"), (0, u "D"), (2, u "isNaN"), (48, u "TYPE"), (0, u "Ljava/lang/Class;"), (0, .class_ 176), (0, u "java/lang/Comparable"), (0, .class_ 178), (0, u "java/lang/constant/Constable"), (0, .class_ 180), (0, u "java/lang/constant/ConstantDesc"), (0, u "POSITIVE_INFINITY"), (3, u "NEGATIVE_INFINITY"), (2, u "NaN"), (2, u "MAX_VALUE"), (0, u "MIN_NORMAL"), (0, u "MIN_VALUE"), (2, u "SIZE"), (0, u "I"), (1, u "PRECISION"), (1, u "MAX_EXPONENT"), (1, u "MIN_EXPONENT"), (1, u "BYTES"), (3, u "serialVersionUID"), (0, u "J")] 79

def k9c0 : Code := { maxStack := 4, maxLocals := 2, code := jdk_117_method_6_code, exceptionTable := #[], attributes := #[] }
def k9m0 : Method := { name := "isNaN", desc := "(D)Z", sig := { parameters := [.double], returnType := some .boolean }, accessFlags := 9, code := some k9c0 }
/-- java/lang/Double -/
def k9 : Class := { plain "java/lang/Double" (some 5) with
  accessFlags := 49
  interfaces := #[6, 7, 8]
  cf := some (fileOf pool9 1 #[] #[{ accessFlags := 9, nameIndex := 124, descriptorIndex := 14, attributes := #[] }] 49 114 #[175, 177, 179] #[{ accessFlags := 25, nameIndex := 181, descriptorIndex := 121, attributes := #[] }, { accessFlags := 25, nameIndex := 185, descriptorIndex := 121, attributes := #[] }, { accessFlags := 25, nameIndex := 188, descriptorIndex := 121, attributes := #[] }, { accessFlags := 25, nameIndex := 191, descriptorIndex := 121, attributes := #[] }, { accessFlags := 25, nameIndex := 192, descriptorIndex := 121, attributes := #[] }, { accessFlags := 25, nameIndex := 193, descriptorIndex := 121, attributes := #[] }, { accessFlags := 25, nameIndex := 196, descriptorIndex := 197, attributes := #[] }, { accessFlags := 25, nameIndex := 199, descriptorIndex := 197, attributes := #[] }, { accessFlags := 25, nameIndex := 201, descriptorIndex := 197, attributes := #[] }, { accessFlags := 25, nameIndex := 203, descriptorIndex := 197, attributes := #[] }, { accessFlags := 25, nameIndex := 205, descriptorIndex := 197, attributes := #[] }, { accessFlags := 25, nameIndex := 173, descriptorIndex := 174, attributes := #[] }, { accessFlags := 18, nameIndex := 120, descriptorIndex := 121, attributes := #[] }, { accessFlags := 26, nameIndex := 209, descriptorIndex := 210, attributes := #[] }])
  fields := #[{ name := "POSITIVE_INFINITY", type := .double, accessFlags := 25, slot := 0, constantValue := 0 }, { name := "NEGATIVE_INFINITY", type := .double, accessFlags := 25, slot := 1, constantValue := 0 }, { name := "NaN", type := .double, accessFlags := 25, slot := 2, constantValue := 0 }, { name := "MAX_VALUE", type := .double, accessFlags := 25, slot := 3, constantValue := 0 }, { name := "MIN_NORMAL", type := .double, accessFlags := 25, slot := 4, constantValue := 0 }, { name := "MIN_VALUE", type := .double, accessFlags := 25, slot := 5, constantValue := 0 }, { name := "SIZE", type := .int, accessFlags := 25, slot := 6, constantValue := 0 }, { name := "PRECISION", type := .int, accessFlags := 25, slot := 7, constantValue := 0 }, { name := "MAX_EXPONENT", type := .int, accessFlags := 25, slot := 8, constantValue := 0 }, { name := "MIN_EXPONENT", type := .int, accessFlags := 25, slot := 9, constantValue := 0 }, { name := "BYTES", type := .int, accessFlags := 25, slot := 10, constantValue := 0 }, { name := "TYPE", type := (.object "java/lang/Class"), accessFlags := 25, slot := 11, constantValue := 0 }, { name := "value", type := .double, accessFlags := 18, slot := 0, constantValue := 0 }, { name := "serialVersionUID", type := .long, accessFlags := 26, slot := 12, constantValue := 0 }]
  methods := #[k9m0]
  instanceTypes := #[.double]
  staticTypes := #[.double, .double, .double, .double, .double, .double, .int, .int, .int, .int, .int, (.object "java/lang/Class"), .long]
  resolved := Array.replicate 290 none
  statics := none }

def pool10 : Array CpInfo := pool [(1, u "java/lang/Cloneable"), (0, .class_ 1), (0, u "java/lang/Object"), (0, .class_ 3)] 3

/-- java/lang/Cloneable -/
def k10 : Class := { plain "java/lang/Cloneable" (some 0) with
  accessFlags := 1537
  interfaces := #[]
  cf := some (fileOf pool10 2 #[] #[] 1537 4 #[] #[])
  fields := #[]
  methods := #[]
  instanceTypes := #[]
  staticTypes := #[]
  resolved := Array.replicate 8 none
  statics := none }

/-- the primitive byte -/
def k11 : Class := { plain "byte" none with kind := .primitive 'B', accessFlags := 0x411 }
/-- [B -/
def k12 : Class := { plain "[B" (some 0) with kind := .array 11 .byte, interfaces := #[10, 4], accessFlags := 1041 }

/-- the primitive int -/
def k13 : Class := { plain "int" none with kind := .primitive 'I', accessFlags := 0x411 }
/-- [I -/
def k14 : Class := { plain "[I" (some 0) with kind := .array 13 .int, interfaces := #[10, 4], accessFlags := 1041 }

def heap : Heap := #[]
def classes : Array Class := #[k0, k1, k2, k3, k4, k5, k6, k7, k8, k9, k10, k11, k12, k13, k14]
def interned : List (Array UInt16 × Addr) := []
def slotsUsed : Nat := 0
def theMethod : MethodId := ⟨1, 1⟩
def args0 : Array Value := #[.int 5, .long 7, .long 11, .long 3, .int 1]
def aboutOver (below : List Frame) : State where
  vm := { classes := classes, interned := interned.toArray }
  heap := heap
  slotsUsed := slotsUsed
  threads := #[{ frames := .invoking theMethod args0 :: below }]
def below0 : List Frame := [.native { method := ⟨0, 0⟩, args := #[] }]
def about1 : State := aboutOver below0
def p0 : Program := .bare "" "" ""
def e0 : Env := launch0.env 0 0 0
theorem w_frames : about1.frames = Frame.invoking theMethod args0 :: below0 := rfl
set_option maxRecDepth 65536 in
theorem w_args : argsFit about1.vm theMethod args0 = true := by decide +kernel
set_option maxRecDepth 65536 in
theorem w_heap : heapFits about1 = true := by decide +kernel
set_option maxRecDepth 65536 in
theorem w_runnable : about1.curStatus? = some .runnable := by decide +kernel
set_option maxRecDepth 65536 in
theorem w_alone : about1.alone = true := by decide +kernel
set_option maxRecDepth 65536 in
theorem w_named : about1.methodNamed? x = some theMethod := by decide +kernel
set_option maxRecDepth 65536 in
theorem w_hears : about1.hears theMethod below0 = true := by decide +kernel
set_option maxRecDepth 65536 in
theorem w_ripe : about1.ripe theMethod args0 below0 = true := by decide +kernel
theorem w_running : about1.status = .running := rfl
set_option maxRecDepth 65536 in
theorem w_room : about1.hasRoom e0.platform room_1 = true :=
  launch0.hasRoom_least _ room_1 (by decide +kernel) (by decide +kernel) (by decide +kernel) (by decide +kernel) (by decide +kernel) (by decide +kernel)
theorem allAtoms_all (ts : List Jvm.Cond) (a : Array Jvm.Value) (st : Jvm.State) : (allAtoms ts).before a st = ts.all (fun c => c.before a st) := by
  induction ts with
  | nil => rfl
  | cons c t ih =>
    show (Jvm.Cond.and c (allAtoms t)).before a st = _
    rw [Jvm.Cond.before_and, ih, List.all_cons]
def words1 : List Jvm.Cond := Jvm.Cond.code x code maxLocals ret :: tables_1
/-- a 'code' word, met by the world's own term for the bytes: nothing is compared byte by byte -/
theorem code_word {y : MethodName} {bytes : ByteArray} {mx : Nat} {rt : Option FieldType} {a : Array Value} {s : State} {m : MethodId} {meth : Method} {c : Code} (h1 : s.methodNamed? y = some m) (h2 : s.vm.method? m = some meth) (h3 : meth.code = some c) (h4 : c.code = bytes)
    (h5 : (c.maxLocals == mx && c.exceptionTable.isEmpty && decide (c.maxStack ≤ mostOperands) && decide (meth.sig.returnType = rt) && !meth.locks && decide (parseMethodDescriptor y.desc = some meth.sig)) = true) : (Jvm.Cond.code y bytes mx rt).before a s = true := by
  simp only [Bool.and_eq_true, beq_iff_eq, Bool.not_eq_true', decide_eq_true_eq] at h5
  obtain ⟨⟨⟨⟨⟨g1, g2⟩, g3⟩, g4⟩, g5⟩, g6⟩ := h5
  simp [Cond.before, Cond.holds, Cond.value, h1, h2, h3, h4, g1, g2, g3, g4, g5, g6]
def isCode : Jvm.Cond → Bool
  | .code _ _ _ _ => true
  | _ => false
theorem all_split {L : List Jvm.Cond} {P : Jvm.Cond → Bool} (h1 : L.all (fun c => isCode c || P c) = true) (h2 : ∀ c ∈ L.filter isCode, P c = true) : L.all P = true := by
  refine List.all_eq_true.mpr fun c hc => ?_
  have h := List.all_eq_true.mp h1 c hc
  rcases Bool.eq_false_or_eq_true (isCode c) with hi | hi
  · exact h2 c (List.mem_filter.mpr ⟨hc, hi⟩)
  · simpa [hi] using h
set_option maxRecDepth 65536 in
theorem w_c0 : (Jvm.Cond.code x code maxLocals ret).before args0 about1 = true := code_word (m := ⟨1, 1⟩) (meth := k1m1) (c := k1c1) (by decide +kernel) rfl rfl rfl (by decide +kernel)
set_option maxRecDepth 65536 in
theorem w_c1 : (Jvm.Cond.code ({ cls := "com/example/batchline/batchline/sim/Picker", name := "<init>", desc := "(IDDD)V" } : Jvm.MethodName) prog_60_method_2_code (8 : Nat) (Option.none : Option Jvm.ClassFile.FieldType)).before args0 about1 = true := code_word (m := ⟨3, 1⟩) (meth := k3m1) (c := k3c1) (by decide +kernel) rfl rfl rfl (by decide +kernel)
set_option maxRecDepth 65536 in
theorem w_c2 : (Jvm.Cond.code ({ cls := "java/lang/Record", name := "<init>", desc := "()V" } : Jvm.MethodName) jdk_30_method_1_code (1 : Nat) (Option.none : Option Jvm.ClassFile.FieldType)).before args0 about1 = true := code_word (m := ⟨2, 0⟩) (meth := k2m0) (c := k2c0) (by decide +kernel) rfl rfl rfl (by decide +kernel)
set_option maxRecDepth 65536 in
theorem w_c3 : (Jvm.Cond.code ({ cls := "java/lang/Object", name := "<init>", desc := "()V" } : Jvm.MethodName) object_method_1_code (1 : Nat) (Option.none : Option Jvm.ClassFile.FieldType)).before args0 about1 = true := code_word (m := ⟨0, 0⟩) (meth := k0m0) (c := k0c0) (by decide +kernel) rfl rfl rfl (by decide +kernel)
set_option maxRecDepth 65536 in
theorem w_c4 : (Jvm.Cond.code ({ cls := "com/example/batchline/batchline/sim/Picker", name := "waiting", desc := "()Z" } : Jvm.MethodName) prog_60_method_3_code (1 : Nat) (Option.some Jvm.ClassFile.FieldType.boolean)).before args0 about1 = true := code_word (m := ⟨3, 2⟩) (meth := k3m2) (c := k3c2) (by decide +kernel) rfl rfl rfl (by decide +kernel)
set_option maxRecDepth 65536 in
theorem w_c5 : (Jvm.Cond.code ({ cls := "java/lang/Double", name := "isNaN", desc := "(D)Z" } : Jvm.MethodName) jdk_117_method_6_code (2 : Nat) (Option.some Jvm.ClassFile.FieldType.boolean)).before args0 about1 = true := code_word (m := ⟨9, 0⟩) (meth := k9m0) (c := k9c0) (by decide +kernel) rfl rfl rfl (by decide +kernel)
set_option maxRecDepth 65536 in
theorem w_c6 : (Jvm.Cond.code ({ cls := "com/example/batchline/batchline/sim/Picker", name := "stopWaiting", desc := "()Lcom/example/batchline/batchline/sim/Picker;" } : Jvm.MethodName) prog_60_method_6_code (1 : Nat) (Option.some (Jvm.ClassFile.FieldType.object "com/example/batchline/batchline/sim/Picker"))).before args0 about1 = true := code_word (m := ⟨3, 4⟩) (meth := k3m4) (c := k3c4) (by decide +kernel) rfl rfl rfl (by decide +kernel)
set_option maxRecDepth 65536 in
theorem w_c7 : (Jvm.Cond.code ({ cls := "com/example/batchline/batchline/sim/Picker", name := "startWaiting", desc := "(D)Lcom/example/batchline/batchline/sim/Picker;" } : Jvm.MethodName) prog_60_method_5_code (3 : Nat) (Option.some (Jvm.ClassFile.FieldType.object "com/example/batchline/batchline/sim/Picker"))).before args0 about1 = true := code_word (m := ⟨3, 3⟩) (meth := k3m3) (c := k3c3) (by decide +kernel) rfl rfl rfl (by decide +kernel)
set_option maxRecDepth 65536 in
theorem w_c8 : (Jvm.Cond.code ({ cls := "com/example/batchline/batchline/sim/Picker", name := "<init>", desc := "(I)V" } : Jvm.MethodName) prog_60_method_1_code (2 : Nat) (Option.none : Option Jvm.ClassFile.FieldType)).before args0 about1 = true := code_word (m := ⟨3, 0⟩) (meth := k3m0) (c := k3c0) (by decide +kernel) rfl rfl rfl (by decide +kernel)
def codes1 : List Jvm.Cond := [Jvm.Cond.code x code maxLocals ret, Jvm.Cond.code ({ cls := "com/example/batchline/batchline/sim/Picker", name := "<init>", desc := "(IDDD)V" } : Jvm.MethodName) prog_60_method_2_code (8 : Nat) (Option.none : Option Jvm.ClassFile.FieldType), Jvm.Cond.code ({ cls := "java/lang/Record", name := "<init>", desc := "()V" } : Jvm.MethodName) jdk_30_method_1_code (1 : Nat) (Option.none : Option Jvm.ClassFile.FieldType), Jvm.Cond.code ({ cls := "java/lang/Object", name := "<init>", desc := "()V" } : Jvm.MethodName) object_method_1_code (1 : Nat) (Option.none : Option Jvm.ClassFile.FieldType), Jvm.Cond.code ({ cls := "com/example/batchline/batchline/sim/Picker", name := "waiting", desc := "()Z" } : Jvm.MethodName) prog_60_method_3_code (1 : Nat) (Option.some Jvm.ClassFile.FieldType.boolean), Jvm.Cond.code ({ cls := "java/lang/Double", name := "isNaN", desc := "(D)Z" } : Jvm.MethodName) jdk_117_method_6_code (2 : Nat) (Option.some Jvm.ClassFile.FieldType.boolean), Jvm.Cond.code ({ cls := "com/example/batchline/batchline/sim/Picker", name := "stopWaiting", desc := "()Lcom/example/batchline/batchline/sim/Picker;" } : Jvm.MethodName) prog_60_method_6_code (1 : Nat) (Option.some (Jvm.ClassFile.FieldType.object "com/example/batchline/batchline/sim/Picker")), Jvm.Cond.code ({ cls := "com/example/batchline/batchline/sim/Picker", name := "startWaiting", desc := "(D)Lcom/example/batchline/batchline/sim/Picker;" } : Jvm.MethodName) prog_60_method_5_code (3 : Nat) (Option.some (Jvm.ClassFile.FieldType.object "com/example/batchline/batchline/sim/Picker")), Jvm.Cond.code ({ cls := "com/example/batchline/batchline/sim/Picker", name := "<init>", desc := "(I)V" } : Jvm.MethodName) prog_60_method_1_code (2 : Nat) (Option.none : Option Jvm.ClassFile.FieldType)]
set_option maxRecDepth 65536 in
theorem codes_eq : words1.filter isCode = codes1 := rfl
theorem w_codes : ∀ c ∈ words1.filter isCode, c.before args0 about1 = true := by
  rw [codes_eq]
  intro c hc
  simp only [codes1, List.mem_cons, List.not_mem_nil, or_false] at hc
  rcases hc with rfl | rfl | rfl | rfl | rfl | rfl | rfl | rfl | rfl
  · exact w_c0
  · exact w_c1
  · exact w_c2
  · exact w_c3
  · exact w_c4
  · exact w_c5
  · exact w_c6
  · exact w_c7
  · exact w_c8
set_option maxRecDepth 65536 in
theorem w_t1 : (words1.take 24).all (fun c => isCode c || c.before args0 about1) = true := by decide +kernel
set_option maxRecDepth 65536 in
theorem w_t2 : ((words1.drop 24).take 24).all (fun c => isCode c || c.before args0 about1) = true := by decide +kernel
set_option maxRecDepth 65536 in
theorem w_t3 : ((words1.drop 24).drop 24).all (fun c => isCode c || c.before args0 about1) = true := by decide +kernel
theorem w_tables : (allAtoms (Jvm.Cond.code x code maxLocals ret :: tables_1)).before args0 about1 = true := by
  rw [allAtoms_all]
  show words1.all (fun c => c.before args0 about1) = true
  refine all_split ?_ w_codes
  rw [← List.take_append_drop 24 words1, List.all_append, w_t1, ← List.take_append_drop 24 (words1.drop 24), List.all_append, w_t2, w_t3]
  rfl
set_option maxRecDepth 65536 in
theorem w_case : (Jvm.Cond.and given_1 narrow_1).before args0 about1 = true := by decide +kernel
theorem w_applies : (headSpec (Jvm.Cond.code x code maxLocals ret :: tables_1) room_1).applies x e0.platform about1 = true :=
  (Spec.applies_iff w_frames).mpr ⟨w_running, w_runnable, w_alone, w_named, w_hears, w_ripe, w_room, w_tables⟩
theorem atStart : AtStart classFile x code maxLocals ret World_1 tables_1 room_1 Calls_1 rest_1 Pre_1 launch0 p0 e0 about1 theMethod args0 below0 :=
  ⟨lists_1, trivial, launch0.admits_env _ _ _, launch0.least_env, fairChoices_fair.cas, fairChoices_fair.clock, w_frames, w_args, w_heap, w_applies, trivial, trivial, w_case⟩
end start1
theorem witness_1 : WitnessClaimed_1 := ⟨start1.p0, start1.e0, start1.about1, start1.theMethod, start1.args0, start1.below0, start1.atStart⟩
end Jvm.Pilot.@@N@@
