import JvmDerived
import JvmDerived.Pilot.@@N@@Statement
import JvmDerived.Pilot.@@N@@Code
set_option linter.unusedVariables false
set_option linter.unusedSimpArgs false
namespace Jvm.Pilot.@@N@@
open Jvm Jvm.ClassFile Sem Op Lib Jvm.Free Jvm.Stand Jvm.LawKit Jvm.RoadKit Bundle Jvm.Pilot.@@N@@.Jvm.D
/-! own layer 1: doubles as whole numbers of least units (2 to the -1074) -/
section OwnFp
open Jvm.FP Jvm.FP.Core Jvm.Free.Fl
/-- a power of two -/
def P2 (j : Nat) : Int := ((2 ^ j : Nat) : Int)
theorem P2_pos (j : Nat) : 0 < P2 j := Int.natCast_pos.mpr (Nat.two_pow_pos j)
theorem P2_add (i j : Nat) : P2 (i + j) = P2 i * P2 j := by unfold P2; rw [Nat.pow_add, Int.natCast_mul]
theorem P2_one64 : (one64 : Int) = P2 1074 := rfl
/-- the value of a double in least units -/
def Zv (a : UInt64) : Int := zval b64 (val64 a)
/-- some finite double has this value -/
def Rep (V : Int) : Prop := ∃ x : UInt64, DFin x ∧ Zv x = V
theorem own_qmax : b64.qmax = 971 := by decide
theorem own_signed_abs (c : Int) : signed (decide (c < 0)) c.natAbs = c := by
  unfold signed
  by_cases q : c < 0
  · simp [q]; omega
  · simp [q]; omega
theorem rep_core (s : Bool) {c j : Nat} (hc : c < 2 ^ 53) (hj : j ≤ 2045) : ∃ x : UInt64, DFin x ∧ Zv x = signed s (c * 2 ^ j) := by
  obtain ⟨c', q', h1, h2⟩ := round_exact (f := b64) good_b64 s (c := c) (q := (j : Int) - 1074) hc (by rw [qmin_b64]; omega) (by rw [own_qmax]; omega)
  refine ⟨of64 (round b64 (.fin s c ((j : Int) - 1074))), ⟨s, c', q', ?_⟩, ?_⟩
  · rw [val64_of64 (round_fits good_b64 _), h1]
  · unfold Zv
    rw [val64_of64 (round_fits good_b64 _), h1]
    show signed s (inUnits c' q' b64.qmin) = _
    rw [h2]
    unfold inUnits
    rw [show ((j : Int) - 1074 - b64.qmin).toNat = j by rw [qmin_b64]; omega]
theorem rep_mk (c : Int) (j : Nat) (hc : c.natAbs ≤ 2 ^ 53) (hj : j ≤ 2044) : Rep (c * P2 j) := by
  by_cases h : c.natAbs < 2 ^ 53
  · obtain ⟨x, h1, h2⟩ := rep_core (decide (c < 0)) h (j := j) (by omega)
    refine ⟨x, h1, h2.trans ?_⟩
    rw [signed_mul, own_signed_abs]; rfl
  · have h' : c.natAbs = 2 ^ 53 := by omega
    obtain ⟨x, h1, h2⟩ := rep_core (decide (c < 0)) (c := 2 ^ 52) (by decide) (j := j + 1) (by omega)
    refine ⟨x, h1, h2.trans ?_⟩
    have e : 2 ^ 52 * 2 ^ (j + 1) = c.natAbs * 2 ^ j := by
      rw [h', Nat.pow_add 2 j 1]
      generalize 2 ^ j = t
      omega
    rw [e, signed_mul, own_signed_abs]; rfl
theorem rep_of {V : Int} (c : Int) (j : Nat) (hc : c.natAbs ≤ 2 ^ 53) (hj : j ≤ 2044) (h : V = c * P2 j) : Rep V := h ▸ rep_mk c j hc hj
theorem rep_int (n : Int) (h : n.natAbs ≤ 2 ^ 53) : Rep (n * P2 1074) := rep_mk n 1074 h (by decide)
theorem rep_zero : Rep 0 := rep_of 0 0 (by decide) (by decide) (by simp)
theorem rep_self {x : UInt64} (h : DFin x) : Rep (Zv x) := ⟨x, h, rfl⟩
theorem rep_neg {V : Int} (h : Rep V) : Rep (-V) := by
  obtain ⟨x, hx, rfl⟩ := h
  obtain ⟨s, c, q, hv⟩ := hx
  refine ⟨Core.dneg x, ⟨!s, c, q, ?_⟩, ?_⟩
  · rw [Core.val64_dneg, hv]; rfl
  · unfold Zv; rw [Core.val64_dneg, zval_negate]
/-- between two finite values: finite -/
theorem fin_between {x : UInt64} (hn : val64 x ≠ .nan) {L H : Int} (hL : Rep L) (hH : Rep H) (h1 : L ≤ Zv x) (h2 : Zv x ≤ H) : DFin x := by
  cases hv : val64 x with
  | nan => exact absurd hv hn
  | fin s c q => exact ⟨s, c, q, hv⟩
  | inf s =>
    exfalso
    obtain ⟨y, hy, rfl⟩ := hL
    obtain ⟨z, hz, rfl⟩ := hH
    have a1 := hy.zval_lt
    have a2 := hz.zval_lt
    have e : Zv x = signed s (b64.tails * 2 ^ (b64.exps - 2)) := by unfold Zv; rw [hv]; rfl
    have b1 : signed (sgn (val64 y)) (zmag b64 (val64 y)) ≤ signed s (b64.tails * 2 ^ (b64.exps - 2)) := e ▸ h1
    have b2 : signed s (b64.tails * 2 ^ (b64.exps - 2)) ≤ signed (sgn (val64 z)) (zmag b64 (val64 z)) := e ▸ h2
    generalize b64.tails * 2 ^ (b64.exps - 2) = top at *
    generalize zmag b64 (val64 y) = my at *
    generalize zmag b64 (val64 z) = mz at *
    generalize sgn (val64 y) = sy at *
    generalize sgn (val64 z) = sz at *
    cases s <;> cases sy <;> cases sz <;> simp only [signed, if_true, Bool.false_eq_true, if_false] at b1 b2 <;> omega
theorem not_nan {x : UInt64} (h : Core.dIsNaN x = false) : val64 x ≠ .nan := (notNaN_iff x).mp h
theorem nn_of {x : UInt64} (h : DFin x) : NoNaN64 x := (fin64_core.mpr h).noNaN
/-! sums -/
theorem add_le {a b : UInt64} (ha : DFin a) (hb : DFin b) {V : Int} (hV : Rep V) (h : Zv a + Zv b ≤ V) : Zv (FP.dadd a b) ≤ V := by
  obtain ⟨x, hx, rfl⟩ := hV
  unfold Zv at h ⊢
  rw [val64_dadd]
  exact sum_le good_b64 ha hb (val64_fits a) (val64_fits b) (val64_fits x) hx.ne_nan h
theorem add_ge {a b : UInt64} (ha : DFin a) (hb : DFin b) {V : Int} (hV : Rep V) (h : V ≤ Zv a + Zv b) : V ≤ Zv (FP.dadd a b) := by
  obtain ⟨x, hx, rfl⟩ := hV
  unfold Zv at h ⊢
  rw [val64_dadd]
  exact sum_ge good_b64 ha hb (val64_fits a) (val64_fits b) (val64_fits x) hx.ne_nan h
theorem add_in {a b : UInt64} (ha : DFin a) (hb : DFin b) {L H : Int} (hL : Rep L) (hH : Rep H) (h1 : L ≤ Zv a + Zv b) (h2 : Zv a + Zv b ≤ H) : DFin (FP.dadd a b) ∧ L ≤ Zv (FP.dadd a b) ∧ Zv (FP.dadd a b) ≤ H :=
  ⟨fin_between (not_nan (Core.dadd_out ha.notNaN hb)) hL hH (add_ge ha hb hL h1) (add_le ha hb hH h2), add_ge ha hb hL h1, add_le ha hb hH h2⟩
theorem add_eq {a b : UInt64} (ha : DFin a) (hb : DFin b) {V : Int} (hV : Rep V) (h : Zv a + Zv b = V) : DFin (FP.dadd a b) ∧ Zv (FP.dadd a b) = V := by
  obtain ⟨h1, h2, h3⟩ := add_in ha hb hV hV (Int.le_of_eq h.symm) (Int.le_of_eq h)
  exact ⟨h1, Int.le_antisymm h3 h2⟩
/-! signs -/
theorem neg_eq {a : UInt64} (ha : DFin a) : DFin (FP.dneg a) ∧ Zv (FP.dneg a) = -Zv a := by
  obtain ⟨s, c, q, hv⟩ := ha
  constructor
  · exact ⟨!s, c, q, by rw [FP.val64_dneg, hv]; rfl⟩
  · unfold Zv; rw [FP.val64_dneg, zval_negate]
theorem cneg_eq {a : UInt64} (ha : DFin a) : DFin (Core.dneg a) ∧ Zv (Core.dneg a) = -Zv a := by
  obtain ⟨s, c, q, hv⟩ := ha
  constructor
  · exact ⟨!s, c, q, by rw [Core.val64_dneg, hv]; rfl⟩
  · unfold Zv; rw [Core.val64_dneg, zval_negate]
/-! differences -/
theorem sub_in {a b : UInt64} (ha : DFin a) (hb : DFin b) {L H : Int} (hL : Rep L) (hH : Rep H) (h1 : L ≤ Zv a - Zv b) (h2 : Zv a - Zv b ≤ H) : DFin (FP.dsub a b) ∧ L ≤ Zv (FP.dsub a b) ∧ Zv (FP.dsub a b) ≤ H := by
  obtain ⟨n1, n2⟩ := cneg_eq hb
  have e : FP.dsub a b = FP.dadd a (Core.dneg b) := Core.dsub_eq a b
  rw [e]
  exact add_in ha n1 hL hH (by rw [n2]; omega) (by rw [n2]; omega)
theorem sub_eq {a b : UInt64} (ha : DFin a) (hb : DFin b) {V : Int} (hV : Rep V) (h : Zv a - Zv b = V) : DFin (FP.dsub a b) ∧ Zv (FP.dsub a b) = V := by
  obtain ⟨h1, h2, h3⟩ := sub_in ha hb hV hV (Int.le_of_eq h.symm) (Int.le_of_eq h)
  exact ⟨h1, Int.le_antisymm h3 h2⟩
/-! products -/
theorem own_q2 : (b64.qmin - 2 * b64.qmin).toNat = 1074 := by rw [qmin_b64]; decide
theorem mul_le {a b : UInt64} (ha : DFin a) (hb : DFin b) {V : Int} (hV : Rep V) (h : Zv a * Zv b ≤ V * P2 1074) : Zv (FP.dmul a b) ≤ V := by
  obtain ⟨x, hx, rfl⟩ := hV
  obtain ⟨s, c, q, hva⟩ := ha
  obtain ⟨t, d, r, hvb⟩ := hb
  have fa := val64_fits a
  have fb := val64_fits b
  unfold Zv at h ⊢
  rw [hva] at fa h
  rw [hvb] at fb h
  obtain ⟨p1, p2, p3⟩ := product_units fa fb
  rw [val64_dmul, hva, hvb, p1]
  refine zval_round_le good_b64 (val64_fits x) hx.ne_nan (e0 := 2 * b64.qmin) (by rw [qmin_b64]; decide) p2 ?_
  rw [p3, signed_xor, own_q2]
  exact h
theorem mul_ge {a b : UInt64} (ha : DFin a) (hb : DFin b) {V : Int} (hV : Rep V) (h : V * P2 1074 ≤ Zv a * Zv b) : V ≤ Zv (FP.dmul a b) := by
  obtain ⟨x, hx, rfl⟩ := hV
  obtain ⟨s, c, q, hva⟩ := ha
  obtain ⟨t, d, r, hvb⟩ := hb
  have fa := val64_fits a
  have fb := val64_fits b
  unfold Zv at h ⊢
  rw [hva] at fa h
  rw [hvb] at fb h
  obtain ⟨p1, p2, p3⟩ := product_units fa fb
  rw [val64_dmul, hva, hvb, p1]
  refine zval_round_ge good_b64 (val64_fits x) hx.ne_nan (e0 := 2 * b64.qmin) (by rw [qmin_b64]; decide) p2 ?_
  rw [p3, signed_xor, own_q2]
  exact h
theorem mul_in {a b : UInt64} (ha : DFin a) (hb : DFin b) {L H : Int} (hL : Rep L) (hH : Rep H) (h1 : L * P2 1074 ≤ Zv a * Zv b) (h2 : Zv a * Zv b ≤ H * P2 1074) : DFin (FP.dmul a b) ∧ L ≤ Zv (FP.dmul a b) ∧ Zv (FP.dmul a b) ≤ H :=
  ⟨fin_between (not_nan (Core.dmul_out ha hb)) hL hH (mul_ge ha hb hL h1) (mul_le ha hb hH h2), mul_ge ha hb hL h1, mul_le ha hb hH h2⟩
theorem mul_eq {a b : UInt64} (ha : DFin a) (hb : DFin b) {V : Int} (hV : Rep V) (h : Zv a * Zv b = V * P2 1074) : DFin (FP.dmul a b) ∧ Zv (FP.dmul a b) = V := by
  obtain ⟨h1, h2, h3⟩ := mul_in ha hb hV hV (Int.le_of_eq h.symm) (Int.le_of_eq h)
  exact ⟨h1, Int.le_antisymm h3 h2⟩
/-! quotients by a positive number -/
theorem own_sgn_le {s t : Bool} {A V B r : Nat} (hB : 0 < B) (hle : A ≤ V * B → r ≤ V) (hge : V * B ≤ A → V ≤ r) (h : signed s A ≤ signed t V * (B : Int)) : signed s r ≤ signed t V := by
  rw [← signed_mul] at h
  have hz : V * B = 0 → V = 0 := fun q => by rcases Nat.mul_eq_zero.mp q with q | q <;> omega
  generalize V * B = vb at *
  cases s <;> cases t <;> simp only [signed, if_true, Bool.false_eq_true, if_false] at h ⊢
  · have := hle (by omega); omega
  · have := hle (by omega); have := hz (by omega); omega
  · omega
  · have := hge (by omega); omega
theorem own_sgn_ge {s t : Bool} {A V B r : Nat} (hB : 0 < B) (hle : A ≤ V * B → r ≤ V) (hge : V * B ≤ A → V ≤ r) (h : signed t V * (B : Int) ≤ signed s A) : signed t V ≤ signed s r := by
  rw [← signed_mul] at h
  have hz : V * B = 0 → V = 0 := fun q => by rcases Nat.mul_eq_zero.mp q with q | q <;> omega
  generalize V * B = vb at *
  cases s <;> cases t <;> simp only [signed, if_true, Bool.false_eq_true, if_false] at h ⊢
  · have := hge (by omega); omega
  · omega
  · have := hle (by omega); have := hz (by omega); omega
  · have := hle (by omega); omega
theorem div_core {a b : UInt64} (ha : DFin a) (hb : DFin b) (hp : 0 < Zv b) (x : UInt64) (hx : DFin x) :
    ∃ (s : Bool) (A B : Nat), (B : Int) = Zv b ∧ signed s A = Zv a * P2 1074 ∧ 0 < B ∧ ∃ r, Zv (FP.ddiv a b) = signed s r ∧ (A ≤ zmag b64 (val64 x) * B → r ≤ zmag b64 (val64 x)) ∧ (zmag b64 (val64 x) * B ≤ A → zmag b64 (val64 x) ≤ r) := by
  obtain ⟨s, c, q, hva⟩ := ha
  obtain ⟨t, d, r, hvb⟩ := hb
  have fa := val64_fits a
  have fb := val64_fits b
  rw [hva] at fa
  rw [hvb] at fb
  have f1 := fa.2.1
  have f2 := fb.2.1
  have zb : Zv b = signed t (inUnits d r b64.qmin) := by unfold Zv; rw [hvb]; rfl
  have hd : 0 < d := by
    rcases Nat.eq_zero_or_pos d with q0 | q0
    · rw [zb, q0] at hp
      have : inUnits 0 r b64.qmin = 0 := Nat.zero_mul _
      rw [this, signed_zero] at hp; omega
    · exact q0
  have ht : t = false := by
    cases t with
    | false => rfl
    | true => rw [zb] at hp; simp only [signed, if_true] at hp; omega
  subst ht
  have hB : 0 < inUnits d r b64.qmin := Nat.mul_pos hd (Nat.two_pow_pos _)
  have e1 : inUnits c (q - r) (2 * b64.qmin - r) = inUnits c q b64.qmin * 2 ^ 1074 := by
    unfold inUnits
    rw [Nat.mul_assoc, ← Nat.pow_add]
    rw [qmin_b64] at *
    congr 2; omega
  have e2 : 2 ^ (b64.qmin - (2 * b64.qmin - r)).toNat * d = inUnits d r b64.qmin := by
    unfold inUnits
    rw [Nat.mul_comm]; congr 2; omega
  have hv : val64 (FP.ddiv a b) = roundRatio b64 s c d (q - r) := by
    rw [val64_ddiv, hva, hvb]
    show (if d = 0 then _ else roundRatio b64 (s != false) c d (q - r)) = _
    rw [if_neg (by omega)]
    cases s <;> rfl
  refine ⟨s, inUnits c q b64.qmin * 2 ^ 1074, inUnits d r b64.qmin, ?_, ?_, hB, zmag b64 (roundRatio b64 s c d (q - r)), ?_, ?_, ?_⟩
  · rw [zb]; simp only [signed, Bool.false_eq_true, if_false]
  · unfold Zv; rw [signed_mul, hva]; rfl
  · unfold Zv; rw [hv]; show signed (sgn _) _ = _; rw [sgn_roundRatio]
  · intro h
    refine zmag_roundRatio_le good_b64 hd (val64_fits x) hx.ne_nan (e0 := 2 * b64.qmin - r) (by have := qmin_b64; omega) (by have := qmin_b64; omega) ?_
    rw [e1, Nat.mul_assoc, e2]; exact h
  · intro h
    refine zmag_roundRatio_ge good_b64 hd (val64_fits x) (e0 := 2 * b64.qmin - r) (by have := qmin_b64; omega) (by have := qmin_b64; omega) ?_
    rw [e1, Nat.mul_assoc, e2]; exact h
theorem div_le {a b : UInt64} (ha : DFin a) (hb : DFin b) (hp : 0 < Zv b) {V : Int} (hV : Rep V) (h : Zv a * P2 1074 ≤ V * Zv b) : Zv (FP.ddiv a b) ≤ V := by
  obtain ⟨x, hx, rfl⟩ := hV
  obtain ⟨s, A, B, h1, h2, h3, r, h4, h5, h6⟩ := div_core ha hb hp x hx
  rw [h4]
  rw [← h2, ← h1] at h
  exact own_sgn_le h3 h5 h6 h
theorem div_ge {a b : UInt64} (ha : DFin a) (hb : DFin b) (hp : 0 < Zv b) {V : Int} (hV : Rep V) (h : V * Zv b ≤ Zv a * P2 1074) : V ≤ Zv (FP.ddiv a b) := by
  obtain ⟨x, hx, rfl⟩ := hV
  obtain ⟨s, A, B, h1, h2, h3, r, h4, h5, h6⟩ := div_core ha hb hp x hx
  rw [h4]
  rw [← h2, ← h1] at h
  exact own_sgn_ge h3 h5 h6 h
theorem pos_nz {b : UInt64} (hp : 0 < Zv b) : ¬ DZero b := fun q => by
  have := q.zval
  unfold Zv at hp
  omega
theorem div_in {a b : UInt64} (ha : DFin a) (hb : DFin b) (hp : 0 < Zv b) {L H : Int} (hL : Rep L) (hH : Rep H) (h1 : L * Zv b ≤ Zv a * P2 1074) (h2 : Zv a * P2 1074 ≤ H * Zv b) : DFin (FP.ddiv a b) ∧ L ≤ Zv (FP.ddiv a b) ∧ Zv (FP.ddiv a b) ≤ H :=
  ⟨fin_between (not_nan (Core.ddiv_out ha.notNaN hb (pos_nz hp))) hL hH (div_ge ha hb hp hL h1) (div_le ha hb hp hH h2), div_ge ha hb hp hL h1, div_le ha hb hp hH h2⟩
theorem div_eq {a b : UInt64} (ha : DFin a) (hb : DFin b) (hp : 0 < Zv b) {V : Int} (hV : Rep V) (h : Zv a * P2 1074 = V * Zv b) : DFin (FP.ddiv a b) ∧ Zv (FP.ddiv a b) = V := by
  obtain ⟨h1, h2, h3⟩ := div_in ha hb hp hV hV (Int.le_of_eq h.symm) (Int.le_of_eq h)
  exact ⟨h1, Int.le_antisymm h3 h2⟩
/-! whole numbers -/
theorem l2d_in {n : Int64} {L H : Int} (hL : Rep L) (hH : Rep H) (h1 : L ≤ n.toInt * P2 1074) (h2 : n.toInt * P2 1074 ≤ H) : L ≤ Zv (FP.l2d n) ∧ Zv (FP.l2d n) ≤ H := by
  obtain ⟨x, hx, rfl⟩ := hL
  obtain ⟨y, hy, rfl⟩ := hH
  exact ⟨l2d_zval_ge hx.ne_nan h1, l2d_zval_le hy.ne_nan h2⟩
theorem l2d_dfin (n : Int64) : DFin (FP.l2d n) := Core.l2d_fin n
theorem i2d_dfin (n : Int32) : DFin (FP.i2d n) := Core.i2d_fin n
theorem l2d_rep {n : Int64} (h : Rep (n.toInt * P2 1074)) : Zv (FP.l2d n) = n.toInt * P2 1074 := by
  obtain ⟨h1, h2⟩ := l2d_in h h (Int.le_refl _) (Int.le_refl _)
  exact Int.le_antisymm h2 h1
theorem l2d_eq {n : Int64} (h : n.toInt.natAbs ≤ 2 ^ 53) : Zv (FP.l2d n) = n.toInt * P2 1074 := l2d_rep (rep_int _ h)
theorem i2d_eq (n : Int32) : Zv (FP.i2d n) = n.toInt * P2 1074 := by
  rw [i2d_w, l2d_eq (by rw [Int32.toInt_toInt64]; have := int32_abs n; omega), Int32.toInt_toInt64]
theorem d2l_eq {a : UInt64} (ha : DFin a) {n : Int} (h : Zv a = n * P2 1074) (h1 : -9223372036854775808 ≤ n) (h2 : n < 9223372036854775808) : (FP.d2l a).toInt = n := by
  have e := d2l_val ha.ne_nan
  have z : signed (sgn (val64 a)) (zmag b64 (val64 a)) = n * (one64 : Int) := h
  have hp := one64_pos
  have hm : zmag b64 (val64 a) = n.natAbs * one64 := by
    have q := congrArg Int.natAbs z
    rw [natAbs_signed, Int.natAbs_mul] at q
    exact q
  have hs : signed (sgn (val64 a)) n.natAbs = n := by
    rw [hm, signed_mul] at z
    exact Int.eq_of_mul_eq_mul_right (by omega) z
  rw [hm, Nat.mul_div_cancel _ hp, hs] at e
  show (Core.d2l a).toInt = n
  rw [e]; omega
/-! comparisons -/
theorem cmp_lt {a b : UInt64} (ha : DFin a) (hb : DFin b) (o : CmpOp) (h : Zv a < Zv b) : cmpValue (FP.dcmp a b) o = -1 := by
  rw [show FP.dcmp a b = some .lt from dcmp_lt.mpr ⟨ha.ne_nan, hb.ne_nan, h⟩]; rfl
theorem cmp_eq {a b : UInt64} (ha : DFin a) (hb : DFin b) (o : CmpOp) (h : Zv a = Zv b) : cmpValue (FP.dcmp a b) o = 0 := by
  rw [show FP.dcmp a b = some .eq from dcmp_eq.mpr ⟨ha.ne_nan, hb.ne_nan, h⟩]; rfl
theorem cmp_gt {a b : UInt64} (ha : DFin a) (hb : DFin b) (o : CmpOp) (h : Zv b < Zv a) : cmpValue (FP.dcmp a b) o = 1 := by
  rw [show FP.dcmp a b = some .gt from dcmp_gt.mpr ⟨ha.ne_nan, hb.ne_nan, h⟩]; rfl
/-! constants -/
theorem zero_fin : DFin 0 := (fin_bits _).mpr (by decide)
theorem zero_z : Zv 0 = 0 := zval64_zero
theorem one_fin : DFin 4607182418800017408 := (fin_bits _).mpr (by decide)
theorem one_z : Zv 4607182418800017408 = 1 * P2 1074 := by unfold Zv P2; decide +kernel
end OwnFp

/-! own layer 2: walking forward -/
section OwnGo
open Jvm.Free.Fl
variable {p : Program} {l : Launch} {e : Env} {R : Room} {s : State} {m : MethodId} {args : Array Value} {below : List Frame} {meth : Method} {c : Code} {T : State} {locs : List Loc} {cells slots : Nat} {Q : Outcome → State → Prop}
/-- from here the run comes to an end that Q allows -/
def Go (p : Program) (e : Env) (below : List Frame) (Q : Outcome → State → Prop) (S : State) : Prop :=
  ∃ s₂ o, Steps p.tables e below S s₂ ∧ s₂.status = .running ∧ Ended s₂ below o ∧ Q o s₂
theorem Go.of {S S' : State} (h : ∀ t, Steps p.tables e below S' t → Steps p.tables e below S t) (g : Go p e below Q S') : Go p e below Q S := by
  obtain ⟨s₂, o, h1, h2⟩ := g
  exact ⟨s₂, o, h _ h1, h2⟩
theorem Go.tr {S S' : State} (h : Steps p.tables e below S S') (g : Go p e below Q S') : Go p e below Q S := Go.of (fun _ k => h.trans k) g
abbrev Ret (s : State) (Qv : Option Value → Heap → List Loc → Prop) (kc ks : Nat) : Outcome → State → Prop := fun o U' => ∃ v L, o = .returned v ∧ Qv v U'.heap L ∧ FrameEnd s o U' L kc ks
theorem Go.done (X : Stand p l e R s m args below meth c T locs cells slots) {g : JFrame} {v : Option Value} (hv : meth.sig.returnType = none → v = none) (hlocks : meth.locks = false)
    (hst : ∀ fs, (∀ (f : JFrame) (acts : List Action), f.method = m → f.locked = none → f.entered = [] → (doReturn e (T.setTop f) acts v).1 = T.setFrames fs) → Steps p.tables e below (T.setTop g) (T.setFrames fs))
    {Qv : Option Value → Heap → List Loc → Prop} {kc ks : Nat} (hc : cells ≤ kc) (hk : slots ≤ ks) (hq : Qv v T.heap locs) : Go p e below (Ret s Qv kc ks) (T.setTop g) := by
  obtain ⟨fs, hr, hrun, hended, hW, hsame⟩ := X.leave (v := v) hv hlocks
  exact ⟨_, _, hst fs hr, hrun, hended, v, locs, rfl, hq, ⟨_, rfl⟩, hW, hsame.mono hc hk⟩
theorem Go.retV (X : Stand p l e R s m args below meth c T locs cells slots) (hx : p.tables.exec = Jvm.exec) {pc : Nat} {Ls : Array Slot} (hret : meth.sig.returnType = none) (hlk : meth.locks = false) (hd : decode c.code pc = .ok (.return_, 1))
    {Qv : Option Value → Heap → List Loc → Prop} {kc ks : Nat} (hc : cells ≤ kc) (hk : slots ≤ ks) (hq : Qv none T.heap locs) : Go p e below (Ret s Qv kc ks) (T.setTop (mkF m pc Ls [])) :=
  Go.done X (fun _ => rfl) hlk (fun _ hr => X.returnOut hx hret hd hr) hc hk hq
theorem Go.retL (X : Stand p l e R s m args below meth c T locs cells slots) (hx : p.tables.exec = Jvm.exec) {pc : Nat} {Ls : Array Slot} {st : List Value} {z : Int64} (hret : meth.sig.returnType = some .long) (hlk : meth.locks = false) (hd : decode c.code pc = .ok (.lreturn, 1))
    {Qv : Option Value → Heap → List Loc → Prop} {kc ks : Nat} (hc : cells ≤ kc) (hk : slots ≤ ks) (hq : Qv (some (.long z)) T.heap locs) : Go p e below (Ret s Qv kc ks) (T.setTop (mkF m pc Ls ((.long z) :: st))) :=
  Go.done X (fun h => by rw [hret] at h; cases h) hlk (fun _ hr => retOut X hx hret rfl (Or.inr (Or.inl ⟨rfl, rfl, z, rfl⟩)) hd hr) hc hk hq
theorem Go.retD (X : Stand p l e R s m args below meth c T locs cells slots) (hx : p.tables.exec = Jvm.exec) {pc : Nat} {Ls : Array Slot} {st : List Value} {z : UInt64} (hret : meth.sig.returnType = some .double) (hlk : meth.locks = false) (hd : decode c.code pc = .ok (.dreturn, 1))
    {Qv : Option Value → Heap → List Loc → Prop} {kc ks : Nat} (hc : cells ≤ kc) (hk : slots ≤ ks) (hq : Qv (some (.double z)) T.heap locs) : Go p e below (Ret s Qv kc ks) (T.setTop (mkF m pc Ls ((.double z) :: st))) :=
  Go.done X (fun h => by rw [hret] at h; cases h) hlk (fun _ hr => retOut X hx hret rfl (Or.inr (Or.inr (Or.inl ⟨rfl, rfl, z, rfl⟩))) hd hr) hc hk hq
theorem Go.retF (X : Stand p l e R s m args below meth c T locs cells slots) (hx : p.tables.exec = Jvm.exec) {pc : Nat} {Ls : Array Slot} {st : List Value} {z : UInt32} (hret : meth.sig.returnType = some .float) (hlk : meth.locks = false) (hd : decode c.code pc = .ok (.freturn, 1))
    {Qv : Option Value → Heap → List Loc → Prop} {kc ks : Nat} (hc : cells ≤ kc) (hk : slots ≤ ks) (hq : Qv (some (.float z)) T.heap locs) : Go p e below (Ret s Qv kc ks) (T.setTop (mkF m pc Ls ((.float z) :: st))) :=
  Go.done X (fun h => by rw [hret] at h; cases h) hlk (fun _ hr => retOut X hx hret rfl (Or.inr (Or.inr (Or.inr (Or.inl ⟨rfl, rfl, z, rfl⟩)))) hd hr) hc hk hq
theorem Go.retI (X : Stand p l e R s m args below meth c T locs cells slots) (hx : p.tables.exec = Jvm.exec) {pc : Nat} {Ls : Array Slot} {st : List Value} {z : Int32} (hret : meth.sig.returnType = some .int) (hlk : meth.locks = false) (hd : decode c.code pc = .ok (.ireturn, 1))
    {Qv : Option Value → Heap → List Loc → Prop} {kc ks : Nat} (hc : cells ≤ kc) (hk : slots ≤ ks) (hq : Qv (some (.int z)) T.heap locs) : Go p e below (Ret s Qv kc ks) (T.setTop (mkF m pc Ls ((.int z) :: st))) :=
  Go.done X (fun h => by rw [hret] at h; cases h) hlk (fun _ hr => retOut X hx hret rfl (Or.inl ⟨rfl, Or.inl rfl, z, rfl⟩) hd hr) hc hk hq
theorem Go.retZ (X : Stand p l e R s m args below meth c T locs cells slots) (hx : p.tables.exec = Jvm.exec) {pc : Nat} {Ls : Array Slot} {st : List Value} {z : Int32} (hret : meth.sig.returnType = some .boolean) (hlk : meth.locks = false) (hd : decode c.code pc = .ok (.ireturn, 1)) (hz : z = 0 ∨ z = 1)
    {Qv : Option Value → Heap → List Loc → Prop} {kc ks : Nat} (hc : cells ≤ kc) (hk : slots ≤ ks) (hq : Qv (some (.int z)) T.heap locs) : Go p e below (Ret s Qv kc ks) (T.setTop (mkF m pc Ls ((.int z) :: st))) :=
  Go.done X (fun h => by rw [hret] at h; cases h) hlk (fun _ hr => retOut X hx hret (by rcases hz with rfl | rfl <;> rfl) (Or.inl ⟨rfl, Or.inr (Or.inl rfl), z, rfl⟩) hd hr) hc hk hq
theorem Go.retA (X : Stand p l e R s m args below meth c T locs cells slots) (hx : p.tables.exec = Jvm.exec) {pc : Nat} {Ls : Array Slot} {st : List Value} {v : Value} {t : FieldType} (hret : meth.sig.returnType = some t) (hlk : meth.locks = false) (hd : decode c.code pc = .ok (.areturn, 1)) (ht : t.isReference = true) (hv : v.isRef = true) (hn : narrow t v = v)
    {Qv : Option Value → Heap → List Loc → Prop} {kc ks : Nat} (hc : cells ≤ kc) (hk : slots ≤ ks) (hq : Qv (some v) T.heap locs) : Go p e below (Ret s Qv kc ks) (T.setTop (mkF m pc Ls (v :: st))) :=
  Go.done X (fun h => by rw [hret] at h; cases h) hlk (fun _ hr => retOut X hx hret hn (Or.inr (Or.inr (Or.inr (Or.inr ⟨rfl, ht, hv⟩)))) hd hr) hc hk hq
theorem enter {l : Launch} {Z : State} {y : MethodName} {bytes : ByteArray} {maxL : Nat} {ret : Option FieldType} {ws : List Jvm.Cond} {rm : Room} {as' : Array Value} {h0 : Heap} {Qv : Option Value → Heap → List Loc → Prop} {Ls : Array Slot} {kc ks : Nat}
    (hpn : plainFor y = true) (hef : ∀ m, entryFrame m as' maxL = mkF m 0 Ls [])
    (body : ∀ (p : Program) (e : Env) (s : State) (m : MethodId) (below : List Frame) (meth : Method) (c : Code) (s₁ : State), p.tables.exec = Jvm.exec → c.code = bytes → c.maxLocals = maxL → s.vm.findClass y.cls = some m.cls → meth.name = y.name → meth.sig.returnType = ret → meth.locks = false → Z.Warmed39 s.vm →
      Stand p l e rm s m as' below meth c s₁ [] 0 0 → s₁.heap = h0 → Go p e below (Ret s Qv kc ks) (s₁.setTop (mkF m 0 Ls []))) :
    MetFree l y (head1 (Jvm.Cond.code y bytes maxL ret :: ws) rm) (fun a U => a = as' ∧ Z.Warmed39 U.vm ∧ U.heap = h0) (fun _ _ _ _ _ => True) (fun _ U o U' => ∃ v L, o = .returned v ∧ Qv v U'.heap L ∧ FrameEnd U o U' L kc ks) := by
  refine MetFree.of_bodySF hpn hisR ?_
  intro p e s m args below meth c s₁ Bd hml0 hP hK
  obtain ⟨rfl, hZ, hh⟩ := hP
  have e0 : s₁.heap = h0 := by rw [← hh, Bd.state]; rfl
  obtain ⟨s₂, o, h1, h2, h3, h4⟩ := body p e s m below meth c s₁ Bd.exec Bd.bytes hml0 (findClass_of_methodNamed Bd.named) (name_of_methodNamed Bd.named Bd.method).1 Bd.returns (BodyLoose.notSynchronized Bd) hZ (Stand.of_body Bd) e0
  exact ⟨s₂, o, castTop (hef m) h1, h2, h3, h4⟩
theorem Go.iload (h : At T m c below) (hx : p.tables.exec = Jvm.exec) {pc q : Nat} {Ls : Array Slot} {st : List Value} {k : Nat} {v : Int32} (hd : decode c.code pc = .ok (.iload k, 2)) (hl : Ls[k]? = some (.val (.int v))) (hq : pc + 2 = q) (g : Go p e below Q (T.setTop (mkF m q Ls (.int v :: st)))) : Go p e below Q (T.setTop (mkF m pc Ls st)) := by
  subst hq; exact Go.of (fun _ r => XS.iload h hx rfl hd hl r) g
theorem Go.iloadN (h : At T m c below) (hx : p.tables.exec = Jvm.exec) {pc q : Nat} {Ls : Array Slot} {st : List Value} {k : Fin 4} {v : Int32} (hd : decode c.code pc = .ok (.iload_n k, 1)) (hl : Ls[k.val]? = some (.val (.int v))) (hq : pc + 1 = q) (g : Go p e below Q (T.setTop (mkF m q Ls (.int v :: st)))) : Go p e below Q (T.setTop (mkF m pc Ls st)) := by
  subst hq; exact Go.of (fun _ r => XS.iloadN h hx rfl hd hl r) g
theorem Go.istore (h : At T m c below) (hx : p.tables.exec = Jvm.exec) {pc q : Nat} {Ls : Array Slot} {st : List Value} {k : Nat} {v : Int32} {l2 : Array Slot} (hd : decode c.code pc = .ok (.istore k, 2)) (hl : storeLocals Ls k (.int v) = some l2) (hq : pc + 2 = q) (g : Go p e below Q (T.setTop (mkF m q l2 st))) : Go p e below Q (T.setTop (mkF m pc Ls (.int v :: st))) := by
  subst hq; exact Go.of (fun _ r => XS.istore h hx rfl hd rfl hl r) g
theorem Go.istoreN (h : At T m c below) (hx : p.tables.exec = Jvm.exec) {pc q : Nat} {Ls : Array Slot} {st : List Value} {k : Fin 4} {v : Int32} {l2 : Array Slot} (hd : decode c.code pc = .ok (.istore_n k, 1)) (hl : storeLocals Ls k.val (.int v) = some l2) (hq : pc + 1 = q) (g : Go p e below Q (T.setTop (mkF m q l2 st))) : Go p e below Q (T.setTop (mkF m pc Ls (.int v :: st))) := by
  subst hq; exact Go.of (fun _ r => XS.istoreN h hx rfl hd rfl hl r) g
theorem Go.lload (h : At T m c below) (hx : p.tables.exec = Jvm.exec) {pc q : Nat} {Ls : Array Slot} {st : List Value} {k : Nat} {v : Int64} (hd : decode c.code pc = .ok (.lload k, 2)) (hl : Ls[k]? = some (.val (.long v))) (hq : pc + 2 = q) (g : Go p e below Q (T.setTop (mkF m q Ls (.long v :: st)))) : Go p e below Q (T.setTop (mkF m pc Ls st)) := by
  subst hq; exact Go.of (fun _ r => XS.lload h hx rfl hd hl r) g
theorem Go.lloadN (h : At T m c below) (hx : p.tables.exec = Jvm.exec) {pc q : Nat} {Ls : Array Slot} {st : List Value} {k : Fin 4} {v : Int64} (hd : decode c.code pc = .ok (.lload_n k, 1)) (hl : Ls[k.val]? = some (.val (.long v))) (hq : pc + 1 = q) (g : Go p e below Q (T.setTop (mkF m q Ls (.long v :: st)))) : Go p e below Q (T.setTop (mkF m pc Ls st)) := by
  subst hq; exact Go.of (fun _ r => XS.lloadN h hx rfl hd hl r) g
theorem Go.lstore (h : At T m c below) (hx : p.tables.exec = Jvm.exec) {pc q : Nat} {Ls : Array Slot} {st : List Value} {k : Nat} {v : Int64} {l2 : Array Slot} (hd : decode c.code pc = .ok (.lstore k, 2)) (hl : storeLocals Ls k (.long v) = some l2) (hq : pc + 2 = q) (g : Go p e below Q (T.setTop (mkF m q l2 st))) : Go p e below Q (T.setTop (mkF m pc Ls (.long v :: st))) := by
  subst hq; exact Go.of (fun _ r => XS.lstore h hx rfl hd rfl hl r) g
theorem Go.lstoreN (h : At T m c below) (hx : p.tables.exec = Jvm.exec) {pc q : Nat} {Ls : Array Slot} {st : List Value} {k : Fin 4} {v : Int64} {l2 : Array Slot} (hd : decode c.code pc = .ok (.lstore_n k, 1)) (hl : storeLocals Ls k.val (.long v) = some l2) (hq : pc + 1 = q) (g : Go p e below Q (T.setTop (mkF m q l2 st))) : Go p e below Q (T.setTop (mkF m pc Ls (.long v :: st))) := by
  subst hq; exact Go.of (fun _ r => XS.lstoreN h hx rfl hd rfl hl r) g
theorem Go.dload (h : At T m c below) (hx : p.tables.exec = Jvm.exec) {pc q : Nat} {Ls : Array Slot} {st : List Value} {k : Nat} {v : UInt64} (hd : decode c.code pc = .ok (.dload k, 2)) (hl : Ls[k]? = some (.val (.double v))) (hq : pc + 2 = q) (g : Go p e below Q (T.setTop (mkF m q Ls (.double v :: st)))) : Go p e below Q (T.setTop (mkF m pc Ls st)) := by
  subst hq; exact Go.of (fun _ r => XS.dload h hx rfl hd hl r) g
theorem Go.dloadN (h : At T m c below) (hx : p.tables.exec = Jvm.exec) {pc q : Nat} {Ls : Array Slot} {st : List Value} {k : Fin 4} {v : UInt64} (hd : decode c.code pc = .ok (.dload_n k, 1)) (hl : Ls[k.val]? = some (.val (.double v))) (hq : pc + 1 = q) (g : Go p e below Q (T.setTop (mkF m q Ls (.double v :: st)))) : Go p e below Q (T.setTop (mkF m pc Ls st)) := by
  subst hq; exact Go.of (fun _ r => XS.dloadN h hx rfl hd hl r) g
theorem Go.dstore (h : At T m c below) (hx : p.tables.exec = Jvm.exec) {pc q : Nat} {Ls : Array Slot} {st : List Value} {k : Nat} {v : UInt64} {l2 : Array Slot} (hd : decode c.code pc = .ok (.dstore k, 2)) (hl : storeLocals Ls k (.double v) = some l2) (hq : pc + 2 = q) (g : Go p e below Q (T.setTop (mkF m q l2 st))) : Go p e below Q (T.setTop (mkF m pc Ls (.double v :: st))) := by
  subst hq; exact Go.of (fun _ r => XS.dstore h hx rfl hd rfl hl r) g
theorem Go.dstoreN (h : At T m c below) (hx : p.tables.exec = Jvm.exec) {pc q : Nat} {Ls : Array Slot} {st : List Value} {k : Fin 4} {v : UInt64} {l2 : Array Slot} (hd : decode c.code pc = .ok (.dstore_n k, 1)) (hl : storeLocals Ls k.val (.double v) = some l2) (hq : pc + 1 = q) (g : Go p e below Q (T.setTop (mkF m q l2 st))) : Go p e below Q (T.setTop (mkF m pc Ls (.double v :: st))) := by
  subst hq; exact Go.of (fun _ r => XS.dstoreN h hx rfl hd rfl hl r) g
theorem Go.fload (h : At T m c below) (hx : p.tables.exec = Jvm.exec) {pc q : Nat} {Ls : Array Slot} {st : List Value} {k : Nat} {v : UInt32} (hd : decode c.code pc = .ok (.fload k, 2)) (hl : Ls[k]? = some (.val (.float v))) (hq : pc + 2 = q) (g : Go p e below Q (T.setTop (mkF m q Ls (.float v :: st)))) : Go p e below Q (T.setTop (mkF m pc Ls st)) := by
  subst hq; exact Go.of (fun _ r => XS.fload h hx rfl hd hl r) g
theorem Go.floadN (h : At T m c below) (hx : p.tables.exec = Jvm.exec) {pc q : Nat} {Ls : Array Slot} {st : List Value} {k : Fin 4} {v : UInt32} (hd : decode c.code pc = .ok (.fload_n k, 1)) (hl : Ls[k.val]? = some (.val (.float v))) (hq : pc + 1 = q) (g : Go p e below Q (T.setTop (mkF m q Ls (.float v :: st)))) : Go p e below Q (T.setTop (mkF m pc Ls st)) := by
  subst hq; exact Go.of (fun _ r => XS.floadN h hx rfl hd hl r) g
theorem Go.fstore (h : At T m c below) (hx : p.tables.exec = Jvm.exec) {pc q : Nat} {Ls : Array Slot} {st : List Value} {k : Nat} {v : UInt32} {l2 : Array Slot} (hd : decode c.code pc = .ok (.fstore k, 2)) (hl : storeLocals Ls k (.float v) = some l2) (hq : pc + 2 = q) (g : Go p e below Q (T.setTop (mkF m q l2 st))) : Go p e below Q (T.setTop (mkF m pc Ls (.float v :: st))) := by
  subst hq; exact Go.of (fun _ r => XS.fstore h hx rfl hd rfl hl r) g
theorem Go.fstoreN (h : At T m c below) (hx : p.tables.exec = Jvm.exec) {pc q : Nat} {Ls : Array Slot} {st : List Value} {k : Fin 4} {v : UInt32} {l2 : Array Slot} (hd : decode c.code pc = .ok (.fstore_n k, 1)) (hl : storeLocals Ls k.val (.float v) = some l2) (hq : pc + 1 = q) (g : Go p e below Q (T.setTop (mkF m q l2 st))) : Go p e below Q (T.setTop (mkF m pc Ls (.float v :: st))) := by
  subst hq; exact Go.of (fun _ r => XS.fstoreN h hx rfl hd rfl hl r) g
theorem Go.aload (h : At T m c below) (hx : p.tables.exec = Jvm.exec) {pc q : Nat} {Ls : Array Slot} {st : List Value} {k : Nat} {v : Value} (hd : decode c.code pc = .ok (.aload k, 2)) (hl : Ls[k]? = some (.val v)) (hv : v.isRef = true) (hq : pc + 2 = q) (g : Go p e below Q (T.setTop (mkF m q Ls (v :: st)))) : Go p e below Q (T.setTop (mkF m pc Ls st)) := by
  subst hq; exact Go.of (fun _ r => XS.aload h hx rfl hd hl hv r) g
theorem Go.aloadN (h : At T m c below) (hx : p.tables.exec = Jvm.exec) {pc q : Nat} {Ls : Array Slot} {st : List Value} {k : Fin 4} {v : Value} (hd : decode c.code pc = .ok (.aload_n k, 1)) (hl : Ls[k.val]? = some (.val v)) (hv : v.isRef = true) (hq : pc + 1 = q) (g : Go p e below Q (T.setTop (mkF m q Ls (v :: st)))) : Go p e below Q (T.setTop (mkF m pc Ls st)) := by
  subst hq; exact Go.of (fun _ r => XS.aloadN h hx rfl hd hl hv r) g
theorem Go.astore (h : At T m c below) (hx : p.tables.exec = Jvm.exec) {pc q : Nat} {Ls : Array Slot} {st : List Value} {k : Nat} {v : Value} {l2 : Array Slot} (hd : decode c.code pc = .ok (.astore k, 2)) (hv : v.isRef = true) (hl : storeLocals Ls k v = some l2) (hq : pc + 2 = q) (g : Go p e below Q (T.setTop (mkF m q l2 st))) : Go p e below Q (T.setTop (mkF m pc Ls (v :: st))) := by
  subst hq; exact Go.of (fun _ r => XS.astore h hx rfl hd rfl hv hl r) g
theorem Go.astoreN (h : At T m c below) (hx : p.tables.exec = Jvm.exec) {pc q : Nat} {Ls : Array Slot} {st : List Value} {k : Fin 4} {v : Value} {l2 : Array Slot} (hd : decode c.code pc = .ok (.astore_n k, 1)) (hv : v.isRef = true) (hl : storeLocals Ls k.val v = some l2) (hq : pc + 1 = q) (g : Go p e below Q (T.setTop (mkF m q l2 st))) : Go p e below Q (T.setTop (mkF m pc Ls (v :: st))) := by
  subst hq; exact Go.of (fun _ r => XS.astoreN h hx rfl hd rfl hv hl r) g
theorem Go.iconst (h : At T m c below) (hx : p.tables.exec = Jvm.exec) {pc q : Nat} {Ls : Array Slot} {st : List Value} {i : Int} {v : Int32} (hd : decode c.code pc = .ok (.iconst i, 1)) (hv : Int32.ofInt i = v) (hq : pc + 1 = q) (g : Go p e below Q (T.setTop (mkF m q Ls (.int v :: st)))) : Go p e below Q (T.setTop (mkF m pc Ls st)) := by
  subst hq hv; exact Go.of (fun _ r => XS.iconst h hx rfl hd r) g
theorem Go.bipush (h : At T m c below) (hx : p.tables.exec = Jvm.exec) {pc q : Nat} {Ls : Array Slot} {st : List Value} {i : Int} {v : Int32} (hd : decode c.code pc = .ok (.bipush i, 2)) (hv : (Int8.ofInt i).toInt32 = v) (hq : pc + 2 = q) (g : Go p e below Q (T.setTop (mkF m q Ls (.int v :: st)))) : Go p e below Q (T.setTop (mkF m pc Ls st)) := by
  subst hq hv; exact Go.of (fun _ r => XS.bipush h hx rfl hd r) g
theorem Go.sipush (h : At T m c below) (hx : p.tables.exec = Jvm.exec) {pc q : Nat} {Ls : Array Slot} {st : List Value} {i : Int} {v : Int32} (hd : decode c.code pc = .ok (.sipush i, 3)) (hv : (Int16.ofInt i).toInt32 = v) (hq : pc + 3 = q) (g : Go p e below Q (T.setTop (mkF m q Ls (.int v :: st)))) : Go p e below Q (T.setTop (mkF m pc Ls st)) := by
  subst hq hv; exact Go.of (fun _ r => XS.sipush h hx rfl hd r) g
theorem Go.lconst (h : At T m c below) (hx : p.tables.exec = Jvm.exec) {pc q : Nat} {Ls : Array Slot} {st : List Value} {k : Fin 2} {v : Int64} (hd : decode c.code pc = .ok (.lconst k, 1)) (hv : Int64.ofNat k = v) (hq : pc + 1 = q) (g : Go p e below Q (T.setTop (mkF m q Ls (.long v :: st)))) : Go p e below Q (T.setTop (mkF m pc Ls st)) := by
  subst hq hv; exact Go.of (fun _ r => XS.lconst h hx rfl hd r) g
theorem Go.aconst (h : At T m c below) (hx : p.tables.exec = Jvm.exec) {pc q : Nat} {Ls : Array Slot} {st : List Value}  (hd : decode c.code pc = .ok (.aconst_null, 1)) (hq : pc + 1 = q) (g : Go p e below Q (T.setTop (mkF m q Ls (.null :: st)))) : Go p e below Q (T.setTop (mkF m pc Ls st)) := by
  subst hq; exact Go.of (fun _ r => XS.aconstNull h hx rfl hd r) g
theorem Go.dconst0 (h : At T m c below) (hx : p.tables.exec = Jvm.exec) {pc q : Nat} {Ls : Array Slot} {st : List Value} {v : UInt64} (hd : decode c.code pc = .ok (.dconst 0, 1)) (hv : FP.dconst0 = v) (hq : pc + 1 = q) (g : Go p e below Q (T.setTop (mkF m q Ls (.double v :: st)))) : Go p e below Q (T.setTop (mkF m pc Ls st)) := by
  subst hq; exact Go.of (fun _ r => XS.dconst0 h hx rfl hd hv r) g
theorem Go.dconst1 (h : At T m c below) (hx : p.tables.exec = Jvm.exec) {pc q : Nat} {Ls : Array Slot} {st : List Value} {v : UInt64} (hd : decode c.code pc = .ok (.dconst 1, 1)) (hv : FP.dconst1 = v) (hq : pc + 1 = q) (g : Go p e below Q (T.setTop (mkF m q Ls (.double v :: st)))) : Go p e below Q (T.setTop (mkF m pc Ls st)) := by
  subst hq; exact Go.of (fun _ r => XS.dconst1 h hx rfl hd hv r) g
theorem Go.fconst0 (h : At T m c below) (hx : p.tables.exec = Jvm.exec) {pc q : Nat} {Ls : Array Slot} {st : List Value} {v : UInt32} (hd : decode c.code pc = .ok (.fconst 0, 1)) (hv : FP.fconst0 = v) (hq : pc + 1 = q) (g : Go p e below Q (T.setTop (mkF m q Ls (.float v :: st)))) : Go p e below Q (T.setTop (mkF m pc Ls st)) := by
  subst hq; exact Go.of (fun _ r => XS.fconst0 h hx rfl hd hv r) g
theorem Go.fconst1 (h : At T m c below) (hx : p.tables.exec = Jvm.exec) {pc q : Nat} {Ls : Array Slot} {st : List Value} {v : UInt32} (hd : decode c.code pc = .ok (.fconst 1, 1)) (hv : FP.fconst1 = v) (hq : pc + 1 = q) (g : Go p e below Q (T.setTop (mkF m q Ls (.float v :: st)))) : Go p e below Q (T.setTop (mkF m pc Ls st)) := by
  subst hq; exact Go.of (fun _ r => XS.fconst1 h hx rfl hd hv r) g
theorem Go.iadd (h : At T m c below) (hx : p.tables.exec = Jvm.exec) {pc q : Nat} {Ls : Array Slot} {st : List Value} {x : Int32} {y : Int32} {v : Int32} (hd : decode c.code pc = .ok (.iadd, 1)) (hv : x + y = v) (hq : pc + 1 = q) (g : Go p e below Q (T.setTop (mkF m q Ls (.int v :: st)))) : Go p e below Q (T.setTop (mkF m pc Ls (.int y :: .int x :: st))) := by
  subst hq hv; exact Go.of (fun _ r => XS.iadd h hx rfl hd rfl r) g
theorem Go.isub (h : At T m c below) (hx : p.tables.exec = Jvm.exec) {pc q : Nat} {Ls : Array Slot} {st : List Value} {x : Int32} {y : Int32} {v : Int32} (hd : decode c.code pc = .ok (.isub, 1)) (hv : x - y = v) (hq : pc + 1 = q) (g : Go p e below Q (T.setTop (mkF m q Ls (.int v :: st)))) : Go p e below Q (T.setTop (mkF m pc Ls (.int y :: .int x :: st))) := by
  subst hq hv; exact Go.of (fun _ r => XS.isub h hx rfl hd rfl r) g
theorem Go.iand (h : At T m c below) (hx : p.tables.exec = Jvm.exec) {pc q : Nat} {Ls : Array Slot} {st : List Value} {x : Int32} {y : Int32} {v : Int32} (hd : decode c.code pc = .ok (.iand, 1)) (hv : x &&& y = v) (hq : pc + 1 = q) (g : Go p e below Q (T.setTop (mkF m q Ls (.int v :: st)))) : Go p e below Q (T.setTop (mkF m pc Ls (.int y :: .int x :: st))) := by
  subst hq hv; exact Go.of (fun _ r => XS.iand h hx rfl hd rfl r) g
theorem Go.imul (h : At T m c below) (hx : p.tables.exec = Jvm.exec) {pc q : Nat} {Ls : Array Slot} {st : List Value} {x : Int32} {y : Int32} {v : Int32} (hd : decode c.code pc = .ok (.imul, 1)) (hv : x * y = v) (hq : pc + 1 = q) (g : Go p e below Q (T.setTop (mkF m q Ls (.int v :: st)))) : Go p e below Q (T.setTop (mkF m pc Ls (.int y :: .int x :: st))) := by
  subst hq hv; exact Go.of (fun _ r => XS.imul h hx rfl hd rfl r) g
theorem Go.ixor (h : At T m c below) (hx : p.tables.exec = Jvm.exec) {pc q : Nat} {Ls : Array Slot} {st : List Value} {x : Int32} {y : Int32} {v : Int32} (hd : decode c.code pc = .ok (.ixor, 1)) (hv : x ^^^ y = v) (hq : pc + 1 = q) (g : Go p e below Q (T.setTop (mkF m q Ls (.int v :: st)))) : Go p e below Q (T.setTop (mkF m pc Ls (.int y :: .int x :: st))) := by
  subst hq hv; exact Go.of (fun _ r => XS.ixor h hx rfl hd rfl r) g
theorem Go.ior (h : At T m c below) (hx : p.tables.exec = Jvm.exec) {pc q : Nat} {Ls : Array Slot} {st : List Value} {x : Int32} {y : Int32} {v : Int32} (hd : decode c.code pc = .ok (.ior, 1)) (hv : x ||| y = v) (hq : pc + 1 = q) (g : Go p e below Q (T.setTop (mkF m q Ls (.int v :: st)))) : Go p e below Q (T.setTop (mkF m pc Ls (.int y :: .int x :: st))) := by
  subst hq hv; exact Go.of (fun _ r => XS.ior h hx rfl hd rfl r) g
theorem Go.ishl (h : At T m c below) (hx : p.tables.exec = Jvm.exec) {pc q : Nat} {Ls : Array Slot} {st : List Value} {x : Int32} {y : Int32} {v : Int32} (hd : decode c.code pc = .ok (.ishl, 1)) (hv : x <<< (y &&& 31) = v) (hq : pc + 1 = q) (g : Go p e below Q (T.setTop (mkF m q Ls (.int v :: st)))) : Go p e below Q (T.setTop (mkF m pc Ls (.int y :: .int x :: st))) := by
  subst hq hv; exact Go.of (fun _ r => XS.ishl h hx rfl hd rfl r) g
theorem Go.ishr (h : At T m c below) (hx : p.tables.exec = Jvm.exec) {pc q : Nat} {Ls : Array Slot} {st : List Value} {x : Int32} {y : Int32} {v : Int32} (hd : decode c.code pc = .ok (.ishr, 1)) (hv : x >>> (y &&& 31) = v) (hq : pc + 1 = q) (g : Go p e below Q (T.setTop (mkF m q Ls (.int v :: st)))) : Go p e below Q (T.setTop (mkF m pc Ls (.int y :: .int x :: st))) := by
  subst hq hv; exact Go.of (fun _ r => XS.ishr h hx rfl hd rfl r) g
theorem Go.iushr (h : At T m c below) (hx : p.tables.exec = Jvm.exec) {pc q : Nat} {Ls : Array Slot} {st : List Value} {x : Int32} {y : Int32} {v : Int32} (hd : decode c.code pc = .ok (.iushr, 1)) (hv : (x.toUInt32 >>> (y &&& 31).toUInt32).toInt32 = v) (hq : pc + 1 = q) (g : Go p e below Q (T.setTop (mkF m q Ls (.int v :: st)))) : Go p e below Q (T.setTop (mkF m pc Ls (.int y :: .int x :: st))) := by
  subst hq hv; exact Go.of (fun _ r => XS.iushr h hx rfl hd rfl r) g
theorem Go.idiv (h : At T m c below) (hx : p.tables.exec = Jvm.exec) {pc q : Nat} {Ls : Array Slot} {st : List Value} {x : Int32} {y : Int32} {v : Int32} (hd : decode c.code pc = .ok (.idiv, 1)) (hy : y ≠ 0) (hv : x / y = v) (hq : pc + 1 = q) (g : Go p e below Q (T.setTop (mkF m q Ls (.int v :: st)))) : Go p e below Q (T.setTop (mkF m pc Ls (.int y :: .int x :: st))) := by
  subst hq hv; exact Go.of (fun _ r => XS.idiv h hx rfl hd rfl hy r) g
theorem Go.irem (h : At T m c below) (hx : p.tables.exec = Jvm.exec) {pc q : Nat} {Ls : Array Slot} {st : List Value} {x : Int32} {y : Int32} {v : Int32} (hd : decode c.code pc = .ok (.irem, 1)) (hy : y ≠ 0) (hv : x - (x / y) * y = v) (hq : pc + 1 = q) (g : Go p e below Q (T.setTop (mkF m q Ls (.int v :: st)))) : Go p e below Q (T.setTop (mkF m pc Ls (.int y :: .int x :: st))) := by
  subst hq hv; exact Go.of (fun _ r => XS.irem h hx rfl hd rfl hy r) g
theorem Go.ladd (h : At T m c below) (hx : p.tables.exec = Jvm.exec) {pc q : Nat} {Ls : Array Slot} {st : List Value} {x : Int64} {y : Int64} {v : Int64} (hd : decode c.code pc = .ok (.ladd, 1)) (hv : x + y = v) (hq : pc + 1 = q) (g : Go p e below Q (T.setTop (mkF m q Ls (.long v :: st)))) : Go p e below Q (T.setTop (mkF m pc Ls (.long y :: .long x :: st))) := by
  subst hq hv; exact Go.of (fun _ r => XS.ladd h hx rfl hd rfl r) g
theorem Go.lsub (h : At T m c below) (hx : p.tables.exec = Jvm.exec) {pc q : Nat} {Ls : Array Slot} {st : List Value} {x : Int64} {y : Int64} {v : Int64} (hd : decode c.code pc = .ok (.lsub, 1)) (hv : x - y = v) (hq : pc + 1 = q) (g : Go p e below Q (T.setTop (mkF m q Ls (.long v :: st)))) : Go p e below Q (T.setTop (mkF m pc Ls (.long y :: .long x :: st))) := by
  subst hq hv; exact Go.of (fun _ r => XS.lsub h hx rfl hd rfl r) g
theorem Go.lmul (h : At T m c below) (hx : p.tables.exec = Jvm.exec) {pc q : Nat} {Ls : Array Slot} {st : List Value} {x : Int64} {y : Int64} {v : Int64} (hd : decode c.code pc = .ok (.lmul, 1)) (hv : x * y = v) (hq : pc + 1 = q) (g : Go p e below Q (T.setTop (mkF m q Ls (.long v :: st)))) : Go p e below Q (T.setTop (mkF m pc Ls (.long y :: .long x :: st))) := by
  subst hq hv; exact Go.of (fun _ r => XS.lmul h hx rfl hd rfl r) g
theorem Go.land (h : At T m c below) (hx : p.tables.exec = Jvm.exec) {pc q : Nat} {Ls : Array Slot} {st : List Value} {x : Int64} {y : Int64} {v : Int64} (hd : decode c.code pc = .ok (.land, 1)) (hv : x &&& y = v) (hq : pc + 1 = q) (g : Go p e below Q (T.setTop (mkF m q Ls (.long v :: st)))) : Go p e below Q (T.setTop (mkF m pc Ls (.long y :: .long x :: st))) := by
  subst hq hv; exact Go.of (fun _ r => XS.land h hx rfl hd rfl r) g
theorem Go.lor (h : At T m c below) (hx : p.tables.exec = Jvm.exec) {pc q : Nat} {Ls : Array Slot} {st : List Value} {x : Int64} {y : Int64} {v : Int64} (hd : decode c.code pc = .ok (.lor, 1)) (hv : x ||| y = v) (hq : pc + 1 = q) (g : Go p e below Q (T.setTop (mkF m q Ls (.long v :: st)))) : Go p e below Q (T.setTop (mkF m pc Ls (.long y :: .long x :: st))) := by
  subst hq hv; exact Go.of (fun _ r => XS.lor h hx rfl hd rfl r) g
theorem Go.lxor (h : At T m c below) (hx : p.tables.exec = Jvm.exec) {pc q : Nat} {Ls : Array Slot} {st : List Value} {x : Int64} {y : Int64} {v : Int64} (hd : decode c.code pc = .ok (.lxor, 1)) (hv : x ^^^ y = v) (hq : pc + 1 = q) (g : Go p e below Q (T.setTop (mkF m q Ls (.long v :: st)))) : Go p e below Q (T.setTop (mkF m pc Ls (.long y :: .long x :: st))) := by
  subst hq hv; exact Go.of (fun _ r => XS.lxor h hx rfl hd rfl r) g
theorem Go.lshl (h : At T m c below) (hx : p.tables.exec = Jvm.exec) {pc q : Nat} {Ls : Array Slot} {st : List Value} {x : Int64} {y : Int32} {v : Int64} (hd : decode c.code pc = .ok (.lshl, 1)) (hv : x <<< (y &&& 0x3f).toInt64 = v) (hq : pc + 1 = q) (g : Go p e below Q (T.setTop (mkF m q Ls (.long v :: st)))) : Go p e below Q (T.setTop (mkF m pc Ls (.int y :: .long x :: st))) := by
  subst hq hv; exact Go.of (fun _ r => XS.lshl h hx rfl hd rfl r) g
theorem Go.lshr (h : At T m c below) (hx : p.tables.exec = Jvm.exec) {pc q : Nat} {Ls : Array Slot} {st : List Value} {x : Int64} {y : Int32} {v : Int64} (hd : decode c.code pc = .ok (.lshr, 1)) (hv : x >>> (y &&& 0x3f).toInt64 = v) (hq : pc + 1 = q) (g : Go p e below Q (T.setTop (mkF m q Ls (.long v :: st)))) : Go p e below Q (T.setTop (mkF m pc Ls (.int y :: .long x :: st))) := by
  subst hq hv; exact Go.of (fun _ r => XS.lshr h hx rfl hd rfl r) g
theorem Go.lushr (h : At T m c below) (hx : p.tables.exec = Jvm.exec) {pc q : Nat} {Ls : Array Slot} {st : List Value} {x : Int64} {y : Int32} {v : Int64} (hd : decode c.code pc = .ok (.lushr, 1)) (hv : (x.toUInt64 >>> (y &&& 0x3f).toInt64.toUInt64).toInt64 = v) (hq : pc + 1 = q) (g : Go p e below Q (T.setTop (mkF m q Ls (.long v :: st)))) : Go p e below Q (T.setTop (mkF m pc Ls (.int y :: .long x :: st))) := by
  subst hq hv; exact Go.of (fun _ r => XS.lushr h hx rfl hd rfl r) g
theorem Go.ldiv (h : At T m c below) (hx : p.tables.exec = Jvm.exec) {pc q : Nat} {Ls : Array Slot} {st : List Value} {x : Int64} {y : Int64} {v : Int64} (hd : decode c.code pc = .ok (.ldiv, 1)) (hy : y ≠ 0) (hv : x / y = v) (hq : pc + 1 = q) (g : Go p e below Q (T.setTop (mkF m q Ls (.long v :: st)))) : Go p e below Q (T.setTop (mkF m pc Ls (.long y :: .long x :: st))) := by
  subst hq hv; exact Go.of (fun _ r => XS.ldiv h hx rfl hd rfl hy r) g
theorem Go.lrem (h : At T m c below) (hx : p.tables.exec = Jvm.exec) {pc q : Nat} {Ls : Array Slot} {st : List Value} {x : Int64} {y : Int64} {v : Int64} (hd : decode c.code pc = .ok (.lrem, 1)) (hy : y ≠ 0) (hv : x - (x / y) * y = v) (hq : pc + 1 = q) (g : Go p e below Q (T.setTop (mkF m q Ls (.long v :: st)))) : Go p e below Q (T.setTop (mkF m pc Ls (.long y :: .long x :: st))) := by
  subst hq hv; exact Go.of (fun _ r => XS.lrem h hx rfl hd rfl hy r) g
theorem Go.lcmp (h : At T m c below) (hx : p.tables.exec = Jvm.exec) {pc q : Nat} {Ls : Array Slot} {st : List Value} {x : Int64} {y : Int64} {v : Int32} (hd : decode c.code pc = .ok (.lcmp, 1)) (hv : lcmpW x y = v) (hq : pc + 1 = q) (g : Go p e below Q (T.setTop (mkF m q Ls (.int v :: st)))) : Go p e below Q (T.setTop (mkF m pc Ls (.long y :: .long x :: st))) := by
  subst hq hv; exact Go.of (fun _ r => XS.lcmp h hx rfl hd rfl r) g
theorem Go.ineg (h : At T m c below) (hx : p.tables.exec = Jvm.exec) {pc q : Nat} {Ls : Array Slot} {st : List Value} {x : Int32} {v : Int32} (hd : decode c.code pc = .ok (.ineg, 1)) (hv : -x = v) (hq : pc + 1 = q) (g : Go p e below Q (T.setTop (mkF m q Ls (.int v :: st)))) : Go p e below Q (T.setTop (mkF m pc Ls (.int x :: st))) := by
  subst hq hv; exact Go.of (fun _ r => XS.ineg h hx rfl hd rfl r) g
theorem Go.lneg (h : At T m c below) (hx : p.tables.exec = Jvm.exec) {pc q : Nat} {Ls : Array Slot} {st : List Value} {x : Int64} {v : Int64} (hd : decode c.code pc = .ok (.lneg, 1)) (hv : -x = v) (hq : pc + 1 = q) (g : Go p e below Q (T.setTop (mkF m q Ls (.long v :: st)))) : Go p e below Q (T.setTop (mkF m pc Ls (.long x :: st))) := by
  subst hq hv; exact Go.of (fun _ r => XS.lneg h hx rfl hd rfl r) g
theorem Go.i2l (h : At T m c below) (hx : p.tables.exec = Jvm.exec) {pc q : Nat} {Ls : Array Slot} {st : List Value} {x : Int32} {v : Int64} (hd : decode c.code pc = .ok (.i2l, 1)) (hv : x.toInt64 = v) (hq : pc + 1 = q) (g : Go p e below Q (T.setTop (mkF m q Ls (.long v :: st)))) : Go p e below Q (T.setTop (mkF m pc Ls (.int x :: st))) := by
  subst hq hv; exact Go.of (fun _ r => XS.i2l h hx rfl hd rfl r) g
theorem Go.l2i (h : At T m c below) (hx : p.tables.exec = Jvm.exec) {pc q : Nat} {Ls : Array Slot} {st : List Value} {x : Int64} {v : Int32} (hd : decode c.code pc = .ok (.l2i, 1)) (hv : x.toInt32 = v) (hq : pc + 1 = q) (g : Go p e below Q (T.setTop (mkF m q Ls (.int v :: st)))) : Go p e below Q (T.setTop (mkF m pc Ls (.long x :: st))) := by
  subst hq hv; exact Go.of (fun _ r => XS.l2i h hx rfl hd rfl r) g
theorem Go.i2d (h : At T m c below) (hx : p.tables.exec = Jvm.exec) {pc q : Nat} {Ls : Array Slot} {st : List Value} {x : Int32} {v : UInt64} (hd : decode c.code pc = .ok (.i2d, 1)) (hv : FP.i2d x = v) (hq : pc + 1 = q) (g : Go p e below Q (T.setTop (mkF m q Ls (.double v :: st)))) : Go p e below Q (T.setTop (mkF m pc Ls (.int x :: st))) := by
  subst hq; exact Go.of (fun _ r => XS.i2dS h hx rfl hd rfl hv r) g
theorem Go.l2d (h : At T m c below) (hx : p.tables.exec = Jvm.exec) {pc q : Nat} {Ls : Array Slot} {st : List Value} {x : Int64} {v : UInt64} (hd : decode c.code pc = .ok (.l2d, 1)) (hv : FP.l2d x = v) (hq : pc + 1 = q) (g : Go p e below Q (T.setTop (mkF m q Ls (.double v :: st)))) : Go p e below Q (T.setTop (mkF m pc Ls (.long x :: st))) := by
  subst hq; exact Go.of (fun _ r => XS.l2dS h hx rfl hd rfl hv r) g
theorem Go.d2i (h : At T m c below) (hx : p.tables.exec = Jvm.exec) {pc q : Nat} {Ls : Array Slot} {st : List Value} {x : UInt64} {v : Int32} (hd : decode c.code pc = .ok (.d2i, 1)) (hv : FP.d2i x = v) (hq : pc + 1 = q) (g : Go p e below Q (T.setTop (mkF m q Ls (.int v :: st)))) : Go p e below Q (T.setTop (mkF m pc Ls (.double x :: st))) := by
  subst hq; exact Go.of (fun _ r => XS.d2iS h hx rfl hd rfl hv r) g
theorem Go.d2l (h : At T m c below) (hx : p.tables.exec = Jvm.exec) {pc q : Nat} {Ls : Array Slot} {st : List Value} {x : UInt64} {v : Int64} (hd : decode c.code pc = .ok (.d2l, 1)) (hv : FP.d2l x = v) (hq : pc + 1 = q) (g : Go p e below Q (T.setTop (mkF m q Ls (.long v :: st)))) : Go p e below Q (T.setTop (mkF m pc Ls (.double x :: st))) := by
  subst hq; exact Go.of (fun _ r => XS.d2lS h hx rfl hd rfl hv r) g
theorem Go.dneg (h : At T m c below) (hx : p.tables.exec = Jvm.exec) {pc q : Nat} {Ls : Array Slot} {st : List Value} {x : UInt64} {v : UInt64} (hd : decode c.code pc = .ok (.dneg, 1)) (hv : FP.dneg x = v) (hq : pc + 1 = q) (g : Go p e below Q (T.setTop (mkF m q Ls (.double v :: st)))) : Go p e below Q (T.setTop (mkF m pc Ls (.double x :: st))) := by
  subst hq; exact Go.of (fun _ r => XS.dnegS h hx rfl hd rfl hv r) g
theorem Go.i2f (h : At T m c below) (hx : p.tables.exec = Jvm.exec) {pc q : Nat} {Ls : Array Slot} {st : List Value} {x : Int32} {v : UInt32} (hd : decode c.code pc = .ok (.i2f, 1)) (hv : FP.i2f x = v) (hq : pc + 1 = q) (g : Go p e below Q (T.setTop (mkF m q Ls (.float v :: st)))) : Go p e below Q (T.setTop (mkF m pc Ls (.int x :: st))) := by
  subst hq; exact Go.of (fun _ r => XS.i2fS h hx rfl hd rfl hv r) g
theorem Go.l2f (h : At T m c below) (hx : p.tables.exec = Jvm.exec) {pc q : Nat} {Ls : Array Slot} {st : List Value} {x : Int64} {v : UInt32} (hd : decode c.code pc = .ok (.l2f, 1)) (hv : FP.l2f x = v) (hq : pc + 1 = q) (g : Go p e below Q (T.setTop (mkF m q Ls (.float v :: st)))) : Go p e below Q (T.setTop (mkF m pc Ls (.long x :: st))) := by
  subst hq; exact Go.of (fun _ r => XS.l2fS h hx rfl hd rfl hv r) g
theorem Go.dadd (h : At T m c below) (hx : p.tables.exec = Jvm.exec) {pc q : Nat} {Ls : Array Slot} {st : List Value} {x y v : UInt64} (hd : decode c.code pc = .ok (.dadd, 1)) (hn : NoNaN64 (FP.dadd x y)) (hv : FP.dadd x y = v) (hq : pc + 1 = q) (g : Go p e below Q (T.setTop (mkF m q Ls (.double v :: st)))) : Go p e below Q (T.setTop (mkF m pc Ls (.double y :: .double x :: st))) := by
  subst hq; exact Go.of (fun _ r => XS.daddS h hx rfl hd rfl hn hv r) g
theorem Go.dsub (h : At T m c below) (hx : p.tables.exec = Jvm.exec) {pc q : Nat} {Ls : Array Slot} {st : List Value} {x y v : UInt64} (hd : decode c.code pc = .ok (.dsub, 1)) (hn : NoNaN64 (FP.dsub x y)) (hv : FP.dsub x y = v) (hq : pc + 1 = q) (g : Go p e below Q (T.setTop (mkF m q Ls (.double v :: st)))) : Go p e below Q (T.setTop (mkF m pc Ls (.double y :: .double x :: st))) := by
  subst hq; exact Go.of (fun _ r => XS.dsubS h hx rfl hd rfl hn hv r) g
theorem Go.dmul (h : At T m c below) (hx : p.tables.exec = Jvm.exec) {pc q : Nat} {Ls : Array Slot} {st : List Value} {x y v : UInt64} (hd : decode c.code pc = .ok (.dmul, 1)) (hn : NoNaN64 (FP.dmul x y)) (hv : FP.dmul x y = v) (hq : pc + 1 = q) (g : Go p e below Q (T.setTop (mkF m q Ls (.double v :: st)))) : Go p e below Q (T.setTop (mkF m pc Ls (.double y :: .double x :: st))) := by
  subst hq; exact Go.of (fun _ r => XS.dmulS h hx rfl hd rfl hn hv r) g
theorem Go.ddiv (h : At T m c below) (hx : p.tables.exec = Jvm.exec) {pc q : Nat} {Ls : Array Slot} {st : List Value} {x y v : UInt64} (hd : decode c.code pc = .ok (.ddiv, 1)) (hn : NoNaN64 (FP.ddiv x y)) (hv : FP.ddiv x y = v) (hq : pc + 1 = q) (g : Go p e below Q (T.setTop (mkF m q Ls (.double v :: st)))) : Go p e below Q (T.setTop (mkF m pc Ls (.double y :: .double x :: st))) := by
  subst hq; exact Go.of (fun _ r => XS.ddivS h hx rfl hd rfl hn hv r) g
theorem Go.dcmp (h : At T m c below) (hx : p.tables.exec = Jvm.exec) {pc q : Nat} {Ls : Array Slot} {st : List Value} {o : CmpOp} {x y : UInt64} {v : Int32} (hd : decode c.code pc = .ok (.dcmp o, 1)) (hv : cmpValue (FP.dcmp x y) o = v) (hq : pc + 1 = q) (g : Go p e below Q (T.setTop (mkF m q Ls (.int v :: st)))) : Go p e below Q (T.setTop (mkF m pc Ls (.double y :: .double x :: st))) := by
  subst hq; exact Go.of (fun _ r => XS.dcmpS h hx rfl hd rfl hv r) g
theorem Go.fcmp (h : At T m c below) (hx : p.tables.exec = Jvm.exec) {pc q : Nat} {Ls : Array Slot} {st : List Value} {o : CmpOp} {x y : UInt32} {v : Int32} (hd : decode c.code pc = .ok (.fcmp o, 1)) (hv : cmpValue (FP.fcmp x y) o = v) (hq : pc + 1 = q) (g : Go p e below Q (T.setTop (mkF m q Ls (.int v :: st)))) : Go p e below Q (T.setTop (mkF m pc Ls (.float y :: .float x :: st))) := by
  subst hq; exact Go.of (fun _ r => XS.fcmpS h hx rfl hd rfl hv r) g
theorem Go.dup (h : At T m c below) (hx : p.tables.exec = Jvm.exec) {pc q : Nat} {Ls : Array Slot} {st : List Value} {v : Value} (hd : decode c.code pc = .ok (.dup, 1)) (hc : v.category = 1) (hq : pc + 1 = q) (g : Go p e below Q (T.setTop (mkF m q Ls (v :: v :: st)))) : Go p e below Q (T.setTop (mkF m pc Ls (v :: st))) := by
  subst hq; exact Go.of (fun _ r => XS.dup h hx rfl hd rfl hc r) g
theorem Go.dup2 (h : At T m c below) (hx : p.tables.exec = Jvm.exec) {pc q : Nat} {Ls : Array Slot} {st : List Value} {v w : Value} (hd : decode c.code pc = .ok (.dup2, 1)) (hc : v.category = 1) (hc2 : w.category = 1) (hq : pc + 1 = q) (g : Go p e below Q (T.setTop (mkF m q Ls (v :: w :: v :: w :: st)))) : Go p e below Q (T.setTop (mkF m pc Ls (v :: w :: st))) := by
  subst hq; exact Go.of (fun _ r => Jvm.Free.XT.dup2 h hx rfl hd rfl hc hc2 r) g
theorem Go.pop (h : At T m c below) (hx : p.tables.exec = Jvm.exec) {pc q : Nat} {Ls : Array Slot} {st : List Value} {v : Value} (hd : decode c.code pc = .ok (.pop, 1)) (hc : v.category = 1) (hq : pc + 1 = q) (g : Go p e below Q (T.setTop (mkF m q Ls st))) : Go p e below Q (T.setTop (mkF m pc Ls (v :: st))) := by
  subst hq; exact Go.of (fun _ r => XS.pop h hx rfl hd rfl hc r) g
theorem step_dup2x1 {tb : Tables} [Ours tb] {target : State} {g : JFrame} (h : At T m c below) (hx : tb.exec = Jvm.exec) (hg : g.method = m) {x : Int64} {b : Value} {rest : List Value} (hd : decode c.code g.pc = .ok (.dup2_x1, 1)) (hs : g.stack = .long x :: b :: rest) (hb : b.category = 1)
    (hr : Steps tb e below (T.setTop { g with pc := g.pc + 1, stack := .long x :: b :: .long x :: rest }) target) : Steps tb e below (T.setTop g) target := by
  subst hg
  jvm_step h [h.top, hx, hd, hs, hb, Value.category]
  exact ⟨hb, hr⟩
theorem Go.dup2x1 (h : At T m c below) (hx : p.tables.exec = Jvm.exec) {pc q : Nat} {Ls : Array Slot} {st : List Value} {x : Int64} {b : Value} (hd : decode c.code pc = .ok (.dup2_x1, 1)) (hb : b.category = 1) (hq : pc + 1 = q) (g : Go p e below Q (T.setTop (mkF m q Ls (.long x :: b :: .long x :: st)))) : Go p e below Q (T.setTop (mkF m pc Ls (.long x :: b :: st))) := by
  subst hq; exact Go.of (fun _ r => step_dup2x1 h hx rfl hd rfl hb r) g
theorem Go.iinc (h : At T m c below) (hx : p.tables.exec = Jvm.exec) {pc q : Nat} {Ls : Array Slot} {st : List Value} {k : Nat} {cst : Int} {x v : Int32} {l2 : Array Slot} (hd : decode c.code pc = .ok (.iinc k cst, 3)) (hl : Ls[k]? = some (.val (.int x))) (hv : x + Int32.ofInt cst = v) (hl2 : storeLocals Ls k (.int v) = some l2) (hq : pc + 3 = q) (g : Go p e below Q (T.setTop (mkF m q l2 st))) : Go p e below Q (T.setTop (mkF m pc Ls st)) := by
  subst hq hv; exact Go.of (fun _ r => XS.iinc h hx rfl hd hl hl2 r) g
theorem Go.goto (h : At T m c below) (hx : p.tables.exec = Jvm.exec) {pc q : Nat} {Ls : Array Slot} {st : List Value} {o : Int} (hd : decode c.code pc = .ok (.goto o, 3)) (ho : 0 ≤ (pc : Int) + o) (hq : ((pc : Int) + o).toNat = q) (g : Go p e below Q (T.setTop (mkF m q Ls st))) : Go p e below Q (T.setTop (mkF m pc Ls st)) := Go.of (fun _ r => XS.goto h hx rfl rfl hd ho hq r) g
theorem Go.ifY (h : At T m c below) (hx : p.tables.exec = Jvm.exec) {pc q : Nat} {Ls : Array Slot} {st : List Value} {cd : ClassFile.Cond} {x : Int32} {o : Int} (hd : decode c.code pc = .ok (.ifCond cd o, 3)) (hc : ifCond.holds cd x = true) (ho : 0 ≤ (pc : Int) + o) (hq : ((pc : Int) + o).toNat = q) (g : Go p e below Q (T.setTop (mkF m q Ls st))) : Go p e below Q (T.setTop (mkF m pc Ls (.int x :: st))) := Go.of (fun _ r => XS.ifYes h hx rfl rfl hd rfl hc ho hq r) g
theorem Go.ifN (h : At T m c below) (hx : p.tables.exec = Jvm.exec) {pc q : Nat} {Ls : Array Slot} {st : List Value} {cd : ClassFile.Cond} {x : Int32} {o : Int} (hd : decode c.code pc = .ok (.ifCond cd o, 3)) (hc : ifCond.holds cd x = false) (hq : pc + 3 = q) (g : Go p e below Q (T.setTop (mkF m q Ls st))) : Go p e below Q (T.setTop (mkF m pc Ls (.int x :: st))) := by
  subst hq; exact Go.of (fun _ r => XS.ifNo h hx rfl hd rfl hc r) g
theorem Go.icmpY (h : At T m c below) (hx : p.tables.exec = Jvm.exec) {pc q : Nat} {Ls : Array Slot} {st : List Value} {cd : ClassFile.Cond} {x y : Int32} {o : Int} (hd : decode c.code pc = .ok (.if_icmp cd o, 3)) (hc : if_icmp.holds cd x y = true) (ho : 0 ≤ (pc : Int) + o) (hq : ((pc : Int) + o).toNat = q) (g : Go p e below Q (T.setTop (mkF m q Ls st))) : Go p e below Q (T.setTop (mkF m pc Ls (.int y :: .int x :: st))) := Go.of (fun _ r => XS.icmpYes h hx rfl rfl hd rfl hc ho hq r) g
theorem Go.icmpN (h : At T m c below) (hx : p.tables.exec = Jvm.exec) {pc q : Nat} {Ls : Array Slot} {st : List Value} {cd : ClassFile.Cond} {x y : Int32} {o : Int} (hd : decode c.code pc = .ok (.if_icmp cd o, 3)) (hc : if_icmp.holds cd x y = false) (hq : pc + 3 = q) (g : Go p e below Q (T.setTop (mkF m q Ls st))) : Go p e below Q (T.setTop (mkF m pc Ls (.int y :: .int x :: st))) := by
  subst hq; exact Go.of (fun _ r => XS.icmpNo h hx rfl hd rfl hc r) g
theorem Go.acmpY (h : At T m c below) (hx : p.tables.exec = Jvm.exec) {pc q : Nat} {Ls : Array Slot} {st : List Value} {cd : ClassFile.ACond} {a b : Addr} {o : Int} (hd : decode c.code pc = .ok (.if_acmp cd o, 3)) (hc : if_acmp.holds cd (some a) (some b) = true) (ho : 0 ≤ (pc : Int) + o) (hq : ((pc : Int) + o).toNat = q) (g : Go p e below Q (T.setTop (mkF m q Ls st))) : Go p e below Q (T.setTop (mkF m pc Ls (.ref b :: .ref a :: st))) := Go.of (fun _ r => XS.acmpYes h hx rfl rfl hd rfl hc ho hq r) g
theorem Go.acmpN (h : At T m c below) (hx : p.tables.exec = Jvm.exec) {pc q : Nat} {Ls : Array Slot} {st : List Value} {cd : ClassFile.ACond} {a b : Addr} {o : Int} (hd : decode c.code pc = .ok (.if_acmp cd o, 3)) (hc : if_acmp.holds cd (some a) (some b) = false) (hq : pc + 3 = q) (g : Go p e below Q (T.setTop (mkF m q Ls st))) : Go p e below Q (T.setTop (mkF m pc Ls (.ref b :: .ref a :: st))) := by
  subst hq; exact Go.of (fun _ r => XS.acmpNo h hx rfl hd rfl hc r) g
theorem Go.nullY (h : At T m c below) (hx : p.tables.exec = Jvm.exec) {pc q : Nat} {Ls : Array Slot} {st : List Value} {o : Int} (hd : decode c.code pc = .ok (.ifnull o, 3)) (ho : 0 ≤ (pc : Int) + o) (hq : ((pc : Int) + o).toNat = q) (g : Go p e below Q (T.setTop (mkF m q Ls st))) : Go p e below Q (T.setTop (mkF m pc Ls (.null :: st))) := Go.of (fun _ r => XS.ifnullYes h hx rfl rfl hd rfl ho hq r) g
theorem Go.nullN (h : At T m c below) (hx : p.tables.exec = Jvm.exec) {pc q : Nat} {Ls : Array Slot} {st : List Value} {o : Int} {b : Addr} (hd : decode c.code pc = .ok (.ifnull o, 3)) (hq : pc + 3 = q) (g : Go p e below Q (T.setTop (mkF m q Ls st))) : Go p e below Q (T.setTop (mkF m pc Ls (.ref b :: st))) := by
  subst hq; exact Go.of (fun _ r => XS.ifnullNo h hx rfl hd rfl r) g
theorem Go.nonnullY (h : At T m c below) (hx : p.tables.exec = Jvm.exec) {pc q : Nat} {Ls : Array Slot} {st : List Value} {o : Int} {b : Addr} (hd : decode c.code pc = .ok (.ifnonnull o, 3)) (ho : 0 ≤ (pc : Int) + o) (hq : ((pc : Int) + o).toNat = q) (g : Go p e below Q (T.setTop (mkF m q Ls st))) : Go p e below Q (T.setTop (mkF m pc Ls (.ref b :: st))) := Go.of (fun _ r => XS.ifnonnullYes h hx rfl rfl hd rfl ho hq r) g
theorem Go.nonnullN (h : At T m c below) (hx : p.tables.exec = Jvm.exec) {pc q : Nat} {Ls : Array Slot} {st : List Value} {o : Int} (hd : decode c.code pc = .ok (.ifnonnull o, 3)) (hq : pc + 3 = q) (g : Go p e below Q (T.setTop (mkF m q Ls st))) : Go p e below Q (T.setTop (mkF m pc Ls (.null :: st))) := by
  subst hq; exact Go.of (fun _ r => XS.ifnonnullNo h hx rfl hd rfl r) g
theorem Go.ldcI (X : Stand p l e R s m args below meth c T locs cells slots) (hx : p.tables.exec = Jvm.exec) {own : String} {index : Nat} {v : Int32} (hown : s.vm.findClass own = some m.cls) (w : (Jvm.Cond.constant own index v).before args s = true) {pc q : Nat} {Ls : Array Slot} {st : List Value} (hd : decode c.code pc = .ok (.ldc index, 2)) (hq : pc + 2 = q) (g : Go p e below Q (T.setTop (mkF m q Ls (.int v :: st)))) : Go p e below Q (T.setTop (mkF m pc Ls st)) := by
  subst hq; exact Go.of (fun _ r => X.ldcInt hx hown w (g := mkF m pc Ls st) rfl hd _ r) g
theorem Go.ldc2J (X : Stand p l e R s m args below meth c T locs cells slots) (hx : p.tables.exec = Jvm.exec) {own : String} {index : Nat} {v : Int64} (hown : s.vm.findClass own = some m.cls) (w : (Jvm.Cond.constantLong own index v).before args s = true) {pc q : Nat} {Ls : Array Slot} {st : List Value} (hd : decode c.code pc = .ok (.ldc2_w index, 3)) (hq : pc + 3 = q) (g : Go p e below Q (T.setTop (mkF m q Ls (.long v :: st)))) : Go p e below Q (T.setTop (mkF m pc Ls st)) := by
  subst hq; exact Go.of (fun _ r => X.ldc2Long hx hown w (g := mkF m pc Ls st) rfl hd _ r) g
theorem Go.ldc2D (X : Stand p l e R s m args below meth c T locs cells slots) (hx : p.tables.exec = Jvm.exec) {own : String} {index : Nat} {v : UInt64} (hown : s.vm.findClass own = some m.cls) (w : (Jvm.Cond.constantDouble own index v).before args s = true) {pc q : Nat} {Ls : Array Slot} {st : List Value} (hd : decode c.code pc = .ok (.ldc2_w index, 3)) (hq : pc + 3 = q) (g : Go p e below Q (T.setTop (mkF m q Ls (.double v :: st)))) : Go p e below Q (T.setTop (mkF m pc Ls st)) := by
  subst hq; exact Go.of (fun _ r => X.ldc2DoubleC hx hown w (g := mkF m pc Ls st) rfl hd _ r) g
theorem Go.ldcF (X : Stand p l e R s m args below meth c T locs cells slots) (hx : p.tables.exec = Jvm.exec) {own : String} {index : Nat} {v : UInt32} (hown : s.vm.findClass own = some m.cls) (w : (Jvm.Cond.constantFloat own index v).before args s = true) {pc q : Nat} {Ls : Array Slot} {st : List Value} (hd : decode c.code pc = .ok (.ldc index, 2)) (hq : pc + 2 = q) (g : Go p e below Q (T.setTop (mkF m q Ls (.float v :: st)))) : Go p e below Q (T.setTop (mkF m pc Ls st)) := by
  subst hq; exact Go.of (fun _ r => X.ldcFloatC hx hown w (g := mkF m pc Ls st) rfl hd _ r) g
end OwnGo

/-! own layer 3: steps that touch the heap, and calls by contract, in the same forward form -/
section OwnHeap
variable {p : Program} {l : Launch} {e : Env} {R : Room} {s : State} {m : MethodId} {args : Array Value} {below : List Frame} {meth : Method} {c : Code} {T : State} {locs : List Loc} {cells slots : Nat} {Q : Outcome → State → Prop} {Z : State} {a0 : Array Value} {h : Heap}
/-- a callee's contract at one call -/
abbrev Con (l : Launch) (Z : State) (y : MethodName) (bytes : ByteArray) (maxL : Nat) (ret : Option FieldType) (rm : Room) (as' : Array Value) (h : Heap) (Qv : Option Value → Heap → List Loc → Prop) : Prop :=
  MetFree l y (head1 [Jvm.Cond.code y bytes maxL ret] rm) (fun a U => a = as' ∧ Z.Warmed39 U.vm ∧ U.heap = h) (fun _ _ _ _ _ => True) (fun _ U o U' => ∃ v L, o = .returned v ∧ Qv v U'.heap L ∧ FrameEnd U o U' L rm.cells rm.slots)
theorem Go.new (X : Stand p l e R s m args below meth c T locs cells slots) (hx : p.tables.exec = Jvm.exec) (hZ : Z.Warmed39 s.vm) {own C : String} {index n : Nat} (hown : s.vm.findClass own = some m.cls) (w : (Jvm.Cond.classLink own index C).before a0 Z = true) (wi : (Jvm.Cond.instantiable C n).before a0 Z = true) (wz : (Jvm.Cond.initialized C).before a0 Z = true) (eT : T.heap = h)
    {pc q : Nat} {Ls : Array Slot} {st : List Value} (hd : decode c.code pc = .ok (.new index, 3)) (hc : cells + 1 ≤ R.cells) (hl : slots + n ≤ R.slots) (hq : pc + 3 = q)
    (k : ∀ (T' : State) (h' : Heap) (a : Addr), a = h.size → Stand p l e R s m args below meth c T' locs (cells + 1) (slots + n) → T'.heap = h' → Ext h h' → Exa Z h' a C → (∀ {O nm d : String} {ty : FieldType}, Laid Z a0 C O nm d → parseFieldDescriptor d = some ty → Fld Z h' a O nm d (defaultValue ty)) →
      Go p e below Q (T'.setTop (mkF m q Ls (.ref a :: st)))) : Go p e below Q (T.setTop (mkF m pc Ls st)) := by
  subst hq
  obtain ⟨T', h', X', e', E', A', D', -, st'⟩ := newO X hx hZ hown w wi wz eT (g := mkF m pc Ls st) rfl hd hc hl
  exact Go.of st' (k T' h' _ rfl X' e' E' A' D')
theorem Go.getf (X : Stand p l e R s m args below meth c T locs cells slots) (hx : p.tables.exec = Jvm.exec) (hZ : Z.Warmed39 s.vm) {own O n d : String} {index : Nat} (hown : s.vm.findClass own = some m.cls) (w : (Jvm.Cond.fieldLink own index O n d).before a0 Z = true) (eT : T.heap = h) {a : Addr} {v : Value} (F : Fld Z h a O n d v)
    {pc q : Nat} {Ls : Array Slot} {st : List Value} (hd : decode c.code pc = .ok (.getfield index, 3)) (hq : pc + 3 = q)
    (k : ∀ T' : State, Stand p l e R s m args below meth c T' locs cells slots → T'.heap = h → Go p e below Q (T'.setTop (mkF m q Ls (v :: st)))) : Go p e below Q (T.setTop (mkF m pc Ls (.ref a :: st))) := by
  subst hq
  obtain ⟨T', X', e', st'⟩ := getF X hx hZ hown (host := "") (Or.inl w) Via.refl eT F (g := mkF m pc Ls (.ref a :: st)) rfl rfl hd
  exact Go.of st' (k T' X' e')
theorem Go.gets (X : Stand p l e R s m args below meth c T locs cells slots) (hx : p.tables.exec = Jvm.exec) (hZ : Z.Warmed39 s.vm) {own O n d : String} {index : Nat} (hown : s.vm.findClass own = some m.cls) (w : (Jvm.Cond.fieldLink own index O n d).before a0 Z = true) (eT : T.heap = h) {v : Value} (F : Sta Z h O n d v)
    {pc q : Nat} {Ls : Array Slot} {st : List Value} (hd : decode c.code pc = .ok (.getstatic index, 3)) (hq : pc + 3 = q)
    (k : ∀ T' : State, Stand p l e R s m args below meth c T' locs cells slots → T'.heap = h → Go p e below Q (T'.setTop (mkF m q Ls (v :: st)))) : Go p e below Q (T.setTop (mkF m pc Ls st)) := by
  subst hq
  obtain ⟨T', X', e', st'⟩ := getS X hx hZ hown (host := "") w Via.refl eT F (g := mkF m pc Ls st) rfl hd
  exact Go.of st' (k T' X' e')
theorem Go.putf (X : Stand p l e R s m args below meth c T locs cells slots) (hx : p.tables.exec = Jvm.exec) (hZ : Z.Warmed39 s.vm) {own O n d C : String} {index kk : Nat} {ty : FieldType} (hown : s.vm.findClass own = some m.cls) (w : (Jvm.Cond.fieldLink own index O n d).before a0 Z = true) (eT : T.heap = h) {a : Addr} {v old : Value} (F : Fld Z h a O n d old) (E : Exa Z h a C)
    (L : (Jvm.Cond.lays C O n d).before a0 Z = true ∨ ((Jvm.Cond.laysFinal C O n d).before a0 Z = true ∧ own = O ∧ meth.name = "<init>")) (wi : (Jvm.Cond.instantiable C kk).before a0 Z = true) (hty : parseFieldDescriptor d = some ty) (hn : narrow ty v = v) (hf : fits ty v = true)
    {pc q : Nat} {Ls : Array Slot} {st : List Value} (hd : decode c.code pc = .ok (.putfield index, 3)) (hq : pc + 3 = q)
    (k : ∀ (T' : State) (h' : Heap), Stand p l e R s m args below meth c T' (locs ++ [⟨a, Jvm.RoadKit.slotOf Z O n d⟩]) cells slots → T'.heap = h' → Wr h h' a (Jvm.RoadKit.slotOf Z O n d) v → Go p e below Q (T'.setTop (mkF m q Ls st))) : Go p e below Q (T.setTop (mkF m pc Ls (v :: .ref a :: st))) := by
  subst hq
  obtain ⟨T', h', X', e', W', st'⟩ := putF X hx hZ hown (host := "") (Or.inl w) Via.refl eT F E L wi hty hn hf (g := mkF m pc Ls (v :: .ref a :: st)) rfl rfl hd
  exact Go.of st' (k T' h' X' e' W')
theorem Go.init (X : Stand p l e R s m args below meth c T locs cells slots) (hx : p.tables.exec = Jvm.exec) (hZ : Z.Warmed39 s.vm) {own : String} {index : Nat} (hown : s.vm.findClass own = some m.cls) (w1 : (Jvm.Cond.methodLink own index Lib.objectInit).before a0 Z = true) (w2 : (Jvm.Cond.instanceMethod Lib.objectInit).before a0 Z = true) (w3 : (Jvm.Cond.code Lib.objectInit ⟨#[0xb1]⟩ 1 none).before a0 Z = true) (eT : T.heap = h)
    {pc q : Nat} {Ls : Array Slot} {st : List Value} {a : Addr} {W : Nat} (hd : decode c.code pc = .ok (.invokespecial index, 3)) (hsz : Ls.size = c.maxLocals) (hf : 1 ≤ R.frames) (hW : (st.map fun v => v.category).sum ≤ W) (hl : W + 12 ≤ R.locals) (hq : pc + 3 = q)
    (k : ∀ T' : State, Stand p l e R s m args below meth c T' locs cells slots → T'.heap = h → Go p e below Q (T'.setTop (mkF m q Ls st))) : Go p e below Q (T.setTop (mkF m pc Ls (.ref a :: st))) := by
  subst hq
  obtain ⟨T', X', e', st'⟩ := initO X hx hZ hown w1 w2 w3 eT (g := mkF m pc Ls (.ref a :: st)) rfl hsz rfl hd hf (W := W) (by show 2 * 0 + _ ≤ _; omega) hl
  exact Go.of st' (k T' X' e')
theorem Go.special (X : Stand p l e R s m args below meth c T locs cells slots) (hx : p.tables.exec = Jvm.exec) (hZ : Z.Warmed39 s.vm) {own : String} {index : Nat} {y : MethodName} (hy1 : y.name = "<init>") (hown : s.vm.findClass own = some m.cls) (w1 : (Jvm.Cond.methodLink own index y).before a0 Z = true) (w2 : (Jvm.Cond.instanceMethod y).before a0 Z = true)
    {bytes : ByteArray} {maxL : Nat} (w3 : (Jvm.Cond.code y bytes maxL none).before a0 Z = true) (wz : (Jvm.Cond.initialized y.cls).before a0 Z = true) (hy : y.cls ≠ "java/lang/invoke/MethodHandle" ∧ y.cls ≠ "java/lang/invoke/VarHandle")
    {rm : Room} {as' : Array Value} {Qv : Option Value → Heap → List Loc → Prop} (hM : Con l Z y bytes maxL none rm as' h Qv) (eT : T.heap = h) {pc q : Nat} {Ls : Array Slot} {st : List Value} {a : Addr} {argsL rest : List Value} {W : Nat} (hd : decode c.code pc = .ok (.invokespecial index, 3))
    (hst : st = argsL.reverse ++ .ref a :: rest) (has : as' = (.ref a :: argsL).toArray) (hlen : ∀ sig, parseMethodDescriptor y.desc = some sig → argsL.length = sig.parameters.length) (hsz : Ls.size = c.maxLocals) (hW : (rest.map fun v => v.category).sum ≤ W)
    (hf : rm.frames + 1 ≤ R.frames) (hl : W + (maxL + 11) + rm.locals ≤ R.locals) (hc : cells + rm.cells ≤ R.cells) (hs : slots + rm.slots ≤ R.slots) (hq : pc + 3 = q)
    (k : ∀ (T' : State) (L : List Loc) (v : Option Value), Stand p l e R s m args below meth c T' (locs ++ L) (cells + rm.cells) (slots + rm.slots) → Qv v T'.heap L → Go p e below Q (T'.setTop (mkF m q Ls (v.toList ++ rest)))) : Go p e below Q (T.setTop (mkF m pc Ls st)) := by
  subst hq hst has
  obtain ⟨v, vm₁, ⟨T', L', k', n'⟩, -, X', ⟨Lc, hQ, l1, y1, z1⟩, st'⟩ := X.specialBack hx (y := y) hy1 hown (mvT hZ w1) (mvT hZ w2) (mvT hZ w3) hy (backOf (W := W) hM hZ w3 wz hf hl) (g := mkF m pc Ls (argsL.reverse ++ .ref a :: rest)) rfl hsz (Steps.refl _) (a := a) (argsL := argsL) (rest := rest) hlen rfl (by show 2 * 0 + _ ≤ _; omega) hd (fun _ _ => ⟨rfl, eT, hc, hs⟩)
  dsimp only [Pt.U, Pt.locs, Pt.cells, Pt.slots] at X' l1 y1 z1 st' hQ
  subst l1 y1 z1
  exact Go.tr st' (k T' Lc v X' hQ)
theorem Go.virtual (X : Stand p l e R s m args below meth c T locs cells slots) (hx : p.tables.exec = Jvm.exec) (hZ : Z.Warmed39 s.vm) {own C : String} {index : Nat} {y : MethodName} (hown : s.vm.findClass own = some m.cls) (w1 : (Jvm.Cond.methodLink own index y).before a0 Z = true) (w2 : (Jvm.Cond.declares y).before a0 Z = true) (w3 : (Jvm.Cond.selects C y y).before a0 Z = true) (w4 : (Jvm.Cond.instanceMethod y).before a0 Z = true)
    {bytes : ByteArray} {maxL : Nat} {ret : Option FieldType} (w5 : (Jvm.Cond.code y bytes maxL ret).before a0 Z = true) (wz : (Jvm.Cond.initialized y.cls).before a0 Z = true) (hy : y.cls ≠ "java/lang/invoke/MethodHandle" ∧ y.cls ≠ "java/lang/invoke/VarHandle")
    {rm : Room} {as' : Array Value} {Qv : Option Value → Heap → List Loc → Prop} (hM : Con l Z y bytes maxL ret rm as' h Qv) (eT : T.heap = h) {a : Addr} (E : Exa Z h a C) {pc q : Nat} {Ls : Array Slot} {st : List Value} {argsL rest : List Value} {W : Nat} (hd : decode c.code pc = .ok (.invokevirtual index, 3))
    (hst : st = argsL.reverse ++ .ref a :: rest) (has : as' = (.ref a :: argsL).toArray) (hlen : ∀ sig, parseMethodDescriptor y.desc = some sig → argsL.length = sig.parameters.length) (hsz : Ls.size = c.maxLocals) (hW : (rest.map fun v => v.category).sum ≤ W)
    (hf : rm.frames + 1 ≤ R.frames) (hl : W + (maxL + 11) + rm.locals ≤ R.locals) (hc : cells + rm.cells ≤ R.cells) (hs : slots + rm.slots ≤ R.slots) (hq : pc + 3 = q)
    (k : ∀ (T' : State) (L : List Loc) (v : Option Value), Stand p l e R s m args below meth c T' (locs ++ L) (cells + rm.cells) (slots + rm.slots) → Qv v T'.heap L → Go p e below Q (T'.setTop (mkF m q Ls (v.toList ++ rest)))) : Go p e below Q (T.setTop (mkF m pc Ls st)) := by
  subst hq hst has
  obtain ⟨cq, kq, qa, -, qc⟩ := isOf hZ eT E
  obtain ⟨v, vm₁, ⟨T', L', k', n'⟩, -, X', ⟨Lc, hQ, l1, y1, z1⟩, st'⟩ := X.virtualBack hx (y := y) (z := y) hown (mvT hZ w1) (mvT hZ w2) (notFace_of_selects (args := #[]) (mvT hZ w3)) (mvT hZ w3) (mvT hZ w4) hy (backOf (W := W) hM hZ w5 wz hf hl) qa qc (g := mkF m pc Ls (argsL.reverse ++ .ref a :: rest)) rfl hsz (Steps.refl _) (argsL := argsL) (rest := rest) hlen rfl (by show 2 * 0 + _ ≤ _; omega) hd (fun _ _ => ⟨rfl, eT, hc, hs⟩)
  dsimp only [Pt.U, Pt.locs, Pt.cells, Pt.slots] at X' l1 y1 z1 st' hQ
  subst l1 y1 z1
  exact Go.tr st' (k T' Lc v X' hQ)
theorem Go.static (X : Stand p l e R s m args below meth c T locs cells slots) (hx : p.tables.exec = Jvm.exec) (hZ : Z.Warmed39 s.vm) {own : String} {index : Nat} {y : MethodName} (hown : s.vm.findClass own = some m.cls) (w1 : (Jvm.Cond.methodLink own index y).before a0 Z = true) (w2 : (Jvm.Cond.static y).before a0 Z = true)
    {bytes : ByteArray} {maxL : Nat} {ret : Option FieldType} (w3 : (Jvm.Cond.code y bytes maxL ret).before a0 Z = true) (wz : (Jvm.Cond.initialized y.cls).before a0 Z = true) (hy : y.cls ≠ "java/lang/invoke/MethodHandle" ∧ y.cls ≠ "java/lang/invoke/VarHandle")
    {rm : Room} {as' : Array Value} {Qv : Option Value → Heap → List Loc → Prop} (hM : Con l Z y bytes maxL ret rm as' h Qv) (eT : T.heap = h) {pc q : Nat} {Ls : Array Slot} {st : List Value} {argsL rest : List Value} {W : Nat} (hd : decode c.code pc = .ok (.invokestatic index, 3))
    (hst : st = argsL.reverse ++ rest) (has : as' = argsL.toArray) (hlen : ∀ sig, parseMethodDescriptor y.desc = some sig → argsL.length = sig.parameters.length) (hsz : Ls.size = c.maxLocals) (hW : (rest.map fun v => v.category).sum ≤ W)
    (hf : rm.frames + 1 ≤ R.frames) (hl : W + (maxL + 11) + rm.locals ≤ R.locals) (hc : cells + rm.cells ≤ R.cells) (hs : slots + rm.slots ≤ R.slots) (hq : pc + 3 = q)
    (k : ∀ (T' : State) (L : List Loc) (v : Option Value), Stand p l e R s m args below meth c T' (locs ++ L) (cells + rm.cells) (slots + rm.slots) → Qv v T'.heap L → Go p e below Q (T'.setTop (mkF m q Ls (v.toList ++ rest)))) : Go p e below Q (T.setTop (mkF m pc Ls st)) := by
  subst hq hst has
  obtain ⟨v, vm₁, ⟨T', L', k', n'⟩, -, X', ⟨Lc, hQ, l1, y1, z1⟩, st'⟩ := Jvm.LawKit.callS X hx (y := y) hown (mvT hZ w1) (mvT hZ w2) (mvT hZ wz) (mvT hZ w3) hy (backOf (W := W) hM hZ w3 wz hf hl) (g := mkF m pc Ls (argsL.reverse ++ rest)) rfl hsz (argsL := argsL) (rest := rest) hlen rfl (by show 2 * 0 + _ ≤ _; omega) hd (fun _ _ => ⟨rfl, eT, hc, hs⟩)
  dsimp only [Pt.U, Pt.locs, Pt.cells, Pt.slots] at X' l1 y1 z1 st' hQ
  subst l1 y1 z1
  exact Go.of st' (k T' Lc v X' hQ)
/-- a static call that a payer of the library answers, and that leaves all as it was -/
theorem Go.nat (X : Stand p l e R s m args below meth c T locs cells slots) (hx : p.tables.exec = Jvm.exec) (hZ : Z.Warmed39 s.vm) {own : String} {index : Nat} {y : MethodName} (hown : s.vm.findClass own = some m.cls) (w1 : (Jvm.Cond.methodLink own index y).before a0 Z = true) (w2 : (Jvm.Cond.static y).before a0 Z = true) (w3 : (Jvm.Cond.initialized y.cls).before a0 Z = true)
    {by0 : ByteArray} {ml : Nat} {rt : Option FieldType} (w4 : (Jvm.Cond.code y by0 ml rt).before a0 Z = true) (hy : y.cls ≠ "java/lang/invoke/MethodHandle" ∧ y.cls ≠ "java/lang/invoke/VarHandle") (eT : T.heap = h) {W : Nat} {F : Array Value → Prop} {val : Value}
    (hK : (Jvm.Cond.code y by0 ml rt).before args s = true → Back l R p e below s args y 3 W (fun A a' => A.cells ≤ R.cells ∧ A.slots ≤ R.slots ∧ F a') (fun A _ v B => v = some val ∧ B = A))
    {pc q : Nat} {Ls : Array Slot} {st : List Value} {argsL rest : List Value} (hd : decode c.code pc = .ok (.invokestatic index, 3)) (hst : st = argsL.reverse ++ rest) (hlen : ∀ sig, parseMethodDescriptor y.desc = some sig → argsL.length = sig.parameters.length) (hsz : Ls.size = c.maxLocals) (hW : (rest.map fun v => v.category).sum ≤ W)
    (hc : cells ≤ R.cells) (hs : slots ≤ R.slots) (hF : F argsL.toArray) (hq : pc + 3 = q)
    (k : ∀ T' : State, Stand p l e R s m args below meth c T' locs cells slots → T'.heap = h → Go p e below Q (T'.setTop (mkF m q Ls (val :: rest)))) : Go p e below Q (T.setTop (mkF m pc Ls st)) := by
  subst hq hst
  obtain ⟨T', X', e', st'⟩ := natS X hx hZ hown w1 w2 w3 w4 hy eT hK (g := mkF m pc Ls (argsL.reverse ++ rest)) rfl hsz hlen rfl (by show 2 * 0 + _ ≤ _; omega) hd hc hs hF rfl
  exact Go.of st' (k T' X' e')
/-! words of the sheet by their place -/
theorem word {ts : List Jvm.Cond} (hw : ∀ d ∈ ts, d.before a0 Z = true) {d : Jvm.Cond} (i : Nat) (hi : ts[i]? = some d) : d.before a0 Z = true := hw _ (List.mem_of_getElem? hi)
end OwnHeap

theorem pd0 : parseMethodDescriptor "(D)D" = some ⟨[.double], some .double⟩ := by decide +kernel
theorem pd1 : parseMethodDescriptor "(I)I" = some ⟨[.int], some .int⟩ := by decide +kernel
theorem pd2 : parseMethodDescriptor "(I)D" = some ⟨[.int], some .double⟩ := by decide +kernel

section OwnLaw
open Jvm.FP Jvm.FP.Core Jvm.Free.Fl
/-- no NaN, as a Bool -/
def nb (r : UInt64) : Bool := decide (r &&& 0x7fffffffffffffff ≤ 0x7ff0000000000000)
theorem nb_nn {r : UInt64} (h : nb r = true) : NoNaN64 r := of_decide_eq_true h
/-- besselI0's loop, by fuel -/
def own_loop : Nat → UInt64 → UInt64 → UInt64 → Int32 → Option UInt64
  | 0, _, _, _, _ => none
  | f + 1, q, t, s, n =>
    bif nb (FP.dmul 4336966441157787648 s) then
      bif decide (0 < cmpValue (FP.dcmp t (FP.dmul 4336966441157787648 s)) .l) then
        bif nb (FP.dmul (FP.i2d n) (FP.i2d n)) && (nb (FP.ddiv q (FP.dmul (FP.i2d n) (FP.i2d n))) && (nb (FP.dmul t (FP.ddiv q (FP.dmul (FP.i2d n) (FP.i2d n)))) && nb (FP.dadd s (FP.dmul t (FP.ddiv q (FP.dmul (FP.i2d n) (FP.i2d n))))))) then
          own_loop f q (FP.dmul t (FP.ddiv q (FP.dmul (FP.i2d n) (FP.i2d n)))) (FP.dadd s (FP.dmul t (FP.ddiv q (FP.dmul (FP.i2d n) (FP.i2d n))))) (n + 1)
        else none
      else some s
    else none
theorem own_loop_go {f : Nat} {q t s r : UInt64} {n : Int32} (h : own_loop (f + 1) q t s n = some r) :
    NoNaN64 (FP.dmul 4336966441157787648 s) ∧ (0 < cmpValue (FP.dcmp t (FP.dmul 4336966441157787648 s)) .l → NoNaN64 (FP.dmul (FP.i2d n) (FP.i2d n)) ∧ NoNaN64 (FP.ddiv q (FP.dmul (FP.i2d n) (FP.i2d n))) ∧ NoNaN64 (FP.dmul t (FP.ddiv q (FP.dmul (FP.i2d n) (FP.i2d n)))) ∧ NoNaN64 (FP.dadd s (FP.dmul t (FP.ddiv q (FP.dmul (FP.i2d n) (FP.i2d n))))) ∧
      own_loop f q (FP.dmul t (FP.ddiv q (FP.dmul (FP.i2d n) (FP.i2d n)))) (FP.dadd s (FP.dmul t (FP.ddiv q (FP.dmul (FP.i2d n) (FP.i2d n))))) (n + 1) = some r) ∧ (¬ 0 < cmpValue (FP.dcmp t (FP.dmul 4336966441157787648 s)) .l → s = r) := by
  unfold own_loop at h
  cases h1 : nb (FP.dmul 4336966441157787648 s) with
  | false => rw [h1] at h; exact absurd h (by simp)
  | true =>
    rw [h1, cond_true] at h
    refine ⟨nb_nn h1, fun hc => ?_, fun hc => ?_⟩
    · rw [decide_eq_true hc, cond_true] at h
      cases h2 : (nb (FP.dmul (FP.i2d n) (FP.i2d n)) && (nb (FP.ddiv q (FP.dmul (FP.i2d n) (FP.i2d n))) && (nb (FP.dmul t (FP.ddiv q (FP.dmul (FP.i2d n) (FP.i2d n)))) && nb (FP.dadd s (FP.dmul t (FP.ddiv q (FP.dmul (FP.i2d n) (FP.i2d n)))))))) with
      | false => rw [h2] at h; exact absurd h (by simp)
      | true =>
        rw [h2, cond_true] at h
        simp only [Bool.and_eq_true] at h2
        exact ⟨nb_nn h2.1, nb_nn h2.2.1, nb_nn h2.2.2.1, nb_nn h2.2.2.2, h⟩
    · rw [decide_eq_false hc, cond_false] at h
      exact Option.some.inj h
/-- besselI0 at x gives r -/
def own_bes (x r : UInt64) : Prop := NoNaN64 (FP.dmul x x) ∧ NoNaN64 (FP.ddiv (FP.dmul x x) 4616189618054758400) ∧ own_loop 90 (FP.ddiv (FP.dmul x x) 4616189618054758400) 4607182418800017408 4607182418800017408 1 = some r
/-! pow3 -/
def own_b : Nat → UInt64
  | 0 => 4613937818241073152
  | n + 1 => FP.dmul (own_b n) (own_b n)
def own_mk : Nat → Int32
  | 0 => 1 | 1 => 2 | 2 => 4 | 3 => 8 | 4 => 16 | 5 => 32 | _ => 64
def own_pw (m : Int32) : Nat → UInt64
  | 0 => 4607182418800017408
  | i + 1 => if m &&& own_mk i = 0 then own_pw m i else FP.dmul (own_pw m i) (own_b i)
def own_pok (m : Int32) : Prop := (∀ i, i < 6 → NoNaN64 (FP.dmul (own_b i) (own_b i))) ∧ ∀ i, i < 7 → NoNaN64 (FP.dmul (own_pw m i) (own_b i))
def own_pokb (m : Int32) : Bool := (List.range 6).all (fun i => nb (FP.dmul (own_b i) (own_b i))) && (List.range 7).all (fun i => nb (FP.dmul (own_pw m i) (own_b i)))
theorem own_pok_of {m : Int32} (h : own_pokb m = true) : own_pok m := by
  unfold own_pokb at h
  rw [Bool.and_eq_true] at h
  exact ⟨fun i hi => nb_nn (List.all_eq_true.mp h.1 i (List.mem_range.mpr hi)), fun i hi => nb_nn (List.all_eq_true.mp h.2 i (List.mem_range.mpr hi))⟩
def own_abs (k : Int32) : Int32 := if k < 0 then -k else k
/-! the law's own numbers -/
def own_x (k : Int32) : UInt64 := FP.ddiv (FP.i2d k) 4611686018427387904
def own_q (x : UInt64) : UInt64 := FP.ddiv (FP.dmul x x) 4616189618054758400
def own_l1 (q : UInt64) : UInt64 := FP.dadd 4607182418800017408 q
def own_l2 (q : UInt64) : UInt64 := FP.ddiv (FP.dmul q q) 4616189618054758400
def own_l3 (q : UInt64) : UInt64 := FP.dadd (own_l1 q) (own_l2 q)
def own_l4 (q : UInt64) : UInt64 := FP.ddiv (FP.dmul (FP.dmul q q) q) 4630263366890291200
def own_low (q : UInt64) : UInt64 := FP.dadd (own_l3 q) (own_l4 q)
def own_u1 (q : UInt64) : UInt64 := FP.dmul (own_l2 q) 4621256167635550208
def own_u2 (q : UInt64) : UInt64 := FP.dsub 4621256167635550208 q
def own_u3 (q : UInt64) : UInt64 := FP.ddiv (own_u1 q) (own_u2 q)
def own_upp (q : UInt64) : UInt64 := FP.dadd (own_l1 q) (own_u3 q)
def own_half (k : Int32) : Int32 := (own_abs k + 1) / 2
def own_chk (k : Int32) (r : UInt64) : Bool :=
  nb (own_x k) && (nb (FP.dmul (own_x k) (own_x k)) && (nb (own_q (own_x k)) && (nb (FP.dmul (FP.dneg (own_x k)) (FP.dneg (own_x k))) && (decide (FP.dmul (FP.dneg (own_x k)) (FP.dneg (own_x k)) = FP.dmul (own_x k) (own_x k)) && (decide (cmpValue (FP.dcmp r r) .l = 0) &&
  (nb (own_l1 (own_q (own_x k))) && (nb (FP.dmul (own_q (own_x k)) (own_q (own_x k))) && (nb (own_l2 (own_q (own_x k))) && (nb (own_l3 (own_q (own_x k))) && (nb (FP.dmul (FP.dmul (own_q (own_x k)) (own_q (own_x k))) (own_q (own_x k))) && (nb (own_l4 (own_q (own_x k))) && (nb (own_low (own_q (own_x k))) &&
  (decide (¬ cmpValue (FP.dcmp r (own_low (own_q (own_x k)))) .g < 0) && (own_pokb (own_half k) && (decide (¬ 0 < cmpValue (FP.dcmp r (own_pw (own_half k) 7)) .g) &&
  (decide (8 < own_abs k) || (nb (own_u1 (own_q (own_x k))) && (nb (own_u2 (own_q (own_x k))) && (nb (own_u3 (own_q (own_x k))) && (nb (own_upp (own_q (own_x k))) && decide (¬ 0 < cmpValue (FP.dcmp r (own_upp (own_q (own_x k)))) .g)))))))))))))))))))))
def own_tab (k : Int32) : Bool := match own_loop 90 (own_q (own_x k)) 4607182418800017408 4607182418800017408 1 with
  | some r => own_chk k r
  | none => false
def own_tab2 (k : Int32) : Bool := match own_loop 90 (own_q (own_x k)) 4607182418800017408 4607182418800017408 1 with
  | some r => own_chk k r && (decide (own_q (own_x (-k)) = own_q (own_x k)) && own_chk (-k) r)
  | none => false
set_option maxRecDepth 100000 in
theorem own_c0 : (List.range 8).all (fun i => own_tab2 (Int32.ofInt ((i : Int) + 0))) = true := by decide +kernel
set_option maxRecDepth 100000 in
theorem own_c1 : (List.range 8).all (fun i => own_tab2 (Int32.ofInt ((i : Int) + 8))) = true := by decide +kernel
set_option maxRecDepth 100000 in
theorem own_c2 : (List.range 8).all (fun i => own_tab2 (Int32.ofInt ((i : Int) + 16))) = true := by decide +kernel
set_option maxRecDepth 100000 in
theorem own_c3 : (List.range 8).all (fun i => own_tab2 (Int32.ofInt ((i : Int) + 24))) = true := by decide +kernel
set_option maxRecDepth 100000 in
theorem own_c4 : (List.range 8).all (fun i => own_tab2 (Int32.ofInt ((i : Int) + 32))) = true := by decide +kernel
set_option maxRecDepth 100000 in
theorem own_c5 : (List.range 8).all (fun i => own_tab2 (Int32.ofInt ((i : Int) + 40))) = true := by decide +kernel
set_option maxRecDepth 100000 in
theorem own_c6 : (List.range 8).all (fun i => own_tab2 (Int32.ofInt ((i : Int) + 48))) = true := by decide +kernel
set_option maxRecDepth 100000 in
theorem own_c7 : (List.range 8).all (fun i => own_tab2 (Int32.ofInt ((i : Int) + 56))) = true := by decide +kernel
set_option maxRecDepth 100000 in
theorem own_c8 : (List.range 8).all (fun i => own_tab2 (Int32.ofInt ((i : Int) + 64))) = true := by decide +kernel
set_option maxRecDepth 100000 in
theorem own_c9 : (List.range 8).all (fun i => own_tab2 (Int32.ofInt ((i : Int) + 72))) = true := by decide +kernel
set_option maxRecDepth 100000 in
theorem own_c10 : (List.range 8).all (fun i => own_tab2 (Int32.ofInt ((i : Int) + 80))) = true := by decide +kernel
set_option maxRecDepth 100000 in
theorem own_c11 : (List.range 8).all (fun i => own_tab2 (Int32.ofInt ((i : Int) + 88))) = true := by decide +kernel
set_option maxRecDepth 100000 in
theorem own_c12 : (List.range 8).all (fun i => own_tab2 (Int32.ofInt ((i : Int) + 96))) = true := by decide +kernel
set_option maxRecDepth 100000 in
theorem own_c13 : (List.range 8).all (fun i => own_tab2 (Int32.ofInt ((i : Int) + 104))) = true := by decide +kernel
set_option maxRecDepth 100000 in
theorem own_c14 : (List.range 8).all (fun i => own_tab2 (Int32.ofInt ((i : Int) + 112))) = true := by decide +kernel
set_option maxRecDepth 100000 in
theorem own_c15 : (List.range 8).all (fun i => own_tab2 (Int32.ofInt ((i : Int) + 120))) = true := by decide +kernel
theorem own_all (j : Nat) (hj : j < 128) : own_tab2 (Int32.ofInt (j : Int)) = true := by
  have h : j / 8 = 0 ∨ j / 8 = 1 ∨ j / 8 = 2 ∨ j / 8 = 3 ∨ j / 8 = 4 ∨ j / 8 = 5 ∨ j / 8 = 6 ∨ j / 8 = 7 ∨ j / 8 = 8 ∨ j / 8 = 9 ∨ j / 8 = 10 ∨ j / 8 = 11 ∨ j / 8 = 12 ∨ j / 8 = 13 ∨ j / 8 = 14 ∨ j / 8 = 15 := by omega
  rcases h with h | h | h | h | h | h | h | h | h | h | h | h | h | h | h | h
  · have w := List.all_eq_true.mp own_c0 (j - 0) (List.mem_range.mpr (by omega))
    rw [show ((j - 0 : Nat) : Int) + 0 = (j : Int) by omega] at w
    exact w
  · have w := List.all_eq_true.mp own_c1 (j - 8) (List.mem_range.mpr (by omega))
    rw [show ((j - 8 : Nat) : Int) + 8 = (j : Int) by omega] at w
    exact w
  · have w := List.all_eq_true.mp own_c2 (j - 16) (List.mem_range.mpr (by omega))
    rw [show ((j - 16 : Nat) : Int) + 16 = (j : Int) by omega] at w
    exact w
  · have w := List.all_eq_true.mp own_c3 (j - 24) (List.mem_range.mpr (by omega))
    rw [show ((j - 24 : Nat) : Int) + 24 = (j : Int) by omega] at w
    exact w
  · have w := List.all_eq_true.mp own_c4 (j - 32) (List.mem_range.mpr (by omega))
    rw [show ((j - 32 : Nat) : Int) + 32 = (j : Int) by omega] at w
    exact w
  · have w := List.all_eq_true.mp own_c5 (j - 40) (List.mem_range.mpr (by omega))
    rw [show ((j - 40 : Nat) : Int) + 40 = (j : Int) by omega] at w
    exact w
  · have w := List.all_eq_true.mp own_c6 (j - 48) (List.mem_range.mpr (by omega))
    rw [show ((j - 48 : Nat) : Int) + 48 = (j : Int) by omega] at w
    exact w
  · have w := List.all_eq_true.mp own_c7 (j - 56) (List.mem_range.mpr (by omega))
    rw [show ((j - 56 : Nat) : Int) + 56 = (j : Int) by omega] at w
    exact w
  · have w := List.all_eq_true.mp own_c8 (j - 64) (List.mem_range.mpr (by omega))
    rw [show ((j - 64 : Nat) : Int) + 64 = (j : Int) by omega] at w
    exact w
  · have w := List.all_eq_true.mp own_c9 (j - 72) (List.mem_range.mpr (by omega))
    rw [show ((j - 72 : Nat) : Int) + 72 = (j : Int) by omega] at w
    exact w
  · have w := List.all_eq_true.mp own_c10 (j - 80) (List.mem_range.mpr (by omega))
    rw [show ((j - 80 : Nat) : Int) + 80 = (j : Int) by omega] at w
    exact w
  · have w := List.all_eq_true.mp own_c11 (j - 88) (List.mem_range.mpr (by omega))
    rw [show ((j - 88 : Nat) : Int) + 88 = (j : Int) by omega] at w
    exact w
  · have w := List.all_eq_true.mp own_c12 (j - 96) (List.mem_range.mpr (by omega))
    rw [show ((j - 96 : Nat) : Int) + 96 = (j : Int) by omega] at w
    exact w
  · have w := List.all_eq_true.mp own_c13 (j - 104) (List.mem_range.mpr (by omega))
    rw [show ((j - 104 : Nat) : Int) + 104 = (j : Int) by omega] at w
    exact w
  · have w := List.all_eq_true.mp own_c14 (j - 112) (List.mem_range.mpr (by omega))
    rw [show ((j - 112 : Nat) : Int) + 112 = (j : Int) by omega] at w
    exact w
  · have w := List.all_eq_true.mp own_c15 (j - 120) (List.mem_range.mpr (by omega))
    rw [show ((j - 120 : Nat) : Int) + 120 = (j : Int) by omega] at w
    exact w
theorem own_both {k : Int32} (h : own_tab2 k = true) : own_tab k = true ∧ own_tab (-k) = true := by
  unfold own_tab2 at h
  unfold own_tab
  cases hl : own_loop 90 (own_q (own_x k)) 4607182418800017408 4607182418800017408 1 with
  | none => rw [hl] at h; cases h
  | some r =>
    rw [hl] at h
    have h1 : (own_chk k r && (decide (own_q (own_x (-k)) = own_q (own_x k)) && own_chk (-k) r)) = true := h
    rw [Bool.and_eq_true, Bool.and_eq_true] at h1
    refine ⟨h1.1, ?_⟩
    rw [of_decide_eq_true h1.2.1, hl]
    exact h1.2.2
theorem own_k {a u : Int32} (h : a - (a / 128) * 128 = u) : own_tab u = true := by
  have e := rem_toInt a 128
  rw [h] at e
  have e128 : (128 : Int32).toInt = 128 := rfl
  rw [e128] at e
  have b := tmod_bounds (a := a.toInt) (M := 128) (by decide)
  have q := own_both (own_all u.toInt.natAbs (by omega))
  rcases Int.le_total 0 u.toInt with z | z
  · have w := q.1
    rw [show ((u.toInt.natAbs : Nat) : Int) = u.toInt by omega, Int32.ofInt_toInt] at w
    exact w
  · have w := q.2
    rw [show ((u.toInt.natAbs : Nat) : Int) = -u.toInt by omega, ← Int32.ofInt_neg, Int.neg_neg, Int32.ofInt_toInt] at w
    exact w
theorem own_facts {k : Int32} (h : own_tab k = true) : ∃ r, own_loop 90 (own_q (own_x k)) 4607182418800017408 4607182418800017408 1 = some r ∧ own_chk k r = true := by
  unfold own_tab at h
  cases e : own_loop 90 (own_q (own_x k)) 4607182418800017408 4607182418800017408 1 with
  | none => rw [e] at h; exact absurd h (by simp)
  | some r => rw [e] at h; exact ⟨r, rfl, h⟩
end OwnLaw

theorem d1_0 : decode prog_34_method_11_code 0 = .ok (.dload_n 0, 1) := by decide +kernel
theorem d1_1 : decode prog_34_method_11_code 1 = .ok (.dload_n 0, 1) := by decide +kernel
theorem d1_2 : decode prog_34_method_11_code 2 = .ok (.dmul, 1) := by decide +kernel
theorem d1_3 : decode prog_34_method_11_code 3 = .ok (.ldc2_w 88, 3) := by decide +kernel
theorem d1_6 : decode prog_34_method_11_code 6 = .ok (.ddiv, 1) := by decide +kernel
theorem d1_7 : decode prog_34_method_11_code 7 = .ok (.dstore_n 2, 1) := by decide +kernel
theorem d1_8 : decode prog_34_method_11_code 8 = .ok (.dconst 1, 1) := by decide +kernel
theorem d1_9 : decode prog_34_method_11_code 9 = .ok (.dstore 4, 2) := by decide +kernel
theorem d1_11 : decode prog_34_method_11_code 11 = .ok (.dconst 1, 1) := by decide +kernel
theorem d1_12 : decode prog_34_method_11_code 12 = .ok (.dstore 6, 2) := by decide +kernel
theorem d1_14 : decode prog_34_method_11_code 14 = .ok (.iconst 1, 1) := by decide +kernel
theorem d1_15 : decode prog_34_method_11_code 15 = .ok (.istore 8, 2) := by decide +kernel
theorem d1_17 : decode prog_34_method_11_code 17 = .ok (.dload 4, 2) := by decide +kernel
theorem d1_19 : decode prog_34_method_11_code 19 = .ok (.ldc2_w 90, 3) := by decide +kernel
theorem d1_22 : decode prog_34_method_11_code 22 = .ok (.dload 6, 2) := by decide +kernel
theorem d1_24 : decode prog_34_method_11_code 24 = .ok (.dmul, 1) := by decide +kernel
theorem d1_25 : decode prog_34_method_11_code 25 = .ok (.dcmp .l, 1) := by decide +kernel
theorem d1_26 : decode prog_34_method_11_code 26 = .ok (.ifCond .le 30, 3) := by decide +kernel
theorem d1_29 : decode prog_34_method_11_code 29 = .ok (.dload 4, 2) := by decide +kernel
theorem d1_31 : decode prog_34_method_11_code 31 = .ok (.dload_n 2, 1) := by decide +kernel
theorem d1_32 : decode prog_34_method_11_code 32 = .ok (.iload 8, 2) := by decide +kernel
theorem d1_34 : decode prog_34_method_11_code 34 = .ok (.i2d, 1) := by decide +kernel
theorem d1_35 : decode prog_34_method_11_code 35 = .ok (.iload 8, 2) := by decide +kernel
theorem d1_37 : decode prog_34_method_11_code 37 = .ok (.i2d, 1) := by decide +kernel
theorem d1_38 : decode prog_34_method_11_code 38 = .ok (.dmul, 1) := by decide +kernel
theorem d1_39 : decode prog_34_method_11_code 39 = .ok (.ddiv, 1) := by decide +kernel
theorem d1_40 : decode prog_34_method_11_code 40 = .ok (.dmul, 1) := by decide +kernel
theorem d1_41 : decode prog_34_method_11_code 41 = .ok (.dstore 4, 2) := by decide +kernel
theorem d1_43 : decode prog_34_method_11_code 43 = .ok (.dload 6, 2) := by decide +kernel
theorem d1_45 : decode prog_34_method_11_code 45 = .ok (.dload 4, 2) := by decide +kernel
theorem d1_47 : decode prog_34_method_11_code 47 = .ok (.dadd, 1) := by decide +kernel
theorem d1_48 : decode prog_34_method_11_code 48 = .ok (.dstore 6, 2) := by decide +kernel
theorem d1_50 : decode prog_34_method_11_code 50 = .ok (.iinc 8 1, 3) := by decide +kernel
theorem d1_53 : decode prog_34_method_11_code 53 = .ok (.goto (-36), 3) := by decide +kernel
theorem d1_56 : decode prog_34_method_11_code 56 = .ok (.dload 6, 2) := by decide +kernel
theorem d1_58 : decode prog_34_method_11_code 58 = .ok (.dreturn, 1) := by decide +kernel
set_option maxRecDepth 65536 in
set_option maxHeartbeats 40000000 in
theorem rm_bes (l : Launch) (Z : State) (a0 : Array Value) (hw : ∀ d ∈ tables_1, d.before a0 Z = true) (x : UInt64) (r : UInt64) (h0 : Heap) (n0 : Nat) (Z0 : n0 ≤ h0.size) (hn : own_bes x r) :
    Con l Z (⟨"com/example/iridescence/iridescence/KaiserBesselKernel", "besselI0", "(D)D"⟩ : MethodName) prog_34_method_11_code 9 (some .double) ({ frames := 0, cells := 0, slots := 0, locals := 0 } : Room) #[(.double x)] h0 (fun vR hR LR => vR = some (.double r) ∧ Fr n0 LR ∧ hR = h0) := by
  refine enter (l := l) (Z := Z) (y := (⟨"com/example/iridescence/iridescence/KaiserBesselKernel", "besselI0", "(D)D"⟩ : MethodName)) (bytes := prog_34_method_11_code) (maxL := 9) (ret := (some .double)) (ws := []) (rm := ({ frames := 0, cells := 0, slots := 0, locals := 0 } : Room)) (as' := #[(.double x)]) (h0 := h0) (Qv := (fun vR hR LR => vR = some (.double r) ∧ Fr n0 LR ∧ hR = h0)) (kc := 0) (ks := 0) (by first | exact plainFor_of_name (by first | (simp [plainName, overriddenIn]; done) | decide +kernel) | decide +kernel) (Ls := #[.val (.double x), .second, .unset, .unset, .unset, .unset, .unset, .unset, .unset]) (fun m => by first | (simp [entryFrame, mkF, argsToLocals, Value.category]; done) | rfl) ?_
  intro p e s m below meth c s₁ hx hby hml hown hnm hret hlk hZ X0 e0
  have hown : s.vm.findClass "com/example/iridescence/iridescence/KaiserBesselKernel" = some m.cls := hown
  have hml : c.maxLocals = 9 := hml
  have N0 := Fr.nil n0
  refine Go.dloadN X0.here hx (Jvm.hb hby d1_0) rfl (q := 1) rfl ?_
  refine Go.dloadN X0.here hx (Jvm.hb hby d1_1) rfl (q := 2) rfl ?_
  obtain ⟨u2, hu2⟩ : ∃ zq, FP.dmul x x = zq := ⟨_, rfl⟩
  refine Go.dmul X0.here hx (Jvm.hb hby d1_2) hn.1 hu2 (q := 3) rfl ?_
  refine Go.ldc2D X0 hx hown (mvT hZ (word hw 5 rfl)) (Jvm.hb hby d1_3) (q := 6) rfl ?_
  obtain ⟨u6, hu6⟩ : ∃ zq, FP.ddiv u2 (4616189618054758400 : UInt64) = zq := ⟨_, rfl⟩
  refine Go.ddiv X0.here hx (Jvm.hb hby d1_6) (hu2 ▸ hn.2.1) hu6 (q := 7) rfl ?_
  refine Go.dstoreN X0.here hx (Jvm.hb hby d1_7) (l2 := #[.val (.double x), .second, .val (.double u6), .second, .unset, .unset, .unset, .unset, .unset]) rfl (q := 8) rfl ?_
  refine Go.dconst1 X0.here hx (Jvm.hb hby d1_8) (v := (4607182418800017408 : UInt64)) rfl (q := 9) rfl ?_
  refine Go.dstore X0.here hx (Jvm.hb hby d1_9) (l2 := #[.val (.double x), .second, .val (.double u6), .second, .val (.double (4607182418800017408 : UInt64)), .second, .unset, .unset, .unset]) rfl (q := 11) rfl ?_
  refine Go.dconst1 X0.here hx (Jvm.hb hby d1_11) (v := (4607182418800017408 : UInt64)) rfl (q := 12) rfl ?_
  refine Go.dstore X0.here hx (Jvm.hb hby d1_12) (l2 := #[.val (.double x), .second, .val (.double u6), .second, .val (.double (4607182418800017408 : UInt64)), .second, .val (.double (4607182418800017408 : UInt64)), .second, .unset]) rfl (q := 14) rfl ?_
  refine Go.iconst X0.here hx (Jvm.hb hby d1_14) (v := (1 : Int32)) rfl (q := 15) rfl ?_
  refine Go.istore X0.here hx (Jvm.hb hby d1_15) (l2 := #[.val (.double x), .second, .val (.double u6), .second, .val (.double (4607182418800017408 : UInt64)), .second, .val (.double (4607182418800017408 : UInt64)), .second, .val (.int (1 : Int32))]) rfl (q := 17) rfl ?_
  have LP17 : ∀ (f : Nat) (t : UInt64) (y : UInt64) (n : Int32), (own_loop f u6 t y n = some r) → Go p e below (Ret s (fun vR hR LR => vR = some (.double r) ∧ Fr n0 LR ∧ hR = h0) 0 0) (s₁.setTop (mkF m 17 #[.val (.double x), .second, .val (.double u6), .second, .val (.double t), .second, .val (.double y), .second, .val (.int n)] [])) := by
    intro f
    induction f with
    | zero => intro t y n hl; exact absurd hl (by simp [own_loop])
    | succ f ih =>
      intro t y n hl
      obtain ⟨c1, c2, c3⟩ := own_loop_go hl
      refine Go.dload X0.here hx (Jvm.hb hby d1_17) rfl (q := 19) rfl ?_
      refine Go.ldc2D X0 hx hown (mvT hZ (word hw 6 rfl)) (Jvm.hb hby d1_19) (q := 22) rfl ?_
      refine Go.dload X0.here hx (Jvm.hb hby d1_22) rfl (q := 24) rfl ?_
      obtain ⟨u24, hu24⟩ : ∃ zq, FP.dmul (4336966441157787648 : UInt64) y = zq := ⟨_, rfl⟩
      refine Go.dmul X0.here hx (Jvm.hb hby d1_24) c1 hu24 (q := 25) rfl ?_
      obtain ⟨u25, hu25⟩ : ∃ zq, cmpValue (FP.dcmp t u24) .l = zq := ⟨_, rfl⟩
      refine Go.dcmp X0.here hx (Jvm.hb hby d1_25) hu25 (q := 26) rfl ?_
      by_cases hc26 : (0 : Int32) < u25
      · -- pc 26: (0 : Int32) < u25
        obtain ⟨d1, d2, d3, d4, d5⟩ := c2 (by subst_vars; exact hc26)
        refine Go.ifN X0.here hx (Jvm.hb hby d1_26) ((if0 _ _).trans (tlt hc26).2.2.2) (q := 29) rfl ?_
        refine Go.dload X0.here hx (Jvm.hb hby d1_29) rfl (q := 31) rfl ?_
        refine Go.dloadN X0.here hx (Jvm.hb hby d1_31) rfl (q := 32) rfl ?_
        refine Go.iload X0.here hx (Jvm.hb hby d1_32) rfl (q := 34) rfl ?_
        obtain ⟨u34, hu34⟩ : ∃ zq, FP.i2d n = zq := ⟨_, rfl⟩
        refine Go.i2d X0.here hx (Jvm.hb hby d1_34) hu34 (q := 35) rfl ?_
        refine Go.iload X0.here hx (Jvm.hb hby d1_35) rfl (q := 37) rfl ?_
        obtain ⟨u37, hu37⟩ : ∃ zq, FP.i2d n = zq := ⟨_, rfl⟩
        refine Go.i2d X0.here hx (Jvm.hb hby d1_37) hu37 (q := 38) rfl ?_
        obtain ⟨u38, hu38⟩ : ∃ zq, FP.dmul u34 u37 = zq := ⟨_, rfl⟩
        refine Go.dmul X0.here hx (Jvm.hb hby d1_38) (by subst_vars; exact d1) hu38 (q := 39) rfl ?_
        obtain ⟨u39, hu39⟩ : ∃ zq, FP.ddiv u6 u38 = zq := ⟨_, rfl⟩
        refine Go.ddiv X0.here hx (Jvm.hb hby d1_39) (by subst_vars; exact d2) hu39 (q := 40) rfl ?_
        obtain ⟨u40, hu40⟩ : ∃ zq, FP.dmul t u39 = zq := ⟨_, rfl⟩
        refine Go.dmul X0.here hx (Jvm.hb hby d1_40) (by subst_vars; exact d3) hu40 (q := 41) rfl ?_
        refine Go.dstore X0.here hx (Jvm.hb hby d1_41) (l2 := #[.val (.double x), .second, .val (.double u6), .second, .val (.double u40), .second, .val (.double y), .second, .val (.int n)]) rfl (q := 43) rfl ?_
        refine Go.dload X0.here hx (Jvm.hb hby d1_43) rfl (q := 45) rfl ?_
        refine Go.dload X0.here hx (Jvm.hb hby d1_45) rfl (q := 47) rfl ?_
        obtain ⟨u47, hu47⟩ : ∃ zq, FP.dadd y u40 = zq := ⟨_, rfl⟩
        refine Go.dadd X0.here hx (Jvm.hb hby d1_47) (by subst_vars; exact d4) hu47 (q := 48) rfl ?_
        refine Go.dstore X0.here hx (Jvm.hb hby d1_48) (l2 := #[.val (.double x), .second, .val (.double u6), .second, .val (.double u40), .second, .val (.double u47), .second, .val (.int n)]) rfl (q := 50) rfl ?_
        obtain ⟨u50, hu50⟩ : ∃ zq, n + Int32.ofInt 1 = zq := ⟨_, rfl⟩
        refine Go.iinc X0.here hx (Jvm.hb hby d1_50) rfl hu50 (l2 := #[.val (.double x), .second, .val (.double u6), .second, .val (.double u40), .second, .val (.double u47), .second, .val (.int u50)]) rfl (q := 53) rfl ?_
        refine Go.goto X0.here hx (Jvm.hb hby d1_53) (by decide) (q := 17) rfl ?_
        exact ih u40 u47 u50 (by subst_vars; exact d5)
      · -- pc 26: not (0 : Int32) < u25
        obtain rfl := c3 (by subst_vars; exact hc26)
        refine Go.ifY X0.here hx (Jvm.hb hby d1_26) ((if0 _ _).trans (flt hc26).2.2.2) (by decide) (q := 56) rfl ?_
        refine Go.dload X0.here hx (Jvm.hb hby d1_56) rfl (q := 58) rfl ?_
        refine Go.retD X0 hx hret hlk (Jvm.hb hby d1_58) (by decide) (by decide) ?_
        exact ⟨rfl, N0, e0⟩
  exact LP17 90 (4607182418800017408 : UInt64) (4607182418800017408 : UInt64) (1 : Int32) (by rw [← hu6, ← hu2]; exact hn.2.2)
theorem d2_0 : decode jdk_29_method_59_code 0 = .ok (.iload_n 0, 1) := by decide +kernel
theorem d2_1 : decode jdk_29_method_59_code 1 = .ok (.ifCond .ge 8, 3) := by decide +kernel
theorem d2_4 : decode jdk_29_method_59_code 4 = .ok (.iload_n 0, 1) := by decide +kernel
theorem d2_5 : decode jdk_29_method_59_code 5 = .ok (.ineg, 1) := by decide +kernel
theorem d2_6 : decode jdk_29_method_59_code 6 = .ok (.goto 4, 3) := by decide +kernel
theorem d2_9 : decode jdk_29_method_59_code 9 = .ok (.iload_n 0, 1) := by decide +kernel
theorem d2_10 : decode jdk_29_method_59_code 10 = .ok (.ireturn, 1) := by decide +kernel
set_option maxRecDepth 65536 in
set_option maxHeartbeats 40000000 in
theorem rm_abs (l : Launch) (Z : State) (a0 : Array Value) (hw : ∀ d ∈ tables_1, d.before a0 Z = true) (k : Int32) (h0 : Heap) (n0 : Nat) (Z0 : n0 ≤ h0.size)  :
    Con l Z (⟨"java/lang/Math", "abs", "(I)I"⟩ : MethodName) jdk_29_method_59_code 1 (some .int) ({ frames := 0, cells := 0, slots := 0, locals := 0 } : Room) #[(.int k)] h0 (fun vR hR LR => vR = some (.int (own_abs k)) ∧ Fr n0 LR ∧ hR = h0) := by
  refine enter (l := l) (Z := Z) (y := (⟨"java/lang/Math", "abs", "(I)I"⟩ : MethodName)) (bytes := jdk_29_method_59_code) (maxL := 1) (ret := (some .int)) (ws := []) (rm := ({ frames := 0, cells := 0, slots := 0, locals := 0 } : Room)) (as' := #[(.int k)]) (h0 := h0) (Qv := (fun vR hR LR => vR = some (.int (own_abs k)) ∧ Fr n0 LR ∧ hR = h0)) (kc := 0) (ks := 0) (by first | exact plainFor_of_name (by first | (simp [plainName, overriddenIn]; done) | decide +kernel) | decide +kernel) (Ls := #[.val (.int k)]) (fun m => by first | (simp [entryFrame, mkF, argsToLocals, Value.category]; done) | rfl) ?_
  intro p e s m below meth c s₁ hx hby hml hown hnm hret hlk hZ X0 e0
  have hown : s.vm.findClass "java/lang/Math" = some m.cls := hown
  have hml : c.maxLocals = 1 := hml
  have N0 := Fr.nil n0
  refine Go.iloadN X0.here hx (Jvm.hb hby d2_0) rfl (q := 1) rfl ?_
  by_cases hc1 : k < (0 : Int32)
  · -- pc 1: k < (0 : Int32)
    refine Go.ifN X0.here hx (Jvm.hb hby d2_1) ((if0 _ _).trans (tlt hc1).2.1) (q := 4) rfl ?_
    refine Go.iloadN X0.here hx (Jvm.hb hby d2_4) rfl (q := 5) rfl ?_
    obtain ⟨u5, hu5⟩ : ∃ zq, -k = zq := ⟨_, rfl⟩
    refine Go.ineg X0.here hx (Jvm.hb hby d2_5) hu5 (q := 6) rfl ?_
    refine Go.goto X0.here hx (Jvm.hb hby d2_6) (by decide) (q := 10) rfl ?_
    refine Go.retI X0 hx hret hlk (Jvm.hb hby d2_10) (by decide) (by decide) ?_
    exact ⟨by rw [own_abs, if_pos hc1, hu5], N0, e0⟩
  · -- pc 1: not k < (0 : Int32)
    refine Go.ifY X0.here hx (Jvm.hb hby d2_1) ((if0 _ _).trans (flt hc1).2.1) (by decide) (q := 9) rfl ?_
    refine Go.iloadN X0.here hx (Jvm.hb hby d2_9) rfl (q := 10) rfl ?_
    refine Go.retI X0 hx hret hlk (Jvm.hb hby d2_10) (by decide) (by decide) ?_
    exact ⟨by rw [own_abs, if_neg hc1], N0, e0⟩
theorem d3_0 : decode method_3_code 0 = .ok (.dconst 1, 1) := by decide +kernel
theorem d3_1 : decode method_3_code 1 = .ok (.dstore_n 1, 1) := by decide +kernel
theorem d3_2 : decode method_3_code 2 = .ok (.ldc2_w 33, 3) := by decide +kernel
theorem d3_5 : decode method_3_code 5 = .ok (.dstore_n 3, 1) := by decide +kernel
theorem d3_6 : decode method_3_code 6 = .ok (.iload_n 0, 1) := by decide +kernel
theorem d3_7 : decode method_3_code 7 = .ok (.iconst 1, 1) := by decide +kernel
theorem d3_8 : decode method_3_code 8 = .ok (.iand, 1) := by decide +kernel
theorem d3_9 : decode method_3_code 9 = .ok (.ifCond .eq 7, 3) := by decide +kernel
theorem d3_12 : decode method_3_code 12 = .ok (.dload_n 1, 1) := by decide +kernel
theorem d3_13 : decode method_3_code 13 = .ok (.dload_n 3, 1) := by decide +kernel
theorem d3_14 : decode method_3_code 14 = .ok (.dmul, 1) := by decide +kernel
theorem d3_15 : decode method_3_code 15 = .ok (.dstore_n 1, 1) := by decide +kernel
theorem d3_16 : decode method_3_code 16 = .ok (.dload_n 3, 1) := by decide +kernel
theorem d3_17 : decode method_3_code 17 = .ok (.dload_n 3, 1) := by decide +kernel
theorem d3_18 : decode method_3_code 18 = .ok (.dmul, 1) := by decide +kernel
theorem d3_19 : decode method_3_code 19 = .ok (.dstore_n 3, 1) := by decide +kernel
theorem d3_20 : decode method_3_code 20 = .ok (.iload_n 0, 1) := by decide +kernel
theorem d3_21 : decode method_3_code 21 = .ok (.iconst 2, 1) := by decide +kernel
theorem d3_22 : decode method_3_code 22 = .ok (.iand, 1) := by decide +kernel
theorem d3_23 : decode method_3_code 23 = .ok (.ifCond .eq 7, 3) := by decide +kernel
theorem d3_26 : decode method_3_code 26 = .ok (.dload_n 1, 1) := by decide +kernel
theorem d3_27 : decode method_3_code 27 = .ok (.dload_n 3, 1) := by decide +kernel
theorem d3_28 : decode method_3_code 28 = .ok (.dmul, 1) := by decide +kernel
theorem d3_29 : decode method_3_code 29 = .ok (.dstore_n 1, 1) := by decide +kernel
theorem d3_30 : decode method_3_code 30 = .ok (.dload_n 3, 1) := by decide +kernel
theorem d3_31 : decode method_3_code 31 = .ok (.dload_n 3, 1) := by decide +kernel
theorem d3_32 : decode method_3_code 32 = .ok (.dmul, 1) := by decide +kernel
theorem d3_33 : decode method_3_code 33 = .ok (.dstore_n 3, 1) := by decide +kernel
theorem d3_34 : decode method_3_code 34 = .ok (.iload_n 0, 1) := by decide +kernel
theorem d3_35 : decode method_3_code 35 = .ok (.iconst 4, 1) := by decide +kernel
theorem d3_36 : decode method_3_code 36 = .ok (.iand, 1) := by decide +kernel
theorem d3_37 : decode method_3_code 37 = .ok (.ifCond .eq 7, 3) := by decide +kernel
theorem d3_40 : decode method_3_code 40 = .ok (.dload_n 1, 1) := by decide +kernel
theorem d3_41 : decode method_3_code 41 = .ok (.dload_n 3, 1) := by decide +kernel
theorem d3_42 : decode method_3_code 42 = .ok (.dmul, 1) := by decide +kernel
theorem d3_43 : decode method_3_code 43 = .ok (.dstore_n 1, 1) := by decide +kernel
theorem d3_44 : decode method_3_code 44 = .ok (.dload_n 3, 1) := by decide +kernel
theorem d3_45 : decode method_3_code 45 = .ok (.dload_n 3, 1) := by decide +kernel
theorem d3_46 : decode method_3_code 46 = .ok (.dmul, 1) := by decide +kernel
theorem d3_47 : decode method_3_code 47 = .ok (.dstore_n 3, 1) := by decide +kernel
theorem d3_48 : decode method_3_code 48 = .ok (.iload_n 0, 1) := by decide +kernel
theorem d3_49 : decode method_3_code 49 = .ok (.bipush 8, 2) := by decide +kernel
theorem d3_51 : decode method_3_code 51 = .ok (.iand, 1) := by decide +kernel
theorem d3_52 : decode method_3_code 52 = .ok (.ifCond .eq 7, 3) := by decide +kernel
theorem d3_55 : decode method_3_code 55 = .ok (.dload_n 1, 1) := by decide +kernel
theorem d3_56 : decode method_3_code 56 = .ok (.dload_n 3, 1) := by decide +kernel
theorem d3_57 : decode method_3_code 57 = .ok (.dmul, 1) := by decide +kernel
theorem d3_58 : decode method_3_code 58 = .ok (.dstore_n 1, 1) := by decide +kernel
theorem d3_59 : decode method_3_code 59 = .ok (.dload_n 3, 1) := by decide +kernel
theorem d3_60 : decode method_3_code 60 = .ok (.dload_n 3, 1) := by decide +kernel
theorem d3_61 : decode method_3_code 61 = .ok (.dmul, 1) := by decide +kernel
theorem d3_62 : decode method_3_code 62 = .ok (.dstore_n 3, 1) := by decide +kernel
theorem d3_63 : decode method_3_code 63 = .ok (.iload_n 0, 1) := by decide +kernel
theorem d3_64 : decode method_3_code 64 = .ok (.bipush 16, 2) := by decide +kernel
theorem d3_66 : decode method_3_code 66 = .ok (.iand, 1) := by decide +kernel
theorem d3_67 : decode method_3_code 67 = .ok (.ifCond .eq 7, 3) := by decide +kernel
theorem d3_70 : decode method_3_code 70 = .ok (.dload_n 1, 1) := by decide +kernel
theorem d3_71 : decode method_3_code 71 = .ok (.dload_n 3, 1) := by decide +kernel
theorem d3_72 : decode method_3_code 72 = .ok (.dmul, 1) := by decide +kernel
theorem d3_73 : decode method_3_code 73 = .ok (.dstore_n 1, 1) := by decide +kernel
theorem d3_74 : decode method_3_code 74 = .ok (.dload_n 3, 1) := by decide +kernel
theorem d3_75 : decode method_3_code 75 = .ok (.dload_n 3, 1) := by decide +kernel
theorem d3_76 : decode method_3_code 76 = .ok (.dmul, 1) := by decide +kernel
theorem d3_77 : decode method_3_code 77 = .ok (.dstore_n 3, 1) := by decide +kernel
theorem d3_78 : decode method_3_code 78 = .ok (.iload_n 0, 1) := by decide +kernel
theorem d3_79 : decode method_3_code 79 = .ok (.bipush 32, 2) := by decide +kernel
theorem d3_81 : decode method_3_code 81 = .ok (.iand, 1) := by decide +kernel
theorem d3_82 : decode method_3_code 82 = .ok (.ifCond .eq 7, 3) := by decide +kernel
theorem d3_85 : decode method_3_code 85 = .ok (.dload_n 1, 1) := by decide +kernel
theorem d3_86 : decode method_3_code 86 = .ok (.dload_n 3, 1) := by decide +kernel
theorem d3_87 : decode method_3_code 87 = .ok (.dmul, 1) := by decide +kernel
theorem d3_88 : decode method_3_code 88 = .ok (.dstore_n 1, 1) := by decide +kernel
theorem d3_89 : decode method_3_code 89 = .ok (.dload_n 3, 1) := by decide +kernel
theorem d3_90 : decode method_3_code 90 = .ok (.dload_n 3, 1) := by decide +kernel
theorem d3_91 : decode method_3_code 91 = .ok (.dmul, 1) := by decide +kernel
theorem d3_92 : decode method_3_code 92 = .ok (.dstore_n 3, 1) := by decide +kernel
theorem d3_93 : decode method_3_code 93 = .ok (.iload_n 0, 1) := by decide +kernel
theorem d3_94 : decode method_3_code 94 = .ok (.bipush 64, 2) := by decide +kernel
theorem d3_96 : decode method_3_code 96 = .ok (.iand, 1) := by decide +kernel
theorem d3_97 : decode method_3_code 97 = .ok (.ifCond .eq 7, 3) := by decide +kernel
theorem d3_100 : decode method_3_code 100 = .ok (.dload_n 1, 1) := by decide +kernel
theorem d3_101 : decode method_3_code 101 = .ok (.dload_n 3, 1) := by decide +kernel
theorem d3_102 : decode method_3_code 102 = .ok (.dmul, 1) := by decide +kernel
theorem d3_103 : decode method_3_code 103 = .ok (.dstore_n 1, 1) := by decide +kernel
theorem d3_104 : decode method_3_code 104 = .ok (.dload_n 1, 1) := by decide +kernel
theorem d3_105 : decode method_3_code 105 = .ok (.dreturn, 1) := by decide +kernel
set_option maxRecDepth 65536 in
set_option maxHeartbeats 40000000 in
theorem rm_pow3 (l : Launch) (Z : State) (a0 : Array Value) (hw : ∀ d ∈ tables_1, d.before a0 Z = true) (k : Int32) (h0 : Heap) (n0 : Nat) (Z0 : n0 ≤ h0.size) (hn : own_pok k) :
    Con l Z (⟨"com/example/iridescence/iridescence/KaiserBesselKernelBesselI0PinLaw", "pow3", "(I)D"⟩ : MethodName) method_3_code 5 (some .double) ({ frames := 0, cells := 0, slots := 0, locals := 0 } : Room) #[(.int k)] h0 (fun vR hR LR => vR = some (.double (own_pw k 7)) ∧ Fr n0 LR ∧ hR = h0) := by
  refine enter (l := l) (Z := Z) (y := (⟨"com/example/iridescence/iridescence/KaiserBesselKernelBesselI0PinLaw", "pow3", "(I)D"⟩ : MethodName)) (bytes := method_3_code) (maxL := 5) (ret := (some .double)) (ws := []) (rm := ({ frames := 0, cells := 0, slots := 0, locals := 0 } : Room)) (as' := #[(.int k)]) (h0 := h0) (Qv := (fun vR hR LR => vR = some (.double (own_pw k 7)) ∧ Fr n0 LR ∧ hR = h0)) (kc := 0) (ks := 0) (by first | exact plainFor_of_name (by first | (simp [plainName, overriddenIn]; done) | decide +kernel) | decide +kernel) (Ls := #[.val (.int k), .unset, .unset, .unset, .unset]) (fun m => by first | (simp [entryFrame, mkF, argsToLocals, Value.category]; done) | rfl) ?_
  intro p e s m below meth c s₁ hx hby hml hown hnm hret hlk hZ X0 e0
  have hown : s.vm.findClass "com/example/iridescence/iridescence/KaiserBesselKernelBesselI0PinLaw" = some m.cls := hown
  have hml : c.maxLocals = 5 := hml
  have N0 := Fr.nil n0
  refine Go.dconst1 X0.here hx (Jvm.hb hby d3_0) (v := (4607182418800017408 : UInt64)) rfl (q := 1) rfl ?_
  refine Go.dstoreN X0.here hx (Jvm.hb hby d3_1) (l2 := #[.val (.int k), .val (.double (4607182418800017408 : UInt64)), .second, .unset, .unset]) rfl (q := 2) rfl ?_
  refine Go.ldc2D X0 hx hown (mvT hZ (word hw 17 rfl)) (Jvm.hb hby d3_2) (q := 5) rfl ?_
  refine Go.dstoreN X0.here hx (Jvm.hb hby d3_5) (l2 := #[.val (.int k), .val (.double (4607182418800017408 : UInt64)), .second, .val (.double (4613937818241073152 : UInt64)), .second]) rfl (q := 6) rfl ?_
  refine Go.iloadN X0.here hx (Jvm.hb hby d3_6) rfl (q := 7) rfl ?_
  refine Go.iconst X0.here hx (Jvm.hb hby d3_7) (v := (1 : Int32)) rfl (q := 8) rfl ?_
  obtain ⟨u8, hu8⟩ : ∃ zq, k &&& (1 : Int32) = zq := ⟨_, rfl⟩
  refine Go.iand X0.here hx (Jvm.hb hby d3_8) hu8 (q := 9) rfl ?_
  have J16 : ∀ (p1 : UInt64), (own_pw k 1 = p1) → Go p e below (Ret s (fun vR hR LR => vR = some (.double (own_pw k 7)) ∧ Fr n0 LR ∧ hR = h0) 0 0) (s₁.setTop (mkF m 16 #[.val (.int k), .val (.double p1), .second, .val (.double (4613937818241073152 : UInt64)), .second] [])) := by
    intro p1 hp1
    refine Go.dloadN X0.here hx (Jvm.hb hby d3_16) rfl (q := 17) rfl ?_
    refine Go.dloadN X0.here hx (Jvm.hb hby d3_17) rfl (q := 18) rfl ?_
    obtain ⟨u18, hu18⟩ : ∃ zq, FP.dmul (4613937818241073152 : UInt64) (4613937818241073152 : UInt64) = zq := ⟨_, rfl⟩
    refine Go.dmul X0.here hx (Jvm.hb hby d3_18) (by have z := hn.1 0 (by decide); rw [(rfl : own_b 0 = _)] at z; exact z) hu18 (q := 19) rfl ?_
    have hb1 : own_b 1 = u18 := (show FP.dmul (own_b 0) (own_b 0) = _ by rw [(rfl : own_b 0 = _)]; exact hu18)
    refine Go.dstoreN X0.here hx (Jvm.hb hby d3_19) (l2 := #[.val (.int k), .val (.double p1), .second, .val (.double u18), .second]) rfl (q := 20) rfl ?_
    refine Go.iloadN X0.here hx (Jvm.hb hby d3_20) rfl (q := 21) rfl ?_
    refine Go.iconst X0.here hx (Jvm.hb hby d3_21) (v := (2 : Int32)) rfl (q := 22) rfl ?_
    obtain ⟨u22, hu22⟩ : ∃ zq, k &&& (2 : Int32) = zq := ⟨_, rfl⟩
    refine Go.iand X0.here hx (Jvm.hb hby d3_22) hu22 (q := 23) rfl ?_
    have J30 : ∀ (p2 : UInt64), (own_pw k 2 = p2) → Go p e below (Ret s (fun vR hR LR => vR = some (.double (own_pw k 7)) ∧ Fr n0 LR ∧ hR = h0) 0 0) (s₁.setTop (mkF m 30 #[.val (.int k), .val (.double p2), .second, .val (.double u18), .second] [])) := by
      intro p2 hp2
      refine Go.dloadN X0.here hx (Jvm.hb hby d3_30) rfl (q := 31) rfl ?_
      refine Go.dloadN X0.here hx (Jvm.hb hby d3_31) rfl (q := 32) rfl ?_
      obtain ⟨u32, hu32⟩ : ∃ zq, FP.dmul u18 u18 = zq := ⟨_, rfl⟩
      refine Go.dmul X0.here hx (Jvm.hb hby d3_32) (by have z := hn.1 1 (by decide); rw [hb1] at z; exact z) hu32 (q := 33) rfl ?_
      have hb2 : own_b 2 = u32 := (show FP.dmul (own_b 1) (own_b 1) = _ by rw [hb1]; exact hu32)
      refine Go.dstoreN X0.here hx (Jvm.hb hby d3_33) (l2 := #[.val (.int k), .val (.double p2), .second, .val (.double u32), .second]) rfl (q := 34) rfl ?_
      refine Go.iloadN X0.here hx (Jvm.hb hby d3_34) rfl (q := 35) rfl ?_
      refine Go.iconst X0.here hx (Jvm.hb hby d3_35) (v := (4 : Int32)) rfl (q := 36) rfl ?_
      obtain ⟨u36, hu36⟩ : ∃ zq, k &&& (4 : Int32) = zq := ⟨_, rfl⟩
      refine Go.iand X0.here hx (Jvm.hb hby d3_36) hu36 (q := 37) rfl ?_
      have J44 : ∀ (p3 : UInt64), (own_pw k 3 = p3) → Go p e below (Ret s (fun vR hR LR => vR = some (.double (own_pw k 7)) ∧ Fr n0 LR ∧ hR = h0) 0 0) (s₁.setTop (mkF m 44 #[.val (.int k), .val (.double p3), .second, .val (.double u32), .second] [])) := by
        intro p3 hp3
        refine Go.dloadN X0.here hx (Jvm.hb hby d3_44) rfl (q := 45) rfl ?_
        refine Go.dloadN X0.here hx (Jvm.hb hby d3_45) rfl (q := 46) rfl ?_
        obtain ⟨u46, hu46⟩ : ∃ zq, FP.dmul u32 u32 = zq := ⟨_, rfl⟩
        refine Go.dmul X0.here hx (Jvm.hb hby d3_46) (by have z := hn.1 2 (by decide); rw [hb2] at z; exact z) hu46 (q := 47) rfl ?_
        have hb3 : own_b 3 = u46 := (show FP.dmul (own_b 2) (own_b 2) = _ by rw [hb2]; exact hu46)
        refine Go.dstoreN X0.here hx (Jvm.hb hby d3_47) (l2 := #[.val (.int k), .val (.double p3), .second, .val (.double u46), .second]) rfl (q := 48) rfl ?_
        refine Go.iloadN X0.here hx (Jvm.hb hby d3_48) rfl (q := 49) rfl ?_
        refine Go.bipush X0.here hx (Jvm.hb hby d3_49) (v := (8 : Int32)) rfl (q := 51) rfl ?_
        obtain ⟨u51, hu51⟩ : ∃ zq, k &&& (8 : Int32) = zq := ⟨_, rfl⟩
        refine Go.iand X0.here hx (Jvm.hb hby d3_51) hu51 (q := 52) rfl ?_
        have J59 : ∀ (p4 : UInt64), (own_pw k 4 = p4) → Go p e below (Ret s (fun vR hR LR => vR = some (.double (own_pw k 7)) ∧ Fr n0 LR ∧ hR = h0) 0 0) (s₁.setTop (mkF m 59 #[.val (.int k), .val (.double p4), .second, .val (.double u46), .second] [])) := by
          intro p4 hp4
          refine Go.dloadN X0.here hx (Jvm.hb hby d3_59) rfl (q := 60) rfl ?_
          refine Go.dloadN X0.here hx (Jvm.hb hby d3_60) rfl (q := 61) rfl ?_
          obtain ⟨u61, hu61⟩ : ∃ zq, FP.dmul u46 u46 = zq := ⟨_, rfl⟩
          refine Go.dmul X0.here hx (Jvm.hb hby d3_61) (by have z := hn.1 3 (by decide); rw [hb3] at z; exact z) hu61 (q := 62) rfl ?_
          have hb4 : own_b 4 = u61 := (show FP.dmul (own_b 3) (own_b 3) = _ by rw [hb3]; exact hu61)
          refine Go.dstoreN X0.here hx (Jvm.hb hby d3_62) (l2 := #[.val (.int k), .val (.double p4), .second, .val (.double u61), .second]) rfl (q := 63) rfl ?_
          refine Go.iloadN X0.here hx (Jvm.hb hby d3_63) rfl (q := 64) rfl ?_
          refine Go.bipush X0.here hx (Jvm.hb hby d3_64) (v := (16 : Int32)) rfl (q := 66) rfl ?_
          obtain ⟨u66, hu66⟩ : ∃ zq, k &&& (16 : Int32) = zq := ⟨_, rfl⟩
          refine Go.iand X0.here hx (Jvm.hb hby d3_66) hu66 (q := 67) rfl ?_
          have J74 : ∀ (p5 : UInt64), (own_pw k 5 = p5) → Go p e below (Ret s (fun vR hR LR => vR = some (.double (own_pw k 7)) ∧ Fr n0 LR ∧ hR = h0) 0 0) (s₁.setTop (mkF m 74 #[.val (.int k), .val (.double p5), .second, .val (.double u61), .second] [])) := by
            intro p5 hp5
            refine Go.dloadN X0.here hx (Jvm.hb hby d3_74) rfl (q := 75) rfl ?_
            refine Go.dloadN X0.here hx (Jvm.hb hby d3_75) rfl (q := 76) rfl ?_
            obtain ⟨u76, hu76⟩ : ∃ zq, FP.dmul u61 u61 = zq := ⟨_, rfl⟩
            refine Go.dmul X0.here hx (Jvm.hb hby d3_76) (by have z := hn.1 4 (by decide); rw [hb4] at z; exact z) hu76 (q := 77) rfl ?_
            have hb5 : own_b 5 = u76 := (show FP.dmul (own_b 4) (own_b 4) = _ by rw [hb4]; exact hu76)
            refine Go.dstoreN X0.here hx (Jvm.hb hby d3_77) (l2 := #[.val (.int k), .val (.double p5), .second, .val (.double u76), .second]) rfl (q := 78) rfl ?_
            refine Go.iloadN X0.here hx (Jvm.hb hby d3_78) rfl (q := 79) rfl ?_
            refine Go.bipush X0.here hx (Jvm.hb hby d3_79) (v := (32 : Int32)) rfl (q := 81) rfl ?_
            obtain ⟨u81, hu81⟩ : ∃ zq, k &&& (32 : Int32) = zq := ⟨_, rfl⟩
            refine Go.iand X0.here hx (Jvm.hb hby d3_81) hu81 (q := 82) rfl ?_
            have J89 : ∀ (p6 : UInt64), (own_pw k 6 = p6) → Go p e below (Ret s (fun vR hR LR => vR = some (.double (own_pw k 7)) ∧ Fr n0 LR ∧ hR = h0) 0 0) (s₁.setTop (mkF m 89 #[.val (.int k), .val (.double p6), .second, .val (.double u76), .second] [])) := by
              intro p6 hp6
              refine Go.dloadN X0.here hx (Jvm.hb hby d3_89) rfl (q := 90) rfl ?_
              refine Go.dloadN X0.here hx (Jvm.hb hby d3_90) rfl (q := 91) rfl ?_
              obtain ⟨u91, hu91⟩ : ∃ zq, FP.dmul u76 u76 = zq := ⟨_, rfl⟩
              refine Go.dmul X0.here hx (Jvm.hb hby d3_91) (by have z := hn.1 5 (by decide); rw [hb5] at z; exact z) hu91 (q := 92) rfl ?_
              have hb6 : own_b 6 = u91 := (show FP.dmul (own_b 5) (own_b 5) = _ by rw [hb5]; exact hu91)
              refine Go.dstoreN X0.here hx (Jvm.hb hby d3_92) (l2 := #[.val (.int k), .val (.double p6), .second, .val (.double u91), .second]) rfl (q := 93) rfl ?_
              refine Go.iloadN X0.here hx (Jvm.hb hby d3_93) rfl (q := 94) rfl ?_
              refine Go.bipush X0.here hx (Jvm.hb hby d3_94) (v := (64 : Int32)) rfl (q := 96) rfl ?_
              obtain ⟨u96, hu96⟩ : ∃ zq, k &&& (64 : Int32) = zq := ⟨_, rfl⟩
              refine Go.iand X0.here hx (Jvm.hb hby d3_96) hu96 (q := 97) rfl ?_
              have J104 : ∀ (p7 : UInt64), (own_pw k 7 = p7) → Go p e below (Ret s (fun vR hR LR => vR = some (.double (own_pw k 7)) ∧ Fr n0 LR ∧ hR = h0) 0 0) (s₁.setTop (mkF m 104 #[.val (.int k), .val (.double p7), .second, .val (.double u91), .second] [])) := by
                intro p7 hp7
                refine Go.dloadN X0.here hx (Jvm.hb hby d3_104) rfl (q := 105) rfl ?_
                refine Go.retD X0 hx hret hlk (Jvm.hb hby d3_105) (by decide) (by decide) ?_
                exact ⟨by rw [← hp7], N0, e0⟩
              by_cases hc97 : u96 = (0 : Int32)
              · -- pc 97: u96 = (0 : Int32)
                refine Go.ifY X0.here hx (Jvm.hb hby d3_97) ((if0 _ _).trans (teq hc97).1) (by decide) (q := 104) rfl ?_
                exact J104 p6 ((if_pos (hu96.trans hc97) : own_pw k 7 = own_pw k 6).trans hp6)
              · -- pc 97: not u96 = (0 : Int32)
                refine Go.ifN X0.here hx (Jvm.hb hby d3_97) ((if0 _ _).trans (feq hc97).1) (q := 100) rfl ?_
                refine Go.dloadN X0.here hx (Jvm.hb hby d3_100) rfl (q := 101) rfl ?_
                refine Go.dloadN X0.here hx (Jvm.hb hby d3_101) rfl (q := 102) rfl ?_
                obtain ⟨u102, hu102⟩ : ∃ zq, FP.dmul p6 u91 = zq := ⟨_, rfl⟩
                refine Go.dmul X0.here hx (Jvm.hb hby d3_102) (by have z := hn.2 6 (by decide); rw [hp6, hb6] at z; exact z) hu102 (q := 103) rfl ?_
                refine Go.dstoreN X0.here hx (Jvm.hb hby d3_103) (l2 := #[.val (.int k), .val (.double u102), .second, .val (.double u91), .second]) rfl (q := 104) rfl ?_
                exact J104 u102 ((if_neg (fun z => hc97 (hu96.symm.trans z)) : own_pw k 7 = FP.dmul (own_pw k 6) (own_b 6)).trans (by rw [hp6, hb6]; exact hu102))
            by_cases hc82 : u81 = (0 : Int32)
            · -- pc 82: u81 = (0 : Int32)
              refine Go.ifY X0.here hx (Jvm.hb hby d3_82) ((if0 _ _).trans (teq hc82).1) (by decide) (q := 89) rfl ?_
              exact J89 p5 ((if_pos (hu81.trans hc82) : own_pw k 6 = own_pw k 5).trans hp5)
            · -- pc 82: not u81 = (0 : Int32)
              refine Go.ifN X0.here hx (Jvm.hb hby d3_82) ((if0 _ _).trans (feq hc82).1) (q := 85) rfl ?_
              refine Go.dloadN X0.here hx (Jvm.hb hby d3_85) rfl (q := 86) rfl ?_
              refine Go.dloadN X0.here hx (Jvm.hb hby d3_86) rfl (q := 87) rfl ?_
              obtain ⟨u87, hu87⟩ : ∃ zq, FP.dmul p5 u76 = zq := ⟨_, rfl⟩
              refine Go.dmul X0.here hx (Jvm.hb hby d3_87) (by have z := hn.2 5 (by decide); rw [hp5, hb5] at z; exact z) hu87 (q := 88) rfl ?_
              refine Go.dstoreN X0.here hx (Jvm.hb hby d3_88) (l2 := #[.val (.int k), .val (.double u87), .second, .val (.double u76), .second]) rfl (q := 89) rfl ?_
              exact J89 u87 ((if_neg (fun z => hc82 (hu81.symm.trans z)) : own_pw k 6 = FP.dmul (own_pw k 5) (own_b 5)).trans (by rw [hp5, hb5]; exact hu87))
          by_cases hc67 : u66 = (0 : Int32)
          · -- pc 67: u66 = (0 : Int32)
            refine Go.ifY X0.here hx (Jvm.hb hby d3_67) ((if0 _ _).trans (teq hc67).1) (by decide) (q := 74) rfl ?_
            exact J74 p4 ((if_pos (hu66.trans hc67) : own_pw k 5 = own_pw k 4).trans hp4)
          · -- pc 67: not u66 = (0 : Int32)
            refine Go.ifN X0.here hx (Jvm.hb hby d3_67) ((if0 _ _).trans (feq hc67).1) (q := 70) rfl ?_
            refine Go.dloadN X0.here hx (Jvm.hb hby d3_70) rfl (q := 71) rfl ?_
            refine Go.dloadN X0.here hx (Jvm.hb hby d3_71) rfl (q := 72) rfl ?_
            obtain ⟨u72, hu72⟩ : ∃ zq, FP.dmul p4 u61 = zq := ⟨_, rfl⟩
            refine Go.dmul X0.here hx (Jvm.hb hby d3_72) (by have z := hn.2 4 (by decide); rw [hp4, hb4] at z; exact z) hu72 (q := 73) rfl ?_
            refine Go.dstoreN X0.here hx (Jvm.hb hby d3_73) (l2 := #[.val (.int k), .val (.double u72), .second, .val (.double u61), .second]) rfl (q := 74) rfl ?_
            exact J74 u72 ((if_neg (fun z => hc67 (hu66.symm.trans z)) : own_pw k 5 = FP.dmul (own_pw k 4) (own_b 4)).trans (by rw [hp4, hb4]; exact hu72))
        by_cases hc52 : u51 = (0 : Int32)
        · -- pc 52: u51 = (0 : Int32)
          refine Go.ifY X0.here hx (Jvm.hb hby d3_52) ((if0 _ _).trans (teq hc52).1) (by decide) (q := 59) rfl ?_
          exact J59 p3 ((if_pos (hu51.trans hc52) : own_pw k 4 = own_pw k 3).trans hp3)
        · -- pc 52: not u51 = (0 : Int32)
          refine Go.ifN X0.here hx (Jvm.hb hby d3_52) ((if0 _ _).trans (feq hc52).1) (q := 55) rfl ?_
          refine Go.dloadN X0.here hx (Jvm.hb hby d3_55) rfl (q := 56) rfl ?_
          refine Go.dloadN X0.here hx (Jvm.hb hby d3_56) rfl (q := 57) rfl ?_
          obtain ⟨u57, hu57⟩ : ∃ zq, FP.dmul p3 u46 = zq := ⟨_, rfl⟩
          refine Go.dmul X0.here hx (Jvm.hb hby d3_57) (by have z := hn.2 3 (by decide); rw [hp3, hb3] at z; exact z) hu57 (q := 58) rfl ?_
          refine Go.dstoreN X0.here hx (Jvm.hb hby d3_58) (l2 := #[.val (.int k), .val (.double u57), .second, .val (.double u46), .second]) rfl (q := 59) rfl ?_
          exact J59 u57 ((if_neg (fun z => hc52 (hu51.symm.trans z)) : own_pw k 4 = FP.dmul (own_pw k 3) (own_b 3)).trans (by rw [hp3, hb3]; exact hu57))
      by_cases hc37 : u36 = (0 : Int32)
      · -- pc 37: u36 = (0 : Int32)
        refine Go.ifY X0.here hx (Jvm.hb hby d3_37) ((if0 _ _).trans (teq hc37).1) (by decide) (q := 44) rfl ?_
        exact J44 p2 ((if_pos (hu36.trans hc37) : own_pw k 3 = own_pw k 2).trans hp2)
      · -- pc 37: not u36 = (0 : Int32)
        refine Go.ifN X0.here hx (Jvm.hb hby d3_37) ((if0 _ _).trans (feq hc37).1) (q := 40) rfl ?_
        refine Go.dloadN X0.here hx (Jvm.hb hby d3_40) rfl (q := 41) rfl ?_
        refine Go.dloadN X0.here hx (Jvm.hb hby d3_41) rfl (q := 42) rfl ?_
        obtain ⟨u42, hu42⟩ : ∃ zq, FP.dmul p2 u32 = zq := ⟨_, rfl⟩
        refine Go.dmul X0.here hx (Jvm.hb hby d3_42) (by have z := hn.2 2 (by decide); rw [hp2, hb2] at z; exact z) hu42 (q := 43) rfl ?_
        refine Go.dstoreN X0.here hx (Jvm.hb hby d3_43) (l2 := #[.val (.int k), .val (.double u42), .second, .val (.double u32), .second]) rfl (q := 44) rfl ?_
        exact J44 u42 ((if_neg (fun z => hc37 (hu36.symm.trans z)) : own_pw k 3 = FP.dmul (own_pw k 2) (own_b 2)).trans (by rw [hp2, hb2]; exact hu42))
    by_cases hc23 : u22 = (0 : Int32)
    · -- pc 23: u22 = (0 : Int32)
      refine Go.ifY X0.here hx (Jvm.hb hby d3_23) ((if0 _ _).trans (teq hc23).1) (by decide) (q := 30) rfl ?_
      exact J30 p1 ((if_pos (hu22.trans hc23) : own_pw k 2 = own_pw k 1).trans hp1)
    · -- pc 23: not u22 = (0 : Int32)
      refine Go.ifN X0.here hx (Jvm.hb hby d3_23) ((if0 _ _).trans (feq hc23).1) (q := 26) rfl ?_
      refine Go.dloadN X0.here hx (Jvm.hb hby d3_26) rfl (q := 27) rfl ?_
      refine Go.dloadN X0.here hx (Jvm.hb hby d3_27) rfl (q := 28) rfl ?_
      obtain ⟨u28, hu28⟩ : ∃ zq, FP.dmul p1 u18 = zq := ⟨_, rfl⟩
      refine Go.dmul X0.here hx (Jvm.hb hby d3_28) (by have z := hn.2 1 (by decide); rw [hp1, hb1] at z; exact z) hu28 (q := 29) rfl ?_
      refine Go.dstoreN X0.here hx (Jvm.hb hby d3_29) (l2 := #[.val (.int k), .val (.double u28), .second, .val (.double u18), .second]) rfl (q := 30) rfl ?_
      exact J30 u28 ((if_neg (fun z => hc23 (hu22.symm.trans z)) : own_pw k 2 = FP.dmul (own_pw k 1) (own_b 1)).trans (by rw [hp1, hb1]; exact hu28))
  by_cases hc9 : u8 = (0 : Int32)
  · -- pc 9: u8 = (0 : Int32)
    refine Go.ifY X0.here hx (Jvm.hb hby d3_9) ((if0 _ _).trans (teq hc9).1) (by decide) (q := 16) rfl ?_
    exact J16 (4607182418800017408 : UInt64) ((if_pos (hu8.trans hc9) : own_pw k 1 = own_pw k 0).trans (rfl : own_pw k 0 = _))
  · -- pc 9: not u8 = (0 : Int32)
    refine Go.ifN X0.here hx (Jvm.hb hby d3_9) ((if0 _ _).trans (feq hc9).1) (q := 12) rfl ?_
    refine Go.dloadN X0.here hx (Jvm.hb hby d3_12) rfl (q := 13) rfl ?_
    refine Go.dloadN X0.here hx (Jvm.hb hby d3_13) rfl (q := 14) rfl ?_
    obtain ⟨u14, hu14⟩ : ∃ zq, FP.dmul (4607182418800017408 : UInt64) (4613937818241073152 : UInt64) = zq := ⟨_, rfl⟩
    refine Go.dmul X0.here hx (Jvm.hb hby d3_14) (by have z := hn.2 0 (by decide); rw [(rfl : own_pw k 0 = _), (rfl : own_b 0 = _)] at z; exact z) hu14 (q := 15) rfl ?_
    refine Go.dstoreN X0.here hx (Jvm.hb hby d3_15) (l2 := #[.val (.int k), .val (.double u14), .second, .val (.double (4613937818241073152 : UInt64)), .second]) rfl (q := 16) rfl ?_
    exact J16 u14 ((if_neg (fun z => hc9 (hu8.symm.trans z)) : own_pw k 1 = FP.dmul (own_pw k 0) (own_b 0)).trans (by rw [(rfl : own_pw k 0 = _), (rfl : own_b 0 = _)]; exact hu14))
set_option maxRecDepth 65536 in
set_option maxHeartbeats 40000000 in
theorem rm_law (l : Launch) (Z : State) (a0 : Array Value) (hw : ∀ d ∈ tables_1, d.before a0 Z = true) (ws : List Jvm.Cond) (q1 : Int32) (h0 : Heap) (n0 : Nat) (Z0 : n0 ≤ h0.size)  :
    MetFree l x (head1 (Jvm.Cond.code x code maxLocals ret :: ws) room_1) (fun a U => a = #[(.int q1)] ∧ Z.Warmed39 U.vm ∧ U.heap = h0) (fun _ _ _ _ _ => True) (fun _ U o U' => ∃ v L, o = .returned v ∧ (fun vR hR LR => vR = some (.int (1 : Int32)) ∧ Fr n0 LR) v U'.heap L ∧ FrameEnd U o U' L 0 0) := by
  refine enter (l := l) (Z := Z) (y := x) (bytes := code) (maxL := maxLocals) (ret := ret) (ws := ws) (rm := room_1) (as' := #[(.int q1)]) (h0 := h0) (Qv := (fun vR hR LR => vR = some (.int (1 : Int32)) ∧ Fr n0 LR)) (kc := 0) (ks := 0) (by first | exact plainFor_of_name (by first | (simp [plainName, overriddenIn]; done) | decide +kernel) | decide +kernel) (Ls := #[.val (.int q1), .unset, .unset, .unset, .unset, .unset, .unset, .unset, .unset, .unset, .unset, .unset, .unset, .unset, .unset, .unset, .unset]) (fun m => by first | (simp [entryFrame, mkF, argsToLocals, Value.category, maxLocals]; done) | rfl) ?_
  intro p e s m below meth c s₁ hx hby hml hown hnm hret hlk hZ X0 e0
  have hown : s.vm.findClass "com/example/iridescence/iridescence/KaiserBesselKernelBesselI0PinLaw" = some m.cls := hown
  have hml : c.maxLocals = 17 := hml
  have N0 := Fr.nil n0
  refine Go.iloadN X0.here hx (Jvm.hb hby at_0) rfl (q := 1) rfl ?_
  refine Go.sipush X0.here hx (Jvm.hb hby at_1) (v := (128 : Int32)) rfl (q := 4) rfl ?_
  obtain ⟨kk, hkk⟩ : ∃ zq, q1 - (q1 / (128 : Int32)) * (128 : Int32) = zq := ⟨_, rfl⟩
  refine Go.irem X0.here hx (Jvm.hb hby at_4) (by decide) hkk (q := 5) rfl ?_
  obtain ⟨r, hr, hk⟩ := own_facts (own_k hkk)
  simp only [own_chk, Bool.and_eq_true, decide_eq_true_eq, Bool.or_eq_true] at hk
  obtain ⟨n1, n2, n3, n4, n5, n6, n7, n8, n9, n10, n11, n12, n13, n14, n15, n16, n17⟩ := hk
  refine Go.istoreN X0.here hx (Jvm.hb hby at_5) (l2 := #[.val (.int q1), .val (.int kk), .unset, .unset, .unset, .unset, .unset, .unset, .unset, .unset, .unset, .unset, .unset, .unset, .unset, .unset, .unset]) rfl (q := 6) rfl ?_
  refine Go.iloadN X0.here hx (Jvm.hb hby at_6) rfl (q := 7) rfl ?_
  obtain ⟨u7, hu7⟩ : ∃ zq, FP.i2d kk = zq := ⟨_, rfl⟩
  refine Go.i2d X0.here hx (Jvm.hb hby at_7) hu7 (q := 8) rfl ?_
  refine Go.ldc2D X0 hx hown (mvT hZ (word hw 0 rfl)) (Jvm.hb hby at_8) (q := 11) rfl ?_
  obtain ⟨xx, hxx⟩ : ∃ zq, FP.ddiv u7 (4611686018427387904 : UInt64) = zq := ⟨_, rfl⟩
  refine Go.ddiv X0.here hx (Jvm.hb hby at_11) (by rw [← hu7]; exact nb_nn n1) hxx (q := 12) rfl ?_
  have hx0 : own_x kk = xx := by rw [own_x, hu7, hxx]
  rw [hx0] at hr n1 n2 n3 n4 n5 n7 n8 n9 n10 n11 n12 n13 n14 n17
  refine Go.dstoreN X0.here hx (Jvm.hb hby at_12) (l2 := #[.val (.int q1), .val (.int kk), .val (.double xx), .second, .unset, .unset, .unset, .unset, .unset, .unset, .unset, .unset, .unset, .unset, .unset, .unset, .unset]) rfl (q := 13) rfl ?_
  refine Go.dloadN X0.here hx (Jvm.hb hby at_13) rfl (q := 14) rfl ?_
  refine Go.static X0 hx hZ (y := (⟨"com/example/iridescence/iridescence/KaiserBesselKernel", "besselI0", "(D)D"⟩ : MethodName)) hown (word hw 1 rfl) (word hw 2 rfl) (word hw 4 rfl) (word hw 3 rfl) (by decide) (rm_bes l Z a0 hw xx r h0 n0 Z0 (⟨nb_nn n2, nb_nn n3, hr⟩)) e0  (argsL := [(.double xx)]) (rest := []) (W := 0) (Jvm.hb hby at_14) rfl rfl (lenOf (pd0) rfl) (by rw [hml]; rfl) (Nat.le_of_eq rfl) (by decide) (by decide) (by decide) (by decide) (q := 17) rfl ?_
  intro T101 L101 w101 X101 hQ101
  obtain ⟨rfl, M101, q101⟩ := hQ101
  have N101 := Fr.app N0 M101
  show Go p e below _ (T101.setTop (mkF m 17 #[.val (.int q1), .val (.int kk), .val (.double xx), .second, .unset, .unset, .unset, .unset, .unset, .unset, .unset, .unset, .unset, .unset, .unset, .unset, .unset] [(.double r)]))
  refine Go.dstore X101.here hx (Jvm.hb hby at_17) (l2 := #[.val (.int q1), .val (.int kk), .val (.double xx), .second, .val (.double r), .second, .unset, .unset, .unset, .unset, .unset, .unset, .unset, .unset, .unset, .unset, .unset]) rfl (q := 19) rfl ?_
  refine Go.dloadN X101.here hx (Jvm.hb hby at_19) rfl (q := 20) rfl ?_
  obtain ⟨u20, hu20⟩ : ∃ zq, FP.dneg xx = zq := ⟨_, rfl⟩
  refine Go.dneg X101.here hx (Jvm.hb hby at_20) hu20 (q := 21) rfl ?_
  refine Go.static X101 hx hZ (y := (⟨"com/example/iridescence/iridescence/KaiserBesselKernel", "besselI0", "(D)D"⟩ : MethodName)) hown (word hw 1 rfl) (word hw 2 rfl) (word hw 4 rfl) (word hw 3 rfl) (by decide) (rm_bes l Z a0 hw u20 r h0 n0 Z0 (by rw [← hu20]; exact ⟨nb_nn n4, by rw [n5]; exact nb_nn n3, by rw [n5]; exact hr⟩)) q101  (argsL := [(.double u20)]) (rest := []) (W := 0) (Jvm.hb hby at_21) rfl rfl (lenOf (pd0) rfl) (by rw [hml]; rfl) (Nat.le_of_eq rfl) (by decide) (by decide) (by decide) (by decide) (q := 24) rfl ?_
  intro T102 L102 w102 X102 hQ102
  obtain ⟨rfl, M102, q102⟩ := hQ102
  have N102 := Fr.app N101 M102
  show Go p e below _ (T102.setTop (mkF m 24 #[.val (.int q1), .val (.int kk), .val (.double xx), .second, .val (.double r), .second, .unset, .unset, .unset, .unset, .unset, .unset, .unset, .unset, .unset, .unset, .unset] [(.double r)]))
  refine Go.dstore X102.here hx (Jvm.hb hby at_24) (l2 := #[.val (.int q1), .val (.int kk), .val (.double xx), .second, .val (.double r), .second, .val (.double r), .second, .unset, .unset, .unset, .unset, .unset, .unset, .unset, .unset, .unset]) rfl (q := 26) rfl ?_
  refine Go.dload X102.here hx (Jvm.hb hby at_26) rfl (q := 28) rfl ?_
  refine Go.dload X102.here hx (Jvm.hb hby at_28) rfl (q := 30) rfl ?_
  obtain ⟨u30, hu30⟩ : ∃ zq, cmpValue (FP.dcmp r r) .l = zq := ⟨_, rfl⟩
  refine Go.dcmp X102.here hx (Jvm.hb hby at_30) hu30 (q := 31) rfl ?_
  have hc31 : u30 = (0 : Int32) := hu30.symm.trans n6
  refine Go.ifY X102.here hx (Jvm.hb hby at_31) ((if0 _ _).trans (teq hc31).1) (by decide) (q := 36) rfl ?_
  refine Go.dloadN X102.here hx (Jvm.hb hby at_36) rfl (q := 37) rfl ?_
  refine Go.dloadN X102.here hx (Jvm.hb hby at_37) rfl (q := 38) rfl ?_
  obtain ⟨u38, hu38⟩ : ∃ zq, FP.dmul xx xx = zq := ⟨_, rfl⟩
  refine Go.dmul X102.here hx (Jvm.hb hby at_38) (nb_nn n2) hu38 (q := 39) rfl ?_
  refine Go.ldc2D X102 hx hown (mvT hZ (word hw 7 rfl)) (Jvm.hb hby at_39) (q := 42) rfl ?_
  obtain ⟨qq, hqq⟩ : ∃ zq, FP.ddiv u38 (4616189618054758400 : UInt64) = zq := ⟨_, rfl⟩
  refine Go.ddiv X102.here hx (Jvm.hb hby at_42) (by rw [← hu38]; exact nb_nn n3) hqq (q := 43) rfl ?_
  have hq0 : own_q xx = qq := by rw [own_q, hu38, hqq]
  rw [hq0] at hr n3 n7 n8 n9 n10 n11 n12 n13 n14 n17
  refine Go.dstore X102.here hx (Jvm.hb hby at_43) (l2 := #[.val (.int q1), .val (.int kk), .val (.double xx), .second, .val (.double r), .second, .val (.double r), .second, .val (.double qq), .second, .unset, .unset, .unset, .unset, .unset, .unset, .unset]) rfl (q := 45) rfl ?_
  refine Go.dconst1 X102.here hx (Jvm.hb hby at_45) (v := (4607182418800017408 : UInt64)) rfl (q := 46) rfl ?_
  refine Go.dload X102.here hx (Jvm.hb hby at_46) rfl (q := 48) rfl ?_
  obtain ⟨u48, hu48⟩ : ∃ zq, FP.dadd (4607182418800017408 : UInt64) qq = zq := ⟨_, rfl⟩
  refine Go.dadd X102.here hx (Jvm.hb hby at_48) (nb_nn n7) hu48 (q := 49) rfl ?_
  refine Go.dload X102.here hx (Jvm.hb hby at_49) rfl (q := 51) rfl ?_
  refine Go.dload X102.here hx (Jvm.hb hby at_51) rfl (q := 53) rfl ?_
  obtain ⟨u53, hu53⟩ : ∃ zq, FP.dmul qq qq = zq := ⟨_, rfl⟩
  refine Go.dmul X102.here hx (Jvm.hb hby at_53) (nb_nn n8) hu53 (q := 54) rfl ?_
  refine Go.ldc2D X102 hx hown (mvT hZ (word hw 7 rfl)) (Jvm.hb hby at_54) (q := 57) rfl ?_
  obtain ⟨u57, hu57⟩ : ∃ zq, FP.ddiv u53 (4616189618054758400 : UInt64) = zq := ⟨_, rfl⟩
  refine Go.ddiv X102.here hx (Jvm.hb hby at_57) (by rw [← hu53]; exact nb_nn n9) hu57 (q := 58) rfl ?_
  obtain ⟨u58, hu58⟩ : ∃ zq, FP.dadd u48 u57 = zq := ⟨_, rfl⟩
  refine Go.dadd X102.here hx (Jvm.hb hby at_58) (by rw [← hu48, ← hu57, ← hu53]; exact nb_nn n10) hu58 (q := 59) rfl ?_
  refine Go.dload X102.here hx (Jvm.hb hby at_59) rfl (q := 61) rfl ?_
  refine Go.dload X102.here hx (Jvm.hb hby at_61) rfl (q := 63) rfl ?_
  obtain ⟨u63, hu63⟩ : ∃ zq, FP.dmul qq qq = zq := ⟨_, rfl⟩
  refine Go.dmul X102.here hx (Jvm.hb hby at_63) (nb_nn n8) hu63 (q := 64) rfl ?_
  refine Go.dload X102.here hx (Jvm.hb hby at_64) rfl (q := 66) rfl ?_
  obtain ⟨u66, hu66⟩ : ∃ zq, FP.dmul u63 qq = zq := ⟨_, rfl⟩
  refine Go.dmul X102.here hx (Jvm.hb hby at_66) (by rw [← hu63]; exact nb_nn n11) hu66 (q := 67) rfl ?_
  refine Go.ldc2D X102 hx hown (mvT hZ (word hw 8 rfl)) (Jvm.hb hby at_67) (q := 70) rfl ?_
  obtain ⟨u70, hu70⟩ : ∃ zq, FP.ddiv u66 (4630263366890291200 : UInt64) = zq := ⟨_, rfl⟩
  refine Go.ddiv X102.here hx (Jvm.hb hby at_70) (by rw [← hu66, ← hu63]; exact nb_nn n12) hu70 (q := 71) rfl ?_
  obtain ⟨u71, hu71⟩ : ∃ zq, FP.dadd u58 u70 = zq := ⟨_, rfl⟩
  refine Go.dadd X102.here hx (Jvm.hb hby at_71) (by rw [← hu58, ← hu48, ← hu57, ← hu53, ← hu70, ← hu66, ← hu63]; exact nb_nn n13) hu71 (q := 72) rfl ?_
  refine Go.dstore X102.here hx (Jvm.hb hby at_72) (l2 := #[.val (.int q1), .val (.int kk), .val (.double xx), .second, .val (.double r), .second, .val (.double r), .second, .val (.double qq), .second, .val (.double u71), .second, .unset, .unset, .unset, .unset, .unset]) rfl (q := 74) rfl ?_
  refine Go.dload X102.here hx (Jvm.hb hby at_74) rfl (q := 76) rfl ?_
  refine Go.dload X102.here hx (Jvm.hb hby at_76) rfl (q := 78) rfl ?_
  obtain ⟨u78, hu78⟩ : ∃ zq, cmpValue (FP.dcmp r u71) .g = zq := ⟨_, rfl⟩
  refine Go.dcmp X102.here hx (Jvm.hb hby at_78) hu78 (q := 79) rfl ?_
  have hc79 : ¬ (u78 < (0 : Int32)) := by rw [← hu78, ← hu71, ← hu58, ← hu48, ← hu57, ← hu53, ← hu70, ← hu66, ← hu63]; exact n14
  refine Go.ifY X102.here hx (Jvm.hb hby at_79) ((if0 _ _).trans (flt hc79).2.1) (by decide) (q := 84) rfl ?_
  refine Go.iloadN X102.here hx (Jvm.hb hby at_84) rfl (q := 85) rfl ?_
  refine Go.static X102 hx hZ (y := (⟨"java/lang/Math", "abs", "(I)I"⟩ : MethodName)) hown (word hw 9 rfl) (word hw 10 rfl) (word hw 12 rfl) (word hw 11 rfl) (by decide) (rm_abs l Z a0 hw kk h0 n0 Z0 ) q102  (argsL := [(.int kk)]) (rest := []) (W := 0) (Jvm.hb hby at_85) rfl rfl (lenOf (pd1) rfl) (by rw [hml]; rfl) (Nat.le_of_eq rfl) (by decide) (by decide) (by decide) (by decide) (q := 88) rfl ?_
  intro T105 L105 w105 X105 hQ105
  obtain ⟨rfl, M105, q105⟩ := hQ105
  have N105 := Fr.app N102 M105
  show Go p e below _ (T105.setTop (mkF m 88 #[.val (.int q1), .val (.int kk), .val (.double xx), .second, .val (.double r), .second, .val (.double r), .second, .val (.double qq), .second, .val (.double u71), .second, .unset, .unset, .unset, .unset, .unset] [(.int (own_abs kk))]))
  obtain ⟨ab, hab⟩ : ∃ zq, (own_abs kk) = zq := ⟨_, rfl⟩
  rw [hab]
  refine Go.iconst X105.here hx (Jvm.hb hby at_88) (v := (1 : Int32)) rfl (q := 89) rfl ?_
  obtain ⟨u89, hu89⟩ : ∃ zq, ab + (1 : Int32) = zq := ⟨_, rfl⟩
  refine Go.iadd X105.here hx (Jvm.hb hby at_89) hu89 (q := 90) rfl ?_
  refine Go.iconst X105.here hx (Jvm.hb hby at_90) (v := (2 : Int32)) rfl (q := 91) rfl ?_
  obtain ⟨mm, hmm⟩ : ∃ zq, u89 / (2 : Int32) = zq := ⟨_, rfl⟩
  refine Go.idiv X105.here hx (Jvm.hb hby at_91) (by decide) hmm (q := 92) rfl ?_
  have hm0 : own_half kk = mm := by rw [own_half, hab, hu89, hmm]
  rw [hm0] at n15 n16
  refine Go.istore X105.here hx (Jvm.hb hby at_92) (l2 := #[.val (.int q1), .val (.int kk), .val (.double xx), .second, .val (.double r), .second, .val (.double r), .second, .val (.double qq), .second, .val (.double u71), .second, .val (.int mm), .unset, .unset, .unset, .unset]) rfl (q := 94) rfl ?_
  refine Go.iload X105.here hx (Jvm.hb hby at_94) rfl (q := 96) rfl ?_
  refine Go.static X105 hx hZ (y := (⟨"com/example/iridescence/iridescence/KaiserBesselKernelBesselI0PinLaw", "pow3", "(I)D"⟩ : MethodName)) hown (word hw 13 rfl) (word hw 14 rfl) (word hw 16 rfl) (word hw 15 rfl) (by decide) (rm_pow3 l Z a0 hw mm h0 n0 Z0 (own_pok_of n15)) q105  (argsL := [(.int mm)]) (rest := []) (W := 0) (Jvm.hb hby at_96) rfl rfl (lenOf (pd2) rfl) (by rw [hml]; rfl) (Nat.le_of_eq rfl) (by decide) (by decide) (by decide) (by decide) (q := 99) rfl ?_
  intro T106 L106 w106 X106 hQ106
  obtain ⟨rfl, M106, q106⟩ := hQ106
  have N106 := Fr.app N105 M106
  show Go p e below _ (T106.setTop (mkF m 99 #[.val (.int q1), .val (.int kk), .val (.double xx), .second, .val (.double r), .second, .val (.double r), .second, .val (.double qq), .second, .val (.double u71), .second, .val (.int mm), .unset, .unset, .unset, .unset] [(.double (own_pw mm 7))]))
  obtain ⟨pp, hpp⟩ : ∃ zq, (own_pw mm 7) = zq := ⟨_, rfl⟩
  rw [hpp]
  refine Go.dstore X106.here hx (Jvm.hb hby at_99) (l2 := #[.val (.int q1), .val (.int kk), .val (.double xx), .second, .val (.double r), .second, .val (.double r), .second, .val (.double qq), .second, .val (.double u71), .second, .val (.int mm), .val (.double pp), .second, .unset, .unset]) rfl (q := 101) rfl ?_
  refine Go.dload X106.here hx (Jvm.hb hby at_101) rfl (q := 103) rfl ?_
  refine Go.dload X106.here hx (Jvm.hb hby at_103) rfl (q := 105) rfl ?_
  obtain ⟨u105, hu105⟩ : ∃ zq, cmpValue (FP.dcmp r pp) .g = zq := ⟨_, rfl⟩
  refine Go.dcmp X106.here hx (Jvm.hb hby at_105) hu105 (q := 106) rfl ?_
  have hc106 : ¬ ((0 : Int32) < u105) := by rw [← hu105, ← hpp]; exact n16
  refine Go.ifY X106.here hx (Jvm.hb hby at_106) ((if0 _ _).trans (flt hc106).2.2.2) (by decide) (q := 111) rfl ?_
  refine Go.iloadN X106.here hx (Jvm.hb hby at_111) rfl (q := 112) rfl ?_
  refine Go.static X106 hx hZ (y := (⟨"java/lang/Math", "abs", "(I)I"⟩ : MethodName)) hown (word hw 9 rfl) (word hw 10 rfl) (word hw 12 rfl) (word hw 11 rfl) (by decide) (rm_abs l Z a0 hw kk h0 n0 Z0 ) q106  (argsL := [(.int kk)]) (rest := []) (W := 0) (Jvm.hb hby at_112) rfl rfl (lenOf (pd1) rfl) (by rw [hml]; rfl) (Nat.le_of_eq rfl) (by decide) (by decide) (by decide) (by decide) (q := 115) rfl ?_
  intro T108 L108 w108 X108 hQ108
  obtain ⟨rfl, M108, q108⟩ := hQ108
  have N108 := Fr.app N106 M108
  show Go p e below _ (T108.setTop (mkF m 115 #[.val (.int q1), .val (.int kk), .val (.double xx), .second, .val (.double r), .second, .val (.double r), .second, .val (.double qq), .second, .val (.double u71), .second, .val (.int mm), .val (.double pp), .second, .unset, .unset] [(.int (own_abs kk))]))
  obtain ⟨ac, hac⟩ : ∃ zq, (own_abs kk) = zq := ⟨_, rfl⟩
  rw [hac]
  refine Go.bipush X108.here hx (Jvm.hb hby at_115) (v := (8 : Int32)) rfl (q := 117) rfl ?_
  by_cases hc117 : (8 : Int32) < ac
  · -- pc 117: (8 : Int32) < ac
    refine Go.icmpY X108.here hx (Jvm.hb hby at_117) (tlt hc117).2.2.1 (by decide) (q := 157) rfl ?_
    refine Go.iconst X108.here hx (Jvm.hb hby at_157) (v := (1 : Int32)) rfl (q := 158) rfl ?_
    refine Go.retZ X108 hx hret hlk (Jvm.hb hby at_158) (Or.inr rfl) (by decide) (by decide) ?_
    exact ⟨rfl, N108⟩
  · -- pc 117: not (8 : Int32) < ac
    have nn := n17.resolve_left (by rw [hac]; exact hc117)
    obtain ⟨m1, m2, m3, m4, m5⟩ := nn
    refine Go.icmpN X108.here hx (Jvm.hb hby at_117) (flt hc117).2.2.1 (q := 120) rfl ?_
    refine Go.dconst1 X108.here hx (Jvm.hb hby at_120) (v := (4607182418800017408 : UInt64)) rfl (q := 121) rfl ?_
    refine Go.dload X108.here hx (Jvm.hb hby at_121) rfl (q := 123) rfl ?_
    obtain ⟨u123, hu123⟩ : ∃ zq, FP.dadd (4607182418800017408 : UInt64) qq = zq := ⟨_, rfl⟩
    refine Go.dadd X108.here hx (Jvm.hb hby at_123) (nb_nn n7) hu123 (q := 124) rfl ?_
    refine Go.dload X108.here hx (Jvm.hb hby at_124) rfl (q := 126) rfl ?_
    refine Go.dload X108.here hx (Jvm.hb hby at_126) rfl (q := 128) rfl ?_
    obtain ⟨u128, hu128⟩ : ∃ zq, FP.dmul qq qq = zq := ⟨_, rfl⟩
    refine Go.dmul X108.here hx (Jvm.hb hby at_128) (nb_nn n8) hu128 (q := 129) rfl ?_
    refine Go.ldc2D X108 hx hown (mvT hZ (word hw 7 rfl)) (Jvm.hb hby at_129) (q := 132) rfl ?_
    obtain ⟨u132, hu132⟩ : ∃ zq, FP.ddiv u128 (4616189618054758400 : UInt64) = zq := ⟨_, rfl⟩
    refine Go.ddiv X108.here hx (Jvm.hb hby at_132) (by rw [← hu128]; exact nb_nn n9) hu132 (q := 133) rfl ?_
    refine Go.ldc2D X108 hx hown (mvT hZ (word hw 18 rfl)) (Jvm.hb hby at_133) (q := 136) rfl ?_
    obtain ⟨u136, hu136⟩ : ∃ zq, FP.dmul u132 (4621256167635550208 : UInt64) = zq := ⟨_, rfl⟩
    refine Go.dmul X108.here hx (Jvm.hb hby at_136) (by rw [← hu132, ← hu128]; exact nb_nn m1) hu136 (q := 137) rfl ?_
    refine Go.ldc2D X108 hx hown (mvT hZ (word hw 18 rfl)) (Jvm.hb hby at_137) (q := 140) rfl ?_
    refine Go.dload X108.here hx (Jvm.hb hby at_140) rfl (q := 142) rfl ?_
    obtain ⟨u142, hu142⟩ : ∃ zq, FP.dsub (4621256167635550208 : UInt64) qq = zq := ⟨_, rfl⟩
    refine Go.dsub X108.here hx (Jvm.hb hby at_142) (nb_nn m2) hu142 (q := 143) rfl ?_
    obtain ⟨u143, hu143⟩ : ∃ zq, FP.ddiv u136 u142 = zq := ⟨_, rfl⟩
    refine Go.ddiv X108.here hx (Jvm.hb hby at_143) (by rw [← hu136, ← hu132, ← hu128, ← hu142]; exact nb_nn m3) hu143 (q := 144) rfl ?_
    obtain ⟨u144, hu144⟩ : ∃ zq, FP.dadd u123 u143 = zq := ⟨_, rfl⟩
    refine Go.dadd X108.here hx (Jvm.hb hby at_144) (by rw [← hu123, ← hu143, ← hu136, ← hu132, ← hu128, ← hu142]; exact nb_nn m4) hu144 (q := 145) rfl ?_
    refine Go.dstore X108.here hx (Jvm.hb hby at_145) (l2 := #[.val (.int q1), .val (.int kk), .val (.double xx), .second, .val (.double r), .second, .val (.double r), .second, .val (.double qq), .second, .val (.double u71), .second, .val (.int mm), .val (.double pp), .second, .val (.double u144), .second]) rfl (q := 147) rfl ?_
    refine Go.dload X108.here hx (Jvm.hb hby at_147) rfl (q := 149) rfl ?_
    refine Go.dload X108.here hx (Jvm.hb hby at_149) rfl (q := 151) rfl ?_
    obtain ⟨u151, hu151⟩ : ∃ zq, cmpValue (FP.dcmp r u144) .g = zq := ⟨_, rfl⟩
    refine Go.dcmp X108.here hx (Jvm.hb hby at_151) hu151 (q := 152) rfl ?_
    have hc152 : ¬ ((0 : Int32) < u151) := by rw [← hu151, ← hu144, ← hu123, ← hu143, ← hu136, ← hu132, ← hu128, ← hu142]; exact m5
    refine Go.ifY X108.here hx (Jvm.hb hby at_152) ((if0 _ _).trans (flt hc152).2.2.2) (by decide) (q := 157) rfl ?_
    refine Go.iconst X108.here hx (Jvm.hb hby at_157) (v := (1 : Int32)) rfl (q := 158) rfl ?_
    refine Go.retZ X108 hx hret hlk (Jvm.hb hby at_158) (Or.inr rfl) (by decide) (by decide) ?_
    exact ⟨rfl, N108⟩
set_option maxRecDepth 65536 in
set_option maxHeartbeats 40000000 in
theorem comes_1 {Post : Tables → Env → Array Value → State → Outcome → State → Prop} (hpost : ∀ tb e args s v u, (limb_1_1.after args s (.returned v) u = true ∧ limb_1_2.after args s (.returned v) u = true ∧ True) → FrameEnd s (.returned v) u (Jvm.fieldLocs frame_1_writes args s ++ Jvm.arrayLocs frame_1_arrays args s ++ Jvm.staticLocs frame_1_statics s) 0 0 → Post tb e args s (.returned v) u) :
    ArmFor flags0 classFile x code maxLocals ret World_1 tables_1 room_1 Calls_1 rest_1 Pre_1 Post := by
  intro l hfl _ _ p e ha hc hk s m args below hf hA hF happ hP
  obtain ⟨hcalls, hrest, hpre⟩ := hP
  obtain ⟨-, -, -, hnamed, -, -, -, hat⟩ := (Spec.applies_iff hf).mp happ
  obtain ⟨hg, hn⟩ := and_e (Cond.before_iff.mp (show (Jvm.Cond.and given_1 narrow_1).before args s = true from hpre))
  obtain ⟨g0, hg⟩ := and_e hg
  obtain ⟨w0, rfl⟩ : ∃ w0 : Value, args = #[w0] := by
    have hs : args.size = 1 := by simpa [Cond.value, given_1] using g0
    obtain ⟨L⟩ := args
    match L, hs with
    | [w0], _ => exact ⟨w0, rfl⟩
  have hw := fun d (hd : d ∈ tables_1) => atoms_spec (ws := Jvm.Cond.code x code maxLocals ret :: tables_1) hat d (List.mem_cons_of_mem _ hd)
  obtain ⟨i0, e0⟩ := is_v hg
  obtain rfl : w0 = (.int i0) := Option.some.inj e0
  obtain ⟨n, o, h1, h2, h3, _, L, rfl, ⟨rfl, N⟩, hq⟩ := rm_law l s _ hw tables_1 i0  s.heap s.heap.size (Nat.le_refl _)  p e ha hc hk s m _ below hf ((Spec.applies_iff_loose hf).mp happ).1 ⟨rfl, State.Warmed39.refl s, rfl⟩ trivial
  refine ⟨n, _, h1, h2, h3, hpost _ _ _ _ _ _ ⟨Cond.after_iff.mpr rfl, Cond.after_iff.mpr (eq_i res_at (Term.int_eval (1)) rfl), trivial⟩ ⟨hq.1, hq.2.1, (hq.2.2.sift fun y hy => Or.inr (N y hy)).mono (by decide) (by decide)⟩⟩
theorem main_1_1 : Claimed_1_1 := comes_1 fun _ _ _ _ _ _ h hF => ⟨h.1, hF⟩
theorem main_1_2 : Claimed_1_2 := comes_1 fun _ _ _ _ _ _ h hF => ⟨h.2.1, hF⟩
end Jvm.Pilot.@@N@@
namespace Jvm.Pilot.@@N@@
open Jvm Jvm.ClassFile Sem Op Lib Jvm.Free Jvm.Stand Jvm.Pilot.@@N@@.Jvm.D
/-! MADE BY PROGRAM (witnessworld.py) out of the Statement's table words and the real class files: 10 classes; the members and pool entries that the words name. The judged class is class 1, her method 1. -/
namespace start1
open Jvm.ClassFile
def u (s : String) : CpInfo := .utf8 (stringToUtf16 s)
/-- a pool by its gaps: so many unusable entries, then the entry; so many at the end -/
def gap : Nat → List CpInfo → List CpInfo
  | 0, r => r
  | n + 1, r => .unusable :: gap n r
def poolList (es : List (Nat × CpInfo)) (last : Nat) : List CpInfo := es.foldr (fun e r => gap e.1 (e.2 :: r)) (gap last [])
def pool (es : List (Nat × CpInfo)) (last : Nat) : Array CpInfo := ⟨poolList es last⟩
def fileOf (pool : Array CpInfo) (this : Nat) (attrs : Array Attribute := #[]) (ms : Array MethodInfo := #[]) (fl : Nat := 33) (sup : Nat := 0) (ifs : Array Nat := #[]) (fds : Array FieldInfo := #[]) : ClassFile where
  minorVersion := 0
  majorVersion := 65
  constantPool := pool
  accessFlags := fl
  thisClass := this
  superClass := sup
  interfaces := ifs
  fields := fds
  methods := ms
  attributes := attrs
def plain (name : String) (sup : Option ClassId) : Class where
  name := name
  kind := .ordinary
  loader := none
  accessFlags := 33
  super := sup
  interfaces := #[]
  cf := none
  fields := #[]
  methods := #[]
  instanceTypes := #[]
  staticTypes := #[]
  resolved := #[]
  callSites := []
  init := .initialized
  statics := none
  mirror := none

def pool0 : Array CpInfo := pool [(5, u "<init>"), (0, u "()V"), (1, .class_ 10), (1, u "java/lang/Object")] 113

def k0m0 : Method := { name := "<init>", desc := "()V", sig := { parameters := [], returnType := none }, accessFlags := 1, code := none }
/-- java/lang/Object -/
def k0 : Class := { plain "java/lang/Object" none with
  accessFlags := 33
  interfaces := #[]
  cf := some (fileOf pool0 8 #[] #[{ accessFlags := 1, nameIndex := 5, descriptorIndex := 6, attributes := #[] }] 33 0 #[] #[])
  fields := #[]
  methods := #[k0m0]
  instanceTypes := #[]
  staticTypes := #[]
  resolved := Array.replicate 124 none
  statics := none }

def pool1 : Array CpInfo := pool [(2, .class_ 4), (1, u "java/lang/Object"), (0, u "<init>"), (0, u "()V"), (0, .double 4611686018427387904), (1, .methodref 10 11), (0, .class_ 12), (0, .nameAndType 13 14), (0, u "com/example/iridescence/iridescence/KaiserBesselKernel"), (0, u "besselI0"), (0, u "(D)D"), (0, .double 4616189618054758400), (1, .double 4630263366890291200), (1, .methodref 20 21), (0, .class_ 22), (0, .nameAndType 23 24), (0, u "java/lang/Math"), (0, u "abs"), (0, u "(I)I"), (0, .methodref 26 27), (0, .class_ 28), (0, .nameAndType 29 30), (0, u "com/example/iridescence/iridescence/KaiserBesselKernelBesselI0PinLaw"), (0, u "pow3"), (0, u "(I)D"), (0, .double 4621256167635550208), (1, .double 4613937818241073152), (3, u "law"), (0, u "(I)Z")] 3

def k1m0 : Method := { name := "<init>", desc := "()V", sig := { parameters := [], returnType := none }, accessFlags := 1, code := none }
def k1c1 : Code := { maxStack := 8, maxLocals := 17, code := code, exceptionTable := #[], attributes := #[] }
def k1m1 : Method := { name := "law", desc := "(I)Z", sig := { parameters := [.int], returnType := some .boolean }, accessFlags := 9, code := some k1c1 }
def k1c2 : Code := { maxStack := 4, maxLocals := 5, code := method_3_code, exceptionTable := #[], attributes := #[] }
def k1m2 : Method := { name := "pow3", desc := "(I)D", sig := { parameters := [.int], returnType := some .double }, accessFlags := 10, code := some k1c2 }
/-- com/example/iridescence/iridescence/KaiserBesselKernelBesselI0PinLaw -/
def k1 : Class := { plain "com/example/iridescence/iridescence/KaiserBesselKernelBesselI0PinLaw" (some 0) with
  accessFlags := 49
  interfaces := #[]
  cf := some (fileOf pool1 26 #[] #[{ accessFlags := 1, nameIndex := 5, descriptorIndex := 6, attributes := #[] }, { accessFlags := 9, nameIndex := 37, descriptorIndex := 38, attributes := #[] }, { accessFlags := 10, nameIndex := 29, descriptorIndex := 30, attributes := #[] }] 49 2 #[] #[])
  fields := #[]
  methods := #[k1m0, k1m1, k1m2]
  instanceTypes := #[]
  staticTypes := #[]
  resolved := Array.replicate 42 none
  statics := none }

def pool2 : Array CpInfo := pool [(2, .class_ 4), (1, u "com/example/iridescence/iridescence/KaiserBesselKernel"), (3, .class_ 10), (1, u "java/lang/Object"), (3, u "width"), (0, u "D"), (2, u "shape"), (2, u "table"), (0, u "[D"), (2, u "byStep"), (29, u "(D)D"), (19, u "besselI0"), (12, .double 4616189618054758400), (1, .double 4336966441157787648), (1, u "TABLE_STEPS"), (0, u "I")] 17

def k2c0 : Code := { maxStack := 8, maxLocals := 9, code := prog_34_method_11_code, exceptionTable := #[], attributes := #[] }
def k2m0 : Method := { name := "besselI0", desc := "(D)D", sig := { parameters := [.double], returnType := some .double }, accessFlags := 8, code := some k2c0 }
/-- com/example/iridescence/iridescence/KaiserBesselKernel -/
def k2 : Class := { plain "com/example/iridescence/iridescence/KaiserBesselKernel" (some 0) with
  accessFlags := 48
  interfaces := #[]
  cf := some (fileOf pool2 2 #[] #[{ accessFlags := 8, nameIndex := 75, descriptorIndex := 55, attributes := #[] }] 48 8 #[] #[{ accessFlags := 26, nameIndex := 92, descriptorIndex := 93, attributes := #[] }, { accessFlags := 18, nameIndex := 14, descriptorIndex := 15, attributes := #[] }, { accessFlags := 18, nameIndex := 18, descriptorIndex := 15, attributes := #[] }, { accessFlags := 18, nameIndex := 21, descriptorIndex := 22, attributes := #[] }, { accessFlags := 18, nameIndex := 25, descriptorIndex := 22, attributes := #[] }])
  fields := #[{ name := "TABLE_STEPS", type := .int, accessFlags := 26, slot := 0, constantValue := 0 }, { name := "width", type := .double, accessFlags := 18, slot := 0, constantValue := 0 }, { name := "shape", type := .double, accessFlags := 18, slot := 1, constantValue := 0 }, { name := "table", type := (.array .double), accessFlags := 18, slot := 2, constantValue := 0 }, { name := "byStep", type := (.array .double), accessFlags := 18, slot := 3, constantValue := 0 }]
  methods := #[k2m0]
  instanceTypes := #[.double, .double, (.array .double), (.array .double)]
  staticTypes := #[.int]
  resolved := Array.replicate 111 none
  statics := none }

def pool3 : Array CpInfo := pool [(1, .class_ 2), (0, u "java/lang/Math"), (1, .class_ 6), (1, u "java/lang/Object"), (0, u "<init>"), (0, u "()V"), (89, .class_ 100), (1, u "java/lang/Math$RandomNumberGeneratorHolder"), (23, u "abs"), (34, u "(I)I"), (12, u "negativeZeroFloatBits"), (0, u "J"), (2, u "negativeZeroDoubleBits"), (68, u "$assertionsDisabled"), (0, u "Z"), (91, u "twoToTheDoubleScaleDown"), (0, u "D"), (4, u "twoToTheDoubleScaleUp"), (9, u "E"), (3, u "PI"), (2, u "TAU"), (2, u "DEGREES_TO_RADIANS"), (0, u "RADIANS_TO_DEGREES")] 94

def k3m0 : Method := { name := "<init>", desc := "()V", sig := { parameters := [], returnType := none }, accessFlags := 2, code := none }
def k3c1 : Code := { maxStack := 1, maxLocals := 1, code := jdk_29_method_59_code, exceptionTable := #[], attributes := #[] }
def k3m1 : Method := { name := "abs", desc := "(I)I", sig := { parameters := [.int], returnType := some .int }, accessFlags := 9, code := some k3c1 }
/-- java/lang/Math -/
def k3 : Class := { plain "java/lang/Math" (some 0) with
  accessFlags := 49
  interfaces := #[]
  cf := some (fileOf pool3 1 #[.nestMembers #[98]] #[{ accessFlags := 2, nameIndex := 7, descriptorIndex := 8, attributes := #[] }, { accessFlags := 9, nameIndex := 124, descriptorIndex := 159, attributes := #[] }] 49 4 #[] #[{ accessFlags := 25, nameIndex := 354, descriptorIndex := 339, attributes := #[] }, { accessFlags := 25, nameIndex := 358, descriptorIndex := 339, attributes := #[] }, { accessFlags := 25, nameIndex := 361, descriptorIndex := 339, attributes := #[] }, { accessFlags := 26, nameIndex := 364, descriptorIndex := 339, attributes := #[] }, { accessFlags := 26, nameIndex := 365, descriptorIndex := 339, attributes := #[] }, { accessFlags := 26, nameIndex := 172, descriptorIndex := 173, attributes := #[] }, { accessFlags := 26, nameIndex := 176, descriptorIndex := 173, attributes := #[] }, { accessFlags := 8, nameIndex := 344, descriptorIndex := 339, attributes := #[] }, { accessFlags := 8, nameIndex := 338, descriptorIndex := 339, attributes := #[] }, { accessFlags := 4120, nameIndex := 245, descriptorIndex := 246, attributes := #[] }])
  fields := #[{ name := "E", type := .double, accessFlags := 25, slot := 0, constantValue := 0 }, { name := "PI", type := .double, accessFlags := 25, slot := 1, constantValue := 0 }, { name := "TAU", type := .double, accessFlags := 25, slot := 2, constantValue := 0 }, { name := "DEGREES_TO_RADIANS", type := .double, accessFlags := 26, slot := 3, constantValue := 0 }, { name := "RADIANS_TO_DEGREES", type := .double, accessFlags := 26, slot := 4, constantValue := 0 }, { name := "negativeZeroFloatBits", type := .long, accessFlags := 26, slot := 5, constantValue := 0 }, { name := "negativeZeroDoubleBits", type := .long, accessFlags := 26, slot := 6, constantValue := 0 }, { name := "twoToTheDoubleScaleUp", type := .double, accessFlags := 8, slot := 7, constantValue := 0 }, { name := "twoToTheDoubleScaleDown", type := .double, accessFlags := 8, slot := 8, constantValue := 0 }, { name := "$assertionsDisabled", type := .boolean, accessFlags := 4120, slot := 9, constantValue := 0 }]
  methods := #[k3m0, k3m1]
  instanceTypes := #[]
  staticTypes := #[.double, .double, .double, .double, .double, .long, .long, .double, .double, .boolean]
  resolved := Array.replicate 460 none
  statics := none }

def pool4 : Array CpInfo := pool [(1, u "java/lang/Cloneable"), (0, .class_ 1), (0, u "java/lang/Object"), (0, .class_ 3)] 3

/-- java/lang/Cloneable -/
def k4 : Class := { plain "java/lang/Cloneable" (some 0) with
  accessFlags := 1537
  interfaces := #[]
  cf := some (fileOf pool4 2 #[] #[] 1537 4 #[] #[])
  fields := #[]
  methods := #[]
  instanceTypes := #[]
  staticTypes := #[]
  resolved := Array.replicate 8 none
  statics := none }

def pool5 : Array CpInfo := pool [(1, u "java/io/Serializable"), (0, .class_ 1), (0, u "java/lang/Object"), (0, .class_ 3)] 3

/-- java/io/Serializable -/
def k5 : Class := { plain "java/io/Serializable" (some 0) with
  accessFlags := 1537
  interfaces := #[]
  cf := some (fileOf pool5 2 #[] #[] 1537 4 #[] #[])
  fields := #[]
  methods := #[]
  instanceTypes := #[]
  staticTypes := #[]
  resolved := Array.replicate 8 none
  statics := none }

/-- the primitive byte -/
def k6 : Class := { plain "byte" none with kind := .primitive 'B', accessFlags := 0x411 }
/-- [B -/
def k7 : Class := { plain "[B" (some 0) with kind := .array 6 .byte, interfaces := #[4, 5], accessFlags := 1041 }

/-- the primitive int -/
def k8 : Class := { plain "int" none with kind := .primitive 'I', accessFlags := 0x411 }
/-- [I -/
def k9 : Class := { plain "[I" (some 0) with kind := .array 8 .int, interfaces := #[4, 5], accessFlags := 1041 }

def heap : Heap := #[]
def classes : Array Class := #[k0, k1, k2, k3, k4, k5, k6, k7, k8, k9]
def interned : List (Array UInt16 × Addr) := []
def slotsUsed : Nat := 0
def theMethod : MethodId := ⟨1, 1⟩
def args0 : Array Value := #[.int 5]
def aboutOver (below : List Frame) : State where
  vm := { classes := classes, interned := interned.toArray }
  heap := heap
  slotsUsed := slotsUsed
  threads := #[{ frames := .invoking theMethod args0 :: below }]
def below0 : List Frame := [.native { method := ⟨0, 0⟩, args := #[] }]
def about1 : State := aboutOver below0
def p0 : Program := .bare "" "" ""
def e0 : Env := launch0.env 0 0 0
theorem w_frames : about1.frames = Frame.invoking theMethod args0 :: below0 := rfl
set_option maxRecDepth 65536 in
theorem w_args : argsFit about1.vm theMethod args0 = true := by decide +kernel
set_option maxRecDepth 65536 in
theorem w_heap : heapFits about1 = true := by decide +kernel
set_option maxRecDepth 65536 in
theorem w_runnable : about1.curStatus? = some .runnable := by decide +kernel
set_option maxRecDepth 65536 in
theorem w_alone : about1.alone = true := by decide +kernel
set_option maxRecDepth 65536 in
theorem w_named : about1.methodNamed? x = some theMethod := by decide +kernel
set_option maxRecDepth 65536 in
theorem w_hears : about1.hears theMethod below0 = true := by decide +kernel
set_option maxRecDepth 65536 in
theorem w_ripe : about1.ripe theMethod args0 below0 = true := by decide +kernel
theorem w_running : about1.status = .running := rfl
set_option maxRecDepth 65536 in
theorem w_room : about1.hasRoom e0.platform room_1 = true :=
  launch0.hasRoom_least _ room_1 (by decide +kernel) (by decide +kernel) (by decide +kernel) (by decide +kernel) (by decide +kernel) (by decide +kernel)
theorem allAtoms_all (ts : List Jvm.Cond) (a : Array Jvm.Value) (st : Jvm.State) : (allAtoms ts).before a st = ts.all (fun c => c.before a st) := by
  induction ts with
  | nil => rfl
  | cons c t ih =>
    show (Jvm.Cond.and c (allAtoms t)).before a st = _
    rw [Jvm.Cond.before_and, ih, List.all_cons]
def words1 : List Jvm.Cond := Jvm.Cond.code x code maxLocals ret :: tables_1
/-- a 'code' word, met by the world's own term for the bytes: nothing is compared byte by byte -/
theorem code_word {y : MethodName} {bytes : ByteArray} {mx : Nat} {rt : Option FieldType} {a : Array Value} {s : State} {m : MethodId} {meth : Method} {c : Code} (h1 : s.methodNamed? y = some m) (h2 : s.vm.method? m = some meth) (h3 : meth.code = some c) (h4 : c.code = bytes)
    (h5 : (c.maxLocals == mx && c.exceptionTable.isEmpty && decide (c.maxStack ≤ mostOperands) && decide (meth.sig.returnType = rt) && !meth.locks && decide (parseMethodDescriptor y.desc = some meth.sig)) = true) : (Jvm.Cond.code y bytes mx rt).before a s = true := by
  simp only [Bool.and_eq_true, beq_iff_eq, Bool.not_eq_true', decide_eq_true_eq] at h5
  obtain ⟨⟨⟨⟨⟨g1, g2⟩, g3⟩, g4⟩, g5⟩, g6⟩ := h5
  simp [Cond.before, Cond.holds, Cond.value, h1, h2, h3, h4, g1, g2, g3, g4, g5, g6]
def isCode : Jvm.Cond → Bool
  | .code _ _ _ _ => true
  | _ => false
theorem all_split {L : List Jvm.Cond} {P : Jvm.Cond → Bool} (h1 : L.all (fun c => isCode c || P c) = true) (h2 : ∀ c ∈ L.filter isCode, P c = true) : L.all P = true := by
  refine List.all_eq_true.mpr fun c hc => ?_
  have h := List.all_eq_true.mp h1 c hc
  rcases Bool.eq_false_or_eq_true (isCode c) with hi | hi
  · exact h2 c (List.mem_filter.mpr ⟨hc, hi⟩)
  · simpa [hi] using h
set_option maxRecDepth 65536 in
theorem w_c0 : (Jvm.Cond.code x code maxLocals ret).before args0 about1 = true := code_word (m := ⟨1, 1⟩) (meth := k1m1) (c := k1c1) (by decide +kernel) rfl rfl rfl (by decide +kernel)
set_option maxRecDepth 65536 in
theorem w_c1 : (Jvm.Cond.code ({ cls := "com/example/iridescence/iridescence/KaiserBesselKernel", name := "besselI0", desc := "(D)D" } : Jvm.MethodName) prog_34_method_11_code (9 : Nat) (Option.some Jvm.ClassFile.FieldType.double)).before args0 about1 = true := code_word (m := ⟨2, 0⟩) (meth := k2m0) (c := k2c0) (by decide +kernel) rfl rfl rfl (by decide +kernel)
set_option maxRecDepth 65536 in
theorem w_c2 : (Jvm.Cond.code ({ cls := "java/lang/Math", name := "abs", desc := "(I)I" } : Jvm.MethodName) jdk_29_method_59_code (1 : Nat) (Option.some Jvm.ClassFile.FieldType.int)).before args0 about1 = true := code_word (m := ⟨3, 1⟩) (meth := k3m1) (c := k3c1) (by decide +kernel) rfl rfl rfl (by decide +kernel)
set_option maxRecDepth 65536 in
theorem w_c3 : (Jvm.Cond.code ({ cls := "com/example/iridescence/iridescence/KaiserBesselKernelBesselI0PinLaw", name := "pow3", desc := "(I)D" } : Jvm.MethodName) method_3_code (5 : Nat) (Option.some Jvm.ClassFile.FieldType.double)).before args0 about1 = true := code_word (m := ⟨1, 2⟩) (meth := k1m2) (c := k1c2) (by decide +kernel) rfl rfl rfl (by decide +kernel)
def codes1 : List Jvm.Cond := [Jvm.Cond.code x code maxLocals ret, Jvm.Cond.code ({ cls := "com/example/iridescence/iridescence/KaiserBesselKernel", name := "besselI0", desc := "(D)D" } : Jvm.MethodName) prog_34_method_11_code (9 : Nat) (Option.some Jvm.ClassFile.FieldType.double), Jvm.Cond.code ({ cls := "java/lang/Math", name := "abs", desc := "(I)I" } : Jvm.MethodName) jdk_29_method_59_code (1 : Nat) (Option.some Jvm.ClassFile.FieldType.int), Jvm.Cond.code ({ cls := "com/example/iridescence/iridescence/KaiserBesselKernelBesselI0PinLaw", name := "pow3", desc := "(I)D" } : Jvm.MethodName) method_3_code (5 : Nat) (Option.some Jvm.ClassFile.FieldType.double)]
set_option maxRecDepth 65536 in
theorem codes_eq : words1.filter isCode = codes1 := rfl
theorem w_codes : ∀ c ∈ words1.filter isCode, c.before args0 about1 = true := by
  rw [codes_eq]
  intro c hc
  simp only [codes1, List.mem_cons, List.not_mem_nil, or_false] at hc
  rcases hc with rfl | rfl | rfl | rfl
  · exact w_c0
  · exact w_c1
  · exact w_c2
  · exact w_c3
set_option maxRecDepth 65536 in
theorem w_t1 : words1.all (fun c => isCode c || c.before args0 about1) = true := by decide +kernel
theorem w_tables : (allAtoms (Jvm.Cond.code x code maxLocals ret :: tables_1)).before args0 about1 = true := by
  rw [allAtoms_all]
  show words1.all (fun c => c.before args0 about1) = true
  refine all_split ?_ w_codes
  rw [w_t1]
set_option maxRecDepth 65536 in
theorem w_case : (Jvm.Cond.and given_1 narrow_1).before args0 about1 = true := by decide +kernel
theorem w_applies : (headSpec (Jvm.Cond.code x code maxLocals ret :: tables_1) room_1).applies x e0.platform about1 = true :=
  (Spec.applies_iff w_frames).mpr ⟨w_running, w_runnable, w_alone, w_named, w_hears, w_ripe, w_room, w_tables⟩
theorem atStart : AtStart classFile x code maxLocals ret World_1 tables_1 room_1 Calls_1 rest_1 Pre_1 launch0 p0 e0 about1 theMethod args0 below0 :=
  ⟨lists_1, trivial, launch0.admits_env _ _ _, launch0.least_env, fairChoices_fair.cas, fairChoices_fair.clock, w_frames, w_args, w_heap, w_applies, trivial, trivial, w_case⟩
end start1
theorem witness_1 : WitnessClaimed_1 := ⟨start1.p0, start1.e0, start1.about1, start1.theMethod, start1.args0, start1.below0, start1.atStart⟩
end Jvm.Pilot.@@N@@
