import JvmDerived
import JvmDerived.Pilot.@@N@@Statement
import JvmDerived.Pilot.@@N@@Code
set_option linter.unusedVariables false
set_option linter.unusedSimpArgs false
namespace Jvm.Pilot.@@N@@
open Jvm Jvm.ClassFile Sem Op Lib Jvm.Free Jvm.Stand Jvm.LawKit Jvm.RoadKit Bundle Jvm.Pilot.@@N@@.Jvm.D
/-! own layer 1: doubles as whole numbers of least units (2 to the -1074) -/
section OwnFp
open Jvm.FP Jvm.FP.Core Jvm.Free.Fl
/-- a power of two -/
def P2 (j : Nat) : Int := ((2 ^ j : Nat) : Int)
theorem P2_pos (j : Nat) : 0 < P2 j := Int.natCast_pos.mpr (Nat.two_pow_pos j)
theorem P2_add (i j : Nat) : P2 (i + j) = P2 i * P2 j := by unfold P2; rw [Nat.pow_add, Int.natCast_mul]
theorem P2_one64 : (one64 : Int) = P2 1074 := rfl
/-- the value of a double in least units -/
def Zv (a : UInt64) : Int := zval b64 (val64 a)
/-- some finite double has this value -/
def Rep (V : Int) : Prop := ∃ x : UInt64, DFin x ∧ Zv x = V
theorem own_qmax : b64.qmax = 971 := by decide
theorem own_signed_abs (c : Int) : signed (decide (c < 0)) c.natAbs = c := by
  unfold signed
  by_cases q : c < 0
  · simp [q]; omega
  · simp [q]; omega
theorem rep_core (s : Bool) {c j : Nat} (hc : c < 2 ^ 53) (hj : j ≤ 2045) : ∃ x : UInt64, DFin x ∧ Zv x = signed s (c * 2 ^ j) := by
  obtain ⟨c', q', h1, h2⟩ := round_exact (f := b64) good_b64 s (c := c) (q := (j : Int) - 1074) hc (by rw [qmin_b64]; omega) (by rw [own_qmax]; omega)
  refine ⟨of64 (round b64 (.fin s c ((j : Int) - 1074))), ⟨s, c', q', ?_⟩, ?_⟩
  · rw [val64_of64 (round_fits good_b64 _), h1]
  · unfold Zv
    rw [val64_of64 (round_fits good_b64 _), h1]
    show signed s (inUnits c' q' b64.qmin) = _
    rw [h2]
    unfold inUnits
    rw [show ((j : Int) - 1074 - b64.qmin).toNat = j by rw [qmin_b64]; omega]
theorem rep_mk (c : Int) (j : Nat) (hc : c.natAbs ≤ 2 ^ 53) (hj : j ≤ 2044) : Rep (c * P2 j) := by
  by_cases h : c.natAbs < 2 ^ 53
  · obtain ⟨x, h1, h2⟩ := rep_core (decide (c < 0)) h (j := j) (by omega)
    refine ⟨x, h1, h2.trans ?_⟩
    rw [signed_mul, own_signed_abs]; rfl
  · have h' : c.natAbs = 2 ^ 53 := by omega
    obtain ⟨x, h1, h2⟩ := rep_core (decide (c < 0)) (c := 2 ^ 52) (by decide) (j := j + 1) (by omega)
    refine ⟨x, h1, h2.trans ?_⟩
    have e : 2 ^ 52 * 2 ^ (j + 1) = c.natAbs * 2 ^ j := by
      rw [h', Nat.pow_add 2 j 1]
      generalize 2 ^ j = t
      omega
    rw [e, signed_mul, own_signed_abs]; rfl
theorem rep_of {V : Int} (c : Int) (j : Nat) (hc : c.natAbs ≤ 2 ^ 53) (hj : j ≤ 2044) (h : V = c * P2 j) : Rep V := h ▸ rep_mk c j hc hj
theorem rep_int (n : Int) (h : n.natAbs ≤ 2 ^ 53) : Rep (n * P2 1074) := rep_mk n 1074 h (by decide)
theorem rep_zero : Rep 0 := rep_of 0 0 (by decide) (by decide) (by simp)
theorem rep_self {x : UInt64} (h : DFin x) : Rep (Zv x) := ⟨x, h, rfl⟩
theorem rep_neg {V : Int} (h : Rep V) : Rep (-V) := by
  obtain ⟨x, hx, rfl⟩ := h
  obtain ⟨s, c, q, hv⟩ := hx
  refine ⟨Core.dneg x, ⟨!s, c, q, ?_⟩, ?_⟩
  · rw [Core.val64_dneg, hv]; rfl
  · unfold Zv; rw [Core.val64_dneg, zval_negate]
/-- between two finite values: finite -/
theorem fin_between {x : UInt64} (hn : val64 x ≠ .nan) {L H : Int} (hL : Rep L) (hH : Rep H) (h1 : L ≤ Zv x) (h2 : Zv x ≤ H) : DFin x := by
  cases hv : val64 x with
  | nan => exact absurd hv hn
  | fin s c q => exact ⟨s, c, q, hv⟩
  | inf s =>
    exfalso
    obtain ⟨y, hy, rfl⟩ := hL
    obtain ⟨z, hz, rfl⟩ := hH
    have a1 := hy.zval_lt
    have a2 := hz.zval_lt
    have e : Zv x = signed s (b64.tails * 2 ^ (b64.exps - 2)) := by unfold Zv; rw [hv]; rfl
    have b1 : signed (sgn (val64 y)) (zmag b64 (val64 y)) ≤ signed s (b64.tails * 2 ^ (b64.exps - 2)) := e ▸ h1
    have b2 : signed s (b64.tails * 2 ^ (b64.exps - 2)) ≤ signed (sgn (val64 z)) (zmag b64 (val64 z)) := e ▸ h2
    generalize b64.tails * 2 ^ (b64.exps - 2) = top at *
    generalize zmag b64 (val64 y) = my at *
    generalize zmag b64 (val64 z) = mz at *
    generalize sgn (val64 y) = sy at *
    generalize sgn (val64 z) = sz at *
    cases s <;> cases sy <;> cases sz <;> simp only [signed, if_true, Bool.false_eq_true, if_false] at b1 b2 <;> omega
theorem not_nan {x : UInt64} (h : Core.dIsNaN x = false) : val64 x ≠ .nan := (notNaN_iff x).mp h
theorem nn_of {x : UInt64} (h : DFin x) : NoNaN64 x := (fin64_core.mpr h).noNaN
/-! sums -/
theorem add_le {a b : UInt64} (ha : DFin a) (hb : DFin b) {V : Int} (hV : Rep V) (h : Zv a + Zv b ≤ V) : Zv (FP.dadd a b) ≤ V := by
  obtain ⟨x, hx, rfl⟩ := hV
  unfold Zv at h ⊢
  rw [val64_dadd]
  exact sum_le good_b64 ha hb (val64_fits a) (val64_fits b) (val64_fits x) hx.ne_nan h
theorem add_ge {a b : UInt64} (ha : DFin a) (hb : DFin b) {V : Int} (hV : Rep V) (h : V ≤ Zv a + Zv b) : V ≤ Zv (FP.dadd a b) := by
  obtain ⟨x, hx, rfl⟩ := hV
  unfold Zv at h ⊢
  rw [val64_dadd]
  exact sum_ge good_b64 ha hb (val64_fits a) (val64_fits b) (val64_fits x) hx.ne_nan h
theorem add_in {a b : UInt64} (ha : DFin a) (hb : DFin b) {L H : Int} (hL : Rep L) (hH : Rep H) (h1 : L ≤ Zv a + Zv b) (h2 : Zv a + Zv b ≤ H) : DFin (FP.dadd a b) ∧ L ≤ Zv (FP.dadd a b) ∧ Zv (FP.dadd a b) ≤ H :=
  ⟨fin_between (not_nan (Core.dadd_out ha.notNaN hb)) hL hH (add_ge ha hb hL h1) (add_le ha hb hH h2), add_ge ha hb hL h1, add_le ha hb hH h2⟩
theorem add_eq {a b : UInt64} (ha : DFin a) (hb : DFin b) {V : Int} (hV : Rep V) (h : Zv a + Zv b = V) : DFin (FP.dadd a b) ∧ Zv (FP.dadd a b) = V := by
  obtain ⟨h1, h2, h3⟩ := add_in ha hb hV hV (Int.le_of_eq h.symm) (Int.le_of_eq h)
  exact ⟨h1, Int.le_antisymm h3 h2⟩
/-! signs -/
theorem neg_eq {a : UInt64} (ha : DFin a) : DFin (FP.dneg a) ∧ Zv (FP.dneg a) = -Zv a := by
  obtain ⟨s, c, q, hv⟩ := ha
  constructor
  · exact ⟨!s, c, q, by rw [FP.val64_dneg, hv]; rfl⟩
  · unfold Zv; rw [FP.val64_dneg, zval_negate]
theorem cneg_eq {a : UInt64} (ha : DFin a) : DFin (Core.dneg a) ∧ Zv (Core.dneg a) = -Zv a := by
  obtain ⟨s, c, q, hv⟩ := ha
  constructor
  · exact ⟨!s, c, q, by rw [Core.val64_dneg, hv]; rfl⟩
  · unfold Zv; rw [Core.val64_dneg, zval_negate]
/-! differences -/
theorem sub_in {a b : UInt64} (ha : DFin a) (hb : DFin b) {L H : Int} (hL : Rep L) (hH : Rep H) (h1 : L ≤ Zv a - Zv b) (h2 : Zv a - Zv b ≤ H) : DFin (FP.dsub a b) ∧ L ≤ Zv (FP.dsub a b) ∧ Zv (FP.dsub a b) ≤ H := by
  obtain ⟨n1, n2⟩ := cneg_eq hb
  have e : FP.dsub a b = FP.dadd a (Core.dneg b) := Core.dsub_eq a b
  rw [e]
  exact add_in ha n1 hL hH (by rw [n2]; omega) (by rw [n2]; omega)
theorem sub_eq {a b : UInt64} (ha : DFin a) (hb : DFin b) {V : Int} (hV : Rep V) (h : Zv a - Zv b = V) : DFin (FP.dsub a b) ∧ Zv (FP.dsub a b) = V := by
  obtain ⟨h1, h2, h3⟩ := sub_in ha hb hV hV (Int.le_of_eq h.symm) (Int.le_of_eq h)
  exact ⟨h1, Int.le_antisymm h3 h2⟩
/-! products -/
theorem own_q2 : (b64.qmin - 2 * b64.qmin).toNat = 1074 := by rw [qmin_b64]; decide
theorem mul_le {a b : UInt64} (ha : DFin a) (hb : DFin b) {V : Int} (hV : Rep V) (h : Zv a * Zv b ≤ V * P2 1074) : Zv (FP.dmul a b) ≤ V := by
  obtain ⟨x, hx, rfl⟩ := hV
  obtain ⟨s, c, q, hva⟩ := ha
  obtain ⟨t, d, r, hvb⟩ := hb
  have fa := val64_fits a
  have fb := val64_fits b
  unfold Zv at h ⊢
  rw [hva] at fa h
  rw [hvb] at fb h
  obtain ⟨p1, p2, p3⟩ := product_units fa fb
  rw [val64_dmul, hva, hvb, p1]
  refine zval_round_le good_b64 (val64_fits x) hx.ne_nan (e0 := 2 * b64.qmin) (by rw [qmin_b64]; decide) p2 ?_
  rw [p3, signed_xor, own_q2]
  exact h
theorem mul_ge {a b : UInt64} (ha : DFin a) (hb : DFin b) {V : Int} (hV : Rep V) (h : V * P2 1074 ≤ Zv a * Zv b) : V ≤ Zv (FP.dmul a b) := by
  obtain ⟨x, hx, rfl⟩ := hV
  obtain ⟨s, c, q, hva⟩ := ha
  obtain ⟨t, d, r, hvb⟩ := hb
  have fa := val64_fits a
  have fb := val64_fits b
  unfold Zv at h ⊢
  rw [hva] at fa h
  rw [hvb] at fb h
  obtain ⟨p1, p2, p3⟩ := product_units fa fb
  rw [val64_dmul, hva, hvb, p1]
  refine zval_round_ge good_b64 (val64_fits x) hx.ne_nan (e0 := 2 * b64.qmin) (by rw [qmin_b64]; decide) p2 ?_
  rw [p3, signed_xor, own_q2]
  exact h
theorem mul_in {a b : UInt64} (ha : DFin a) (hb : DFin b) {L H : Int} (hL : Rep L) (hH : Rep H) (h1 : L * P2 1074 ≤ Zv a * Zv b) (h2 : Zv a * Zv b ≤ H * P2 1074) : DFin (FP.dmul a b) ∧ L ≤ Zv (FP.dmul a b) ∧ Zv (FP.dmul a b) ≤ H :=
  ⟨fin_between (not_nan (Core.dmul_out ha hb)) hL hH (mul_ge ha hb hL h1) (mul_le ha hb hH h2), mul_ge ha hb hL h1, mul_le ha hb hH h2⟩
theorem mul_eq {a b : UInt64} (ha : DFin a) (hb : DFin b) {V : Int} (hV : Rep V) (h : Zv a * Zv b = V * P2 1074) : DFin (FP.dmul a b) ∧ Zv (FP.dmul a b) = V := by
  obtain ⟨h1, h2, h3⟩ := mul_in ha hb hV hV (Int.le_of_eq h.symm) (Int.le_of_eq h)
  exact ⟨h1, Int.le_antisymm h3 h2⟩
/-! quotients by a positive number -/
theorem own_sgn_le {s t : Bool} {A V B r : Nat} (hB : 0 < B) (hle : A ≤ V * B → r ≤ V) (hge : V * B ≤ A → V ≤ r) (h : signed s A ≤ signed t V * (B : Int)) : signed s r ≤ signed t V := by
  rw [← signed_mul] at h
  have hz : V * B = 0 → V = 0 := fun q => by rcases Nat.mul_eq_zero.mp q with q | q <;> omega
  generalize V * B = vb at *
  cases s <;> cases t <;> simp only [signed, if_true, Bool.false_eq_true, if_false] at h ⊢
  · have := hle (by omega); omega
  · have := hle (by omega); have := hz (by omega); omega
  · omega
  · have := hge (by omega); omega
theorem own_sgn_ge {s t : Bool} {A V B r : Nat} (hB : 0 < B) (hle : A ≤ V * B → r ≤ V) (hge : V * B ≤ A → V ≤ r) (h : signed t V * (B : Int) ≤ signed s A) : signed t V ≤ signed s r := by
  rw [← signed_mul] at h
  have hz : V * B = 0 → V = 0 := fun q => by rcases Nat.mul_eq_zero.mp q with q | q <;> omega
  generalize V * B = vb at *
  cases s <;> cases t <;> simp only [signed, if_true, Bool.false_eq_true, if_false] at h ⊢
  · have := hge (by omega); omega
  · omega
  · have := hle (by omega); have := hz (by omega); omega
  · have := hle (by omega); omega
theorem div_core {a b : UInt64} (ha : DFin a) (hb : DFin b) (hp : 0 < Zv b) (x : UInt64) (hx : DFin x) :
    ∃ (s : Bool) (A B : Nat), (B : Int) = Zv b ∧ signed s A = Zv a * P2 1074 ∧ 0 < B ∧ ∃ r, Zv (FP.ddiv a b) = signed s r ∧ (A ≤ zmag b64 (val64 x) * B → r ≤ zmag b64 (val64 x)) ∧ (zmag b64 (val64 x) * B ≤ A → zmag b64 (val64 x) ≤ r) := by
  obtain ⟨s, c, q, hva⟩ := ha
  obtain ⟨t, d, r, hvb⟩ := hb
  have fa := val64_fits a
  have fb := val64_fits b
  rw [hva] at fa
  rw [hvb] at fb
  have f1 := fa.2.1
  have f2 := fb.2.1
  have zb : Zv b = signed t (inUnits d r b64.qmin) := by unfold Zv; rw [hvb]; rfl
  have hd : 0 < d := by
    rcases Nat.eq_zero_or_pos d with q0 | q0
    · rw [zb, q0] at hp
      have : inUnits 0 r b64.qmin = 0 := Nat.zero_mul _
      rw [this, signed_zero] at hp; omega
    · exact q0
  have ht : t = false := by
    cases t with
    | false => rfl
    | true => rw [zb] at hp; simp only [signed, if_true] at hp; omega
  subst ht
  have hB : 0 < inUnits d r b64.qmin := Nat.mul_pos hd (Nat.two_pow_pos _)
  have e1 : inUnits c (q - r) (2 * b64.qmin - r) = inUnits c q b64.qmin * 2 ^ 1074 := by
    unfold inUnits
    rw [Nat.mul_assoc, ← Nat.pow_add]
    rw [qmin_b64] at *
    congr 2; omega
  have e2 : 2 ^ (b64.qmin - (2 * b64.qmin - r)).toNat * d = inUnits d r b64.qmin := by
    unfold inUnits
    rw [Nat.mul_comm]; congr 2; omega
  have hv : val64 (FP.ddiv a b) = roundRatio b64 s c d (q - r) := by
    rw [val64_ddiv, hva, hvb]
    show (if d = 0 then _ else roundRatio b64 (s != false) c d (q - r)) = _
    rw [if_neg (by omega)]
    cases s <;> rfl
  refine ⟨s, inUnits c q b64.qmin * 2 ^ 1074, inUnits d r b64.qmin, ?_, ?_, hB, zmag b64 (roundRatio b64 s c d (q - r)), ?_, ?_, ?_⟩
  · rw [zb]; simp only [signed, Bool.false_eq_true, if_false]
  · unfold Zv; rw [signed_mul, hva]; rfl
  · unfold Zv; rw [hv]; show signed (sgn _) _ = _; rw [sgn_roundRatio]
  · intro h
    refine zmag_roundRatio_le good_b64 hd (val64_fits x) hx.ne_nan (e0 := 2 * b64.qmin - r) (by have := qmin_b64; omega) (by have := qmin_b64; omega) ?_
    rw [e1, Nat.mul_assoc, e2]; exact h
  · intro h
    refine zmag_roundRatio_ge good_b64 hd (val64_fits x) (e0 := 2 * b64.qmin - r) (by have := qmin_b64; omega) (by have := qmin_b64; omega) ?_
    rw [e1, Nat.mul_assoc, e2]; exact h
theorem div_le {a b : UInt64} (ha : DFin a) (hb : DFin b) (hp : 0 < Zv b) {V : Int} (hV : Rep V) (h : Zv a * P2 1074 ≤ V * Zv b) : Zv (FP.ddiv a b) ≤ V := by
  obtain ⟨x, hx, rfl⟩ := hV
  obtain ⟨s, A, B, h1, h2, h3, r, h4, h5, h6⟩ := div_core ha hb hp x hx
  rw [h4]
  rw [← h2, ← h1] at h
  exact own_sgn_le h3 h5 h6 h
theorem div_ge {a b : UInt64} (ha : DFin a) (hb : DFin b) (hp : 0 < Zv b) {V : Int} (hV : Rep V) (h : V * Zv b ≤ Zv a * P2 1074) : V ≤ Zv (FP.ddiv a b) := by
  obtain ⟨x, hx, rfl⟩ := hV
  obtain ⟨s, A, B, h1, h2, h3, r, h4, h5, h6⟩ := div_core ha hb hp x hx
  rw [h4]
  rw [← h2, ← h1] at h
  exact own_sgn_ge h3 h5 h6 h
theorem pos_nz {b : UInt64} (hp : 0 < Zv b) : ¬ DZero b := fun q => by
  have := q.zval
  unfold Zv at hp
  omega
theorem div_in {a b : UInt64} (ha : DFin a) (hb : DFin b) (hp : 0 < Zv b) {L H : Int} (hL : Rep L) (hH : Rep H) (h1 : L * Zv b ≤ Zv a * P2 1074) (h2 : Zv a * P2 1074 ≤ H * Zv b) : DFin (FP.ddiv a b) ∧ L ≤ Zv (FP.ddiv a b) ∧ Zv (FP.ddiv a b) ≤ H :=
  ⟨fin_between (not_nan (Core.ddiv_out ha.notNaN hb (pos_nz hp))) hL hH (div_ge ha hb hp hL h1) (div_le ha hb hp hH h2), div_ge ha hb hp hL h1, div_le ha hb hp hH h2⟩
theorem div_eq {a b : UInt64} (ha : DFin a) (hb : DFin b) (hp : 0 < Zv b) {V : Int} (hV : Rep V) (h : Zv a * P2 1074 = V * Zv b) : DFin (FP.ddiv a b) ∧ Zv (FP.ddiv a b) = V := by
  obtain ⟨h1, h2, h3⟩ := div_in ha hb hp hV hV (Int.le_of_eq h.symm) (Int.le_of_eq h)
  exact ⟨h1, Int.le_antisymm h3 h2⟩
/-! whole numbers -/
theorem l2d_in {n : Int64} {L H : Int} (hL : Rep L) (hH : Rep H) (h1 : L ≤ n.toInt * P2 1074) (h2 : n.toInt * P2 1074 ≤ H) : L ≤ Zv (FP.l2d n) ∧ Zv (FP.l2d n) ≤ H := by
  obtain ⟨x, hx, rfl⟩ := hL
  obtain ⟨y, hy, rfl⟩ := hH
  exact ⟨l2d_zval_ge hx.ne_nan h1, l2d_zval_le hy.ne_nan h2⟩
theorem l2d_dfin (n : Int64) : DFin (FP.l2d n) := Core.l2d_fin n
theorem i2d_dfin (n : Int32) : DFin (FP.i2d n) := Core.i2d_fin n
theorem l2d_rep {n : Int64} (h : Rep (n.toInt * P2 1074)) : Zv (FP.l2d n) = n.toInt * P2 1074 := by
  obtain ⟨h1, h2⟩ := l2d_in h h (Int.le_refl _) (Int.le_refl _)
  exact Int.le_antisymm h2 h1
theorem l2d_eq {n : Int64} (h : n.toInt.natAbs ≤ 2 ^ 53) : Zv (FP.l2d n) = n.toInt * P2 1074 := l2d_rep (rep_int _ h)
theorem i2d_eq (n : Int32) : Zv (FP.i2d n) = n.toInt * P2 1074 := by
  rw [i2d_w, l2d_eq (by rw [Int32.toInt_toInt64]; have := int32_abs n; omega), Int32.toInt_toInt64]
theorem d2l_eq {a : UInt64} (ha : DFin a) {n : Int} (h : Zv a = n * P2 1074) (h1 : -9223372036854775808 ≤ n) (h2 : n < 9223372036854775808) : (FP.d2l a).toInt = n := by
  have e := d2l_val ha.ne_nan
  have z : signed (sgn (val64 a)) (zmag b64 (val64 a)) = n * (one64 : Int) := h
  have hp := one64_pos
  have hm : zmag b64 (val64 a) = n.natAbs * one64 := by
    have q := congrArg Int.natAbs z
    rw [natAbs_signed, Int.natAbs_mul] at q
    exact q
  have hs : signed (sgn (val64 a)) n.natAbs = n := by
    rw [hm, signed_mul] at z
    exact Int.eq_of_mul_eq_mul_right (by omega) z
  rw [hm, Nat.mul_div_cancel _ hp, hs] at e
  show (Core.d2l a).toInt = n
  rw [e]; omega
/-! comparisons -/
theorem cmp_lt {a b : UInt64} (ha : DFin a) (hb : DFin b) (o : CmpOp) (h : Zv a < Zv b) : cmpValue (FP.dcmp a b) o = -1 := by
  rw [show FP.dcmp a b = some .lt from dcmp_lt.mpr ⟨ha.ne_nan, hb.ne_nan, h⟩]; rfl
theorem cmp_eq {a b : UInt64} (ha : DFin a) (hb : DFin b) (o : CmpOp) (h : Zv a = Zv b) : cmpValue (FP.dcmp a b) o = 0 := by
  rw [show FP.dcmp a b = some .eq from dcmp_eq.mpr ⟨ha.ne_nan, hb.ne_nan, h⟩]; rfl
theorem cmp_gt {a b : UInt64} (ha : DFin a) (hb : DFin b) (o : CmpOp) (h : Zv b < Zv a) : cmpValue (FP.dcmp a b) o = 1 := by
  rw [show FP.dcmp a b = some .gt from dcmp_gt.mpr ⟨ha.ne_nan, hb.ne_nan, h⟩]; rfl
/-! constants -/
theorem zero_fin : DFin 0 := (fin_bits _).mpr (by decide)
theorem zero_z : Zv 0 = 0 := zval64_zero
theorem one_fin : DFin 4607182418800017408 := (fin_bits _).mpr (by decide)
theorem one_z : Zv 4607182418800017408 = 1 * P2 1074 := by unfold Zv P2; decide +kernel
end OwnFp

/-! own layer 2: walking forward -/
section OwnGo
open Jvm.Free.Fl
variable {p : Program} {l : Launch} {e : Env} {R : Room} {s : State} {m : MethodId} {args : Array Value} {below : List Frame} {meth : Method} {c : Code} {T : State} {locs : List Loc} {cells slots : Nat} {Q : Outcome → State → Prop}
/-- from here the run comes to an end that Q allows -/
def Go (p : Program) (e : Env) (below : List Frame) (Q : Outcome → State → Prop) (S : State) : Prop :=
  ∃ s₂ o, Steps p.tables e below S s₂ ∧ s₂.status = .running ∧ Ended s₂ below o ∧ Q o s₂
theorem Go.of {S S' : State} (h : ∀ t, Steps p.tables e below S' t → Steps p.tables e below S t) (g : Go p e below Q S') : Go p e below Q S := by
  obtain ⟨s₂, o, h1, h2⟩ := g
  exact ⟨s₂, o, h _ h1, h2⟩
theorem Go.tr {S S' : State} (h : Steps p.tables e below S S') (g : Go p e below Q S') : Go p e below Q S := Go.of (fun _ k => h.trans k) g
abbrev Ret (s : State) (Qv : Option Value → Heap → List Loc → Prop) (kc ks : Nat) : Outcome → State → Prop := fun o U' => ∃ v L, o = .returned v ∧ Qv v U'.heap L ∧ FrameEnd s o U' L kc ks
theorem Go.done (X : Stand p l e R s m args below meth c T locs cells slots) {g : JFrame} {v : Option Value} (hv : meth.sig.returnType = none → v = none) (hlocks : meth.locks = false)
    (hst : ∀ fs, (∀ (f : JFrame) (acts : List Action), f.method = m → f.locked = none → f.entered = [] → (doReturn e (T.setTop f) acts v).1 = T.setFrames fs) → Steps p.tables e below (T.setTop g) (T.setFrames fs))
    {Qv : Option Value → Heap → List Loc → Prop} {kc ks : Nat} (hc : cells ≤ kc) (hk : slots ≤ ks) (hq : Qv v T.heap locs) : Go p e below (Ret s Qv kc ks) (T.setTop g) := by
  obtain ⟨fs, hr, hrun, hended, hW, hsame⟩ := X.leave (v := v) hv hlocks
  exact ⟨_, _, hst fs hr, hrun, hended, v, locs, rfl, hq, ⟨_, rfl⟩, hW, hsame.mono hc hk⟩
theorem Go.retV (X : Stand p l e R s m args below meth c T locs cells slots) (hx : p.tables.exec = Jvm.exec) {pc : Nat} {Ls : Array Slot} (hret : meth.sig.returnType = none) (hlk : meth.locks = false) (hd : decode c.code pc = .ok (.return_, 1))
    {Qv : Option Value → Heap → List Loc → Prop} {kc ks : Nat} (hc : cells ≤ kc) (hk : slots ≤ ks) (hq : Qv none T.heap locs) : Go p e below (Ret s Qv kc ks) (T.setTop (mkF m pc Ls [])) :=
  Go.done X (fun _ => rfl) hlk (fun _ hr => X.returnOut hx hret hd hr) hc hk hq
theorem Go.retL (X : Stand p l e R s m args below meth c T locs cells slots) (hx : p.tables.exec = Jvm.exec) {pc : Nat} {Ls : Array Slot} {st : List Value} {z : Int64} (hret : meth.sig.returnType = some .long) (hlk : meth.locks = false) (hd : decode c.code pc = .ok (.lreturn, 1))
    {Qv : Option Value → Heap → List Loc → Prop} {kc ks : Nat} (hc : cells ≤ kc) (hk : slots ≤ ks) (hq : Qv (some (.long z)) T.heap locs) : Go p e below (Ret s Qv kc ks) (T.setTop (mkF m pc Ls ((.long z) :: st))) :=
  Go.done X (fun h => by rw [hret] at h; cases h) hlk (fun _ hr => retOut X hx hret rfl (Or.inr (Or.inl ⟨rfl, rfl, z, rfl⟩)) hd hr) hc hk hq
theorem Go.retD (X : Stand p l e R s m args below meth c T locs cells slots) (hx : p.tables.exec = Jvm.exec) {pc : Nat} {Ls : Array Slot} {st : List Value} {z : UInt64} (hret : meth.sig.returnType = some .double) (hlk : meth.locks = false) (hd : decode c.code pc = .ok (.dreturn, 1))
    {Qv : Option Value → Heap → List Loc → Prop} {kc ks : Nat} (hc : cells ≤ kc) (hk : slots ≤ ks) (hq : Qv (some (.double z)) T.heap locs) : Go p e below (Ret s Qv kc ks) (T.setTop (mkF m pc Ls ((.double z) :: st))) :=
  Go.done X (fun h => by rw [hret] at h; cases h) hlk (fun _ hr => retOut X hx hret rfl (Or.inr (Or.inr (Or.inl ⟨rfl, rfl, z, rfl⟩))) hd hr) hc hk hq
theorem Go.retF (X : Stand p l e R s m args below meth c T locs cells slots) (hx : p.tables.exec = Jvm.exec) {pc : Nat} {Ls : Array Slot} {st : List Value} {z : UInt32} (hret : meth.sig.returnType = some .float) (hlk : meth.locks = false) (hd : decode c.code pc = .ok (.freturn, 1))
    {Qv : Option Value → Heap → List Loc → Prop} {kc ks : Nat} (hc : cells ≤ kc) (hk : slots ≤ ks) (hq : Qv (some (.float z)) T.heap locs) : Go p e below (Ret s Qv kc ks) (T.setTop (mkF m pc Ls ((.float z) :: st))) :=
  Go.done X (fun h => by rw [hret] at h; cases h) hlk (fun _ hr => retOut X hx hret rfl (Or.inr (Or.inr (Or.inr (Or.inl ⟨rfl, rfl, z, rfl⟩)))) hd hr) hc hk hq
theorem Go.retI (X : Stand p l e R s m args below meth c T locs cells slots) (hx : p.tables.exec = Jvm.exec) {pc : Nat} {Ls : Array Slot} {st : List Value} {z : Int32} (hret : meth.sig.returnType = some .int) (hlk : meth.locks = false) (hd : decode c.code pc = .ok (.ireturn, 1))
    {Qv : Option Value → Heap → List Loc → Prop} {kc ks : Nat} (hc : cells ≤ kc) (hk : slots ≤ ks) (hq : Qv (some (.int z)) T.heap locs) : Go p e below (Ret s Qv kc ks) (T.setTop (mkF m pc Ls ((.int z) :: st))) :=
  Go.done X (fun h => by rw [hret] at h; cases h) hlk (fun _ hr => retOut X hx hret rfl (Or.inl ⟨rfl, Or.inl rfl, z, rfl⟩) hd hr) hc hk hq
theorem Go.retZ (X : Stand p l e R s m args below meth c T locs cells slots) (hx : p.tables.exec = Jvm.exec) {pc : Nat} {Ls : Array Slot} {st : List Value} {z : Int32} (hret : meth.sig.returnType = some .boolean) (hlk : meth.locks = false) (hd : decode c.code pc = .ok (.ireturn, 1)) (hz : z = 0 ∨ z = 1)
    {Qv : Option Value → Heap → List Loc → Prop} {kc ks : Nat} (hc : cells ≤ kc) (hk : slots ≤ ks) (hq : Qv (some (.int z)) T.heap locs) : Go p e below (Ret s Qv kc ks) (T.setTop (mkF m pc Ls ((.int z) :: st))) :=
  Go.done X (fun h => by rw [hret] at h; cases h) hlk (fun _ hr => retOut X hx hret (by rcases hz with rfl | rfl <;> rfl) (Or.inl ⟨rfl, Or.inr (Or.inl rfl), z, rfl⟩) hd hr) hc hk hq
theorem Go.retA (X : Stand p l e R s m args below meth c T locs cells slots) (hx : p.tables.exec = Jvm.exec) {pc : Nat} {Ls : Array Slot} {st : List Value} {v : Value} {t : FieldType} (hret : meth.sig.returnType = some t) (hlk : meth.locks = false) (hd : decode c.code pc = .ok (.areturn, 1)) (ht : t.isReference = true) (hv : v.isRef = true) (hn : narrow t v = v)
    {Qv : Option Value → Heap → List Loc → Prop} {kc ks : Nat} (hc : cells ≤ kc) (hk : slots ≤ ks) (hq : Qv (some v) T.heap locs) : Go p e below (Ret s Qv kc ks) (T.setTop (mkF m pc Ls (v :: st))) :=
  Go.done X (fun h => by rw [hret] at h; cases h) hlk (fun _ hr => retOut X hx hret hn (Or.inr (Or.inr (Or.inr (Or.inr ⟨rfl, ht, hv⟩)))) hd hr) hc hk hq
theorem enter {l : Launch} {Z : State} {y : MethodName} {bytes : ByteArray} {maxL : Nat} {ret : Option FieldType} {ws : List Jvm.Cond} {rm : Room} {as' : Array Value} {h0 : Heap} {Qv : Option Value → Heap → List Loc → Prop} {Ls : Array Slot} {kc ks : Nat}
    (hpn : plainFor y = true) (hef : ∀ m, entryFrame m as' maxL = mkF m 0 Ls [])
    (body : ∀ (p : Program) (e : Env) (s : State) (m : MethodId) (below : List Frame) (meth : Method) (c : Code) (s₁ : State), p.tables.exec = Jvm.exec → c.code = bytes → c.maxLocals = maxL → s.vm.findClass y.cls = some m.cls → meth.name = y.name → meth.sig.returnType = ret → meth.locks = false → Z.Warmed39 s.vm →
      Stand p l e rm s m as' below meth c s₁ [] 0 0 → s₁.heap = h0 → Go p e below (Ret s Qv kc ks) (s₁.setTop (mkF m 0 Ls []))) :
    MetFree l y (head1 (Jvm.Cond.code y bytes maxL ret :: ws) rm) (fun a U => a = as' ∧ Z.Warmed39 U.vm ∧ U.heap = h0) (fun _ _ _ _ _ => True) (fun _ U o U' => ∃ v L, o = .returned v ∧ Qv v U'.heap L ∧ FrameEnd U o U' L kc ks) := by
  refine MetFree.of_bodySF hpn hisR ?_
  intro p e s m args below meth c s₁ Bd hml0 hP hK
  obtain ⟨rfl, hZ, hh⟩ := hP
  have e0 : s₁.heap = h0 := by rw [← hh, Bd.state]; rfl
  obtain ⟨s₂, o, h1, h2, h3, h4⟩ := body p e s m below meth c s₁ Bd.exec Bd.bytes hml0 (findClass_of_methodNamed Bd.named) (name_of_methodNamed Bd.named Bd.method).1 Bd.returns (BodyLoose.notSynchronized Bd) hZ (Stand.of_body Bd) e0
  exact ⟨s₂, o, castTop (hef m) h1, h2, h3, h4⟩
theorem Go.iload (h : At T m c below) (hx : p.tables.exec = Jvm.exec) {pc q : Nat} {Ls : Array Slot} {st : List Value} {k : Nat} {v : Int32} (hd : decode c.code pc = .ok (.iload k, 2)) (hl : Ls[k]? = some (.val (.int v))) (hq : pc + 2 = q) (g : Go p e below Q (T.setTop (mkF m q Ls (.int v :: st)))) : Go p e below Q (T.setTop (mkF m pc Ls st)) := by
  subst hq; exact Go.of (fun _ r => XS.iload h hx rfl hd hl r) g
theorem Go.iloadN (h : At T m c below) (hx : p.tables.exec = Jvm.exec) {pc q : Nat} {Ls : Array Slot} {st : List Value} {k : Fin 4} {v : Int32} (hd : decode c.code pc = .ok (.iload_n k, 1)) (hl : Ls[k.val]? = some (.val (.int v))) (hq : pc + 1 = q) (g : Go p e below Q (T.setTop (mkF m q Ls (.int v :: st)))) : Go p e below Q (T.setTop (mkF m pc Ls st)) := by
  subst hq; exact Go.of (fun _ r => XS.iloadN h hx rfl hd hl r) g
theorem Go.istore (h : At T m c below) (hx : p.tables.exec = Jvm.exec) {pc q : Nat} {Ls : Array Slot} {st : List Value} {k : Nat} {v : Int32} {l2 : Array Slot} (hd : decode c.code pc = .ok (.istore k, 2)) (hl : storeLocals Ls k (.int v) = some l2) (hq : pc + 2 = q) (g : Go p e below Q (T.setTop (mkF m q l2 st))) : Go p e below Q (T.setTop (mkF m pc Ls (.int v :: st))) := by
  subst hq; exact Go.of (fun _ r => XS.istore h hx rfl hd rfl hl r) g
theorem Go.istoreN (h : At T m c below) (hx : p.tables.exec = Jvm.exec) {pc q : Nat} {Ls : Array Slot} {st : List Value} {k : Fin 4} {v : Int32} {l2 : Array Slot} (hd : decode c.code pc = .ok (.istore_n k, 1)) (hl : storeLocals Ls k.val (.int v) = some l2) (hq : pc + 1 = q) (g : Go p e below Q (T.setTop (mkF m q l2 st))) : Go p e below Q (T.setTop (mkF m pc Ls (.int v :: st))) := by
  subst hq; exact Go.of (fun _ r => XS.istoreN h hx rfl hd rfl hl r) g
theorem Go.lload (h : At T m c below) (hx : p.tables.exec = Jvm.exec) {pc q : Nat} {Ls : Array Slot} {st : List Value} {k : Nat} {v : Int64} (hd : decode c.code pc = .ok (.lload k, 2)) (hl : Ls[k]? = some (.val (.long v))) (hq : pc + 2 = q) (g : Go p e below Q (T.setTop (mkF m q Ls (.long v :: st)))) : Go p e below Q (T.setTop (mkF m pc Ls st)) := by
  subst hq; exact Go.of (fun _ r => XS.lload h hx rfl hd hl r) g
theorem Go.lloadN (h : At T m c below) (hx : p.tables.exec = Jvm.exec) {pc q : Nat} {Ls : Array Slot} {st : List Value} {k : Fin 4} {v : Int64} (hd : decode c.code pc = .ok (.lload_n k, 1)) (hl : Ls[k.val]? = some (.val (.long v))) (hq : pc + 1 = q) (g : Go p e below Q (T.setTop (mkF m q Ls (.long v :: st)))) : Go p e below Q (T.setTop (mkF m pc Ls st)) := by
  subst hq; exact Go.of (fun _ r => XS.lloadN h hx rfl hd hl r) g
theorem Go.lstore (h : At T m c below) (hx : p.tables.exec = Jvm.exec) {pc q : Nat} {Ls : Array Slot} {st : List Value} {k : Nat} {v : Int64} {l2 : Array Slot} (hd : decode c.code pc = .ok (.lstore k, 2)) (hl : storeLocals Ls k (.long v) = some l2) (hq : pc + 2 = q) (g : Go p e below Q (T.setTop (mkF m q l2 st))) : Go p e below Q (T.setTop (mkF m pc Ls (.long v :: st))) := by
  subst hq; exact Go.of (fun _ r => XS.lstore h hx rfl hd rfl hl r) g
theorem Go.lstoreN (h : At T m c below) (hx : p.tables.exec = Jvm.exec) {pc q : Nat} {Ls : Array Slot} {st : List Value} {k : Fin 4} {v : Int64} {l2 : Array Slot} (hd : decode c.code pc = .ok (.lstore_n k, 1)) (hl : storeLocals Ls k.val (.long v) = some l2) (hq : pc + 1 = q) (g : Go p e below Q (T.setTop (mkF m q l2 st))) : Go p e below Q (T.setTop (mkF m pc Ls (.long v :: st))) := by
  subst hq; exact Go.of (fun _ r => XS.lstoreN h hx rfl hd rfl hl r) g
theorem Go.dload (h : At T m c below) (hx : p.tables.exec = Jvm.exec) {pc q : Nat} {Ls : Array Slot} {st : List Value} {k : Nat} {v : UInt64} (hd : decode c.code pc = .ok (.dload k, 2)) (hl : Ls[k]? = some (.val (.double v))) (hq : pc + 2 = q) (g : Go p e below Q (T.setTop (mkF m q Ls (.double v :: st)))) : Go p e below Q (T.setTop (mkF m pc Ls st)) := by
  subst hq; exact Go.of (fun _ r => XS.dload h hx rfl hd hl r) g
theorem Go.dloadN (h : At T m c below) (hx : p.tables.exec = Jvm.exec) {pc q : Nat} {Ls : Array Slot} {st : List Value} {k : Fin 4} {v : UInt64} (hd : decode c.code pc = .ok (.dload_n k, 1)) (hl : Ls[k.val]? = some (.val (.double v))) (hq : pc + 1 = q) (g : Go p e below Q (T.setTop (mkF m q Ls (.double v :: st)))) : Go p e below Q (T.setTop (mkF m pc Ls st)) := by
  subst hq; exact Go.of (fun _ r => XS.dloadN h hx rfl hd hl r) g
theorem Go.dstore (h : At T m c below) (hx : p.tables.exec = Jvm.exec) {pc q : Nat} {Ls : Array Slot} {st : List Value} {k : Nat} {v : UInt64} {l2 : Array Slot} (hd : decode c.code pc = .ok (.dstore k, 2)) (hl : storeLocals Ls k (.double v) = some l2) (hq : pc + 2 = q) (g : Go p e below Q (T.setTop (mkF m q l2 st))) : Go p e below Q (T.setTop (mkF m pc Ls (.double v :: st))) := by
  subst hq; exact Go.of (fun _ r => XS.dstore h hx rfl hd rfl hl r) g
theorem Go.dstoreN (h : At T m c below) (hx : p.tables.exec = Jvm.exec) {pc q : Nat} {Ls : Array Slot} {st : List Value} {k : Fin 4} {v : UInt64} {l2 : Array Slot} (hd : decode c.code pc = .ok (.dstore_n k, 1)) (hl : storeLocals Ls k.val (.double v) = some l2) (hq : pc + 1 = q) (g : Go p e below Q (T.setTop (mkF m q l2 st))) : Go p e below Q (T.setTop (mkF m pc Ls (.double v :: st))) := by
  subst hq; exact Go.of (fun _ r => XS.dstoreN h hx rfl hd rfl hl r) g
theorem Go.fload (h : At T m c below) (hx : p.tables.exec = Jvm.exec) {pc q : Nat} {Ls : Array Slot} {st : List Value} {k : Nat} {v : UInt32} (hd : decode c.code pc = .ok (.fload k, 2)) (hl : Ls[k]? = some (.val (.float v))) (hq : pc + 2 = q) (g : Go p e below Q (T.setTop (mkF m q Ls (.float v :: st)))) : Go p e below Q (T.setTop (mkF m pc Ls st)) := by
  subst hq; exact Go.of (fun _ r => XS.fload h hx rfl hd hl r) g
theorem Go.floadN (h : At T m c below) (hx : p.tables.exec = Jvm.exec) {pc q : Nat} {Ls : Array Slot} {st : List Value} {k : Fin 4} {v : UInt32} (hd : decode c.code pc = .ok (.fload_n k, 1)) (hl : Ls[k.val]? = some (.val (.float v))) (hq : pc + 1 = q) (g : Go p e below Q (T.setTop (mkF m q Ls (.float v :: st)))) : Go p e below Q (T.setTop (mkF m pc Ls st)) := by
  subst hq; exact Go.of (fun _ r => XS.floadN h hx rfl hd hl r) g
theorem Go.fstore (h : At T m c below) (hx : p.tables.exec = Jvm.exec) {pc q : Nat} {Ls : Array Slot} {st : List Value} {k : Nat} {v : UInt32} {l2 : Array Slot} (hd : decode c.code pc = .ok (.fstore k, 2)) (hl : storeLocals Ls k (.float v) = some l2) (hq : pc + 2 = q) (g : Go p e below Q (T.setTop (mkF m q l2 st))) : Go p e below Q (T.setTop (mkF m pc Ls (.float v :: st))) := by
  subst hq; exact Go.of (fun _ r => XS.fstore h hx rfl hd rfl hl r) g
theorem Go.fstoreN (h : At T m c below) (hx : p.tables.exec = Jvm.exec) {pc q : Nat} {Ls : Array Slot} {st : List Value} {k : Fin 4} {v : UInt32} {l2 : Array Slot} (hd : decode c.code pc = .ok (.fstore_n k, 1)) (hl : storeLocals Ls k.val (.float v) = some l2) (hq : pc + 1 = q) (g : Go p e below Q (T.setTop (mkF m q l2 st))) : Go p e below Q (T.setTop (mkF m pc Ls (.float v :: st))) := by
  subst hq; exact Go.of (fun _ r => XS.fstoreN h hx rfl hd rfl hl r) g
theorem Go.aload (h : At T m c below) (hx : p.tables.exec = Jvm.exec) {pc q : Nat} {Ls : Array Slot} {st : List Value} {k : Nat} {v : Value} (hd : decode c.code pc = .ok (.aload k, 2)) (hl : Ls[k]? = some (.val v)) (hv : v.isRef = true) (hq : pc + 2 = q) (g : Go p e below Q (T.setTop (mkF m q Ls (v :: st)))) : Go p e below Q (T.setTop (mkF m pc Ls st)) := by
  subst hq; exact Go.of (fun _ r => XS.aload h hx rfl hd hl hv r) g
theorem Go.aloadN (h : At T m c below) (hx : p.tables.exec = Jvm.exec) {pc q : Nat} {Ls : Array Slot} {st : List Value} {k : Fin 4} {v : Value} (hd : decode c.code pc = .ok (.aload_n k, 1)) (hl : Ls[k.val]? = some (.val v)) (hv : v.isRef = true) (hq : pc + 1 = q) (g : Go p e below Q (T.setTop (mkF m q Ls (v :: st)))) : Go p e below Q (T.setTop (mkF m pc Ls st)) := by
  subst hq; exact Go.of (fun _ r => XS.aloadN h hx rfl hd hl hv r) g
theorem Go.astore (h : At T m c below) (hx : p.tables.exec = Jvm.exec) {pc q : Nat} {Ls : Array Slot} {st : List Value} {k : Nat} {v : Value} {l2 : Array Slot} (hd : decode c.code pc = .ok (.astore k, 2)) (hv : v.isRef = true) (hl : storeLocals Ls k v = some l2) (hq : pc + 2 = q) (g : Go p e below Q (T.setTop (mkF m q l2 st))) : Go p e below Q (T.setTop (mkF m pc Ls (v :: st))) := by
  subst hq; exact Go.of (fun _ r => XS.astore h hx rfl hd rfl hv hl r) g
theorem Go.astoreN (h : At T m c below) (hx : p.tables.exec = Jvm.exec) {pc q : Nat} {Ls : Array Slot} {st : List Value} {k : Fin 4} {v : Value} {l2 : Array Slot} (hd : decode c.code pc = .ok (.astore_n k, 1)) (hv : v.isRef = true) (hl : storeLocals Ls k.val v = some l2) (hq : pc + 1 = q) (g : Go p e below Q (T.setTop (mkF m q l2 st))) : Go p e below Q (T.setTop (mkF m pc Ls (v :: st))) := by
  subst hq; exact Go.of (fun _ r => XS.astoreN h hx rfl hd rfl hv hl r) g
theorem Go.iconst (h : At T m c below) (hx : p.tables.exec = Jvm.exec) {pc q : Nat} {Ls : Array Slot} {st : List Value} {i : Int} {v : Int32} (hd : decode c.code pc = .ok (.iconst i, 1)) (hv : Int32.ofInt i = v) (hq : pc + 1 = q) (g : Go p e below Q (T.setTop (mkF m q Ls (.int v :: st)))) : Go p e below Q (T.setTop (mkF m pc Ls st)) := by
  subst hq hv; exact Go.of (fun _ r => XS.iconst h hx rfl hd r) g
theorem Go.bipush (h : At T m c below) (hx : p.tables.exec = Jvm.exec) {pc q : Nat} {Ls : Array Slot} {st : List Value} {i : Int} {v : Int32} (hd : decode c.code pc = .ok (.bipush i, 2)) (hv : (Int8.ofInt i).toInt32 = v) (hq : pc + 2 = q) (g : Go p e below Q (T.setTop (mkF m q Ls (.int v :: st)))) : Go p e below Q (T.setTop (mkF m pc Ls st)) := by
  subst hq hv; exact Go.of (fun _ r => XS.bipush h hx rfl hd r) g
theorem Go.sipush (h : At T m c below) (hx : p.tables.exec = Jvm.exec) {pc q : Nat} {Ls : Array Slot} {st : List Value} {i : Int} {v : Int32} (hd : decode c.code pc = .ok (.sipush i, 3)) (hv : (Int16.ofInt i).toInt32 = v) (hq : pc + 3 = q) (g : Go p e below Q (T.setTop (mkF m q Ls (.int v :: st)))) : Go p e below Q (T.setTop (mkF m pc Ls st)) := by
  subst hq hv; exact Go.of (fun _ r => XS.sipush h hx rfl hd r) g
theorem Go.lconst (h : At T m c below) (hx : p.tables.exec = Jvm.exec) {pc q : Nat} {Ls : Array Slot} {st : List Value} {k : Fin 2} {v : Int64} (hd : decode c.code pc = .ok (.lconst k, 1)) (hv : Int64.ofNat k = v) (hq : pc + 1 = q) (g : Go p e below Q (T.setTop (mkF m q Ls (.long v :: st)))) : Go p e below Q (T.setTop (mkF m pc Ls st)) := by
  subst hq hv; exact Go.of (fun _ r => XS.lconst h hx rfl hd r) g
theorem Go.aconst (h : At T m c below) (hx : p.tables.exec = Jvm.exec) {pc q : Nat} {Ls : Array Slot} {st : List Value}  (hd : decode c.code pc = .ok (.aconst_null, 1)) (hq : pc + 1 = q) (g : Go p e below Q (T.setTop (mkF m q Ls (.null :: st)))) : Go p e below Q (T.setTop (mkF m pc Ls st)) := by
  subst hq; exact Go.of (fun _ r => XS.aconstNull h hx rfl hd r) g
theorem Go.dconst0 (h : At T m c below) (hx : p.tables.exec = Jvm.exec) {pc q : Nat} {Ls : Array Slot} {st : List Value} {v : UInt64} (hd : decode c.code pc = .ok (.dconst 0, 1)) (hv : FP.dconst0 = v) (hq : pc + 1 = q) (g : Go p e below Q (T.setTop (mkF m q Ls (.double v :: st)))) : Go p e below Q (T.setTop (mkF m pc Ls st)) := by
  subst hq; exact Go.of (fun _ r => XS.dconst0 h hx rfl hd hv r) g
theorem Go.dconst1 (h : At T m c below) (hx : p.tables.exec = Jvm.exec) {pc q : Nat} {Ls : Array Slot} {st : List Value} {v : UInt64} (hd : decode c.code pc = .ok (.dconst 1, 1)) (hv : FP.dconst1 = v) (hq : pc + 1 = q) (g : Go p e below Q (T.setTop (mkF m q Ls (.double v :: st)))) : Go p e below Q (T.setTop (mkF m pc Ls st)) := by
  subst hq; exact Go.of (fun _ r => XS.dconst1 h hx rfl hd hv r) g
theorem Go.fconst0 (h : At T m c below) (hx : p.tables.exec = Jvm.exec) {pc q : Nat} {Ls : Array Slot} {st : List Value} {v : UInt32} (hd : decode c.code pc = .ok (.fconst 0, 1)) (hv : FP.fconst0 = v) (hq : pc + 1 = q) (g : Go p e below Q (T.setTop (mkF m q Ls (.float v :: st)))) : Go p e below Q (T.setTop (mkF m pc Ls st)) := by
  subst hq; exact Go.of (fun _ r => XS.fconst0 h hx rfl hd hv r) g
theorem Go.fconst1 (h : At T m c below) (hx : p.tables.exec = Jvm.exec) {pc q : Nat} {Ls : Array Slot} {st : List Value} {v : UInt32} (hd : decode c.code pc = .ok (.fconst 1, 1)) (hv : FP.fconst1 = v) (hq : pc + 1 = q) (g : Go p e below Q (T.setTop (mkF m q Ls (.float v :: st)))) : Go p e below Q (T.setTop (mkF m pc Ls st)) := by
  subst hq; exact Go.of (fun _ r => XS.fconst1 h hx rfl hd hv r) g
theorem Go.iadd (h : At T m c below) (hx : p.tables.exec = Jvm.exec) {pc q : Nat} {Ls : Array Slot} {st : List Value} {x : Int32} {y : Int32} {v : Int32} (hd : decode c.code pc = .ok (.iadd, 1)) (hv : x + y = v) (hq : pc + 1 = q) (g : Go p e below Q (T.setTop (mkF m q Ls (.int v :: st)))) : Go p e below Q (T.setTop (mkF m pc Ls (.int y :: .int x :: st))) := by
  subst hq hv; exact Go.of (fun _ r => XS.iadd h hx rfl hd rfl r) g
theorem Go.isub (h : At T m c below) (hx : p.tables.exec = Jvm.exec) {pc q : Nat} {Ls : Array Slot} {st : List Value} {x : Int32} {y : Int32} {v : Int32} (hd : decode c.code pc = .ok (.isub, 1)) (hv : x - y = v) (hq : pc + 1 = q) (g : Go p e below Q (T.setTop (mkF m q Ls (.int v :: st)))) : Go p e below Q (T.setTop (mkF m pc Ls (.int y :: .int x :: st))) := by
  subst hq hv; exact Go.of (fun _ r => XS.isub h hx rfl hd rfl r) g
theorem Go.iand (h : At T m c below) (hx : p.tables.exec = Jvm.exec) {pc q : Nat} {Ls : Array Slot} {st : List Value} {x : Int32} {y : Int32} {v : Int32} (hd : decode c.code pc = .ok (.iand, 1)) (hv : x &&& y = v) (hq : pc + 1 = q) (g : Go p e below Q (T.setTop (mkF m q Ls (.int v :: st)))) : Go p e below Q (T.setTop (mkF m pc Ls (.int y :: .int x :: st))) := by
  subst hq hv; exact Go.of (fun _ r => XS.iand h hx rfl hd rfl r) g
theorem Go.imul (h : At T m c below) (hx : p.tables.exec = Jvm.exec) {pc q : Nat} {Ls : Array Slot} {st : List Value} {x : Int32} {y : Int32} {v : Int32} (hd : decode c.code pc = .ok (.imul, 1)) (hv : x * y = v) (hq : pc + 1 = q) (g : Go p e below Q (T.setTop (mkF m q Ls (.int v :: st)))) : Go p e below Q (T.setTop (mkF m pc Ls (.int y :: .int x :: st))) := by
  subst hq hv; exact Go.of (fun _ r => XS.imul h hx rfl hd rfl r) g
theorem Go.ixor (h : At T m c below) (hx : p.tables.exec = Jvm.exec) {pc q : Nat} {Ls : Array Slot} {st : List Value} {x : Int32} {y : Int32} {v : Int32} (hd : decode c.code pc = .ok (.ixor, 1)) (hv : x ^^^ y = v) (hq : pc + 1 = q) (g : Go p e below Q (T.setTop (mkF m q Ls (.int v :: st)))) : Go p e below Q (T.setTop (mkF m pc Ls (.int y :: .int x :: st))) := by
  subst hq hv; exact Go.of (fun _ r => XS.ixor h hx rfl hd rfl r) g
theorem Go.ior (h : At T m c below) (hx : p.tables.exec = Jvm.exec) {pc q : Nat} {Ls : Array Slot} {st : List Value} {x : Int32} {y : Int32} {v : Int32} (hd : decode c.code pc = .ok (.ior, 1)) (hv : x ||| y = v) (hq : pc + 1 = q) (g : Go p e below Q (T.setTop (mkF m q Ls (.int v :: st)))) : Go p e below Q (T.setTop (mkF m pc Ls (.int y :: .int x :: st))) := by
  subst hq hv; exact Go.of (fun _ r => XS.ior h hx rfl hd rfl r) g
theorem Go.ishl (h : At T m c below) (hx : p.tables.exec = Jvm.exec) {pc q : Nat} {Ls : Array Slot} {st : List Value} {x : Int32} {y : Int32} {v : Int32} (hd : decode c.code pc = .ok (.ishl, 1)) (hv : x <<< (y &&& 31) = v) (hq : pc + 1 = q) (g : Go p e below Q (T.setTop (mkF m q Ls (.int v :: st)))) : Go p e below Q (T.setTop (mkF m pc Ls (.int y :: .int x :: st))) := by
  subst hq hv; exact Go.of (fun _ r => XS.ishl h hx rfl hd rfl r) g
theorem Go.ishr (h : At T m c below) (hx : p.tables.exec = Jvm.exec) {pc q : Nat} {Ls : Array Slot} {st : List Value} {x : Int32} {y : Int32} {v : Int32} (hd : decode c.code pc = .ok (.ishr, 1)) (hv : x >>> (y &&& 31) = v) (hq : pc + 1 = q) (g : Go p e below Q (T.setTop (mkF m q Ls (.int v :: st)))) : Go p e below Q (T.setTop (mkF m pc Ls (.int y :: .int x :: st))) := by
  subst hq hv; exact Go.of (fun _ r => XS.ishr h hx rfl hd rfl r) g
theorem Go.iushr (h : At T m c below) (hx : p.tables.exec = Jvm.exec) {pc q : Nat} {Ls : Array Slot} {st : List Value} {x : Int32} {y : Int32} {v : Int32} (hd : decode c.code pc = .ok (.iushr, 1)) (hv : (x.toUInt32 >>> (y &&& 31).toUInt32).toInt32 = v) (hq : pc + 1 = q) (g : Go p e below Q (T.setTop (mkF m q Ls (.int v :: st)))) : Go p e below Q (T.setTop (mkF m pc Ls (.int y :: .int x :: st))) := by
  subst hq hv; exact Go.of (fun _ r => XS.iushr h hx rfl hd rfl r) g
theorem Go.idiv (h : At T m c below) (hx : p.tables.exec = Jvm.exec) {pc q : Nat} {Ls : Array Slot} {st : List Value} {x : Int32} {y : Int32} {v : Int32} (hd : decode c.code pc = .ok (.idiv, 1)) (hy : y ≠ 0) (hv : x / y = v) (hq : pc + 1 = q) (g : Go p e below Q (T.setTop (mkF m q Ls (.int v :: st)))) : Go p e below Q (T.setTop (mkF m pc Ls (.int y :: .int x :: st))) := by
  subst hq hv; exact Go.of (fun _ r => XS.idiv h hx rfl hd rfl hy r) g
theorem Go.irem (h : At T m c below) (hx : p.tables.exec = Jvm.exec) {pc q : Nat} {Ls : Array Slot} {st : List Value} {x : Int32} {y : Int32} {v : Int32} (hd : decode c.code pc = .ok (.irem, 1)) (hy : y ≠ 0) (hv : x - (x / y) * y = v) (hq : pc + 1 = q) (g : Go p e below Q (T.setTop (mkF m q Ls (.int v :: st)))) : Go p e below Q (T.setTop (mkF m pc Ls (.int y :: .int x :: st))) := by
  subst hq hv; exact Go.of (fun _ r => XS.irem h hx rfl hd rfl hy r) g
theorem Go.ladd (h : At T m c below) (hx : p.tables.exec = Jvm.exec) {pc q : Nat} {Ls : Array Slot} {st : List Value} {x : Int64} {y : Int64} {v : Int64} (hd : decode c.code pc = .ok (.ladd, 1)) (hv : x + y = v) (hq : pc + 1 = q) (g : Go p e below Q (T.setTop (mkF m q Ls (.long v :: st)))) : Go p e below Q (T.setTop (mkF m pc Ls (.long y :: .long x :: st))) := by
  subst hq hv; exact Go.of (fun _ r => XS.ladd h hx rfl hd rfl r) g
theorem Go.lsub (h : At T m c below) (hx : p.tables.exec = Jvm.exec) {pc q : Nat} {Ls : Array Slot} {st : List Value} {x : Int64} {y : Int64} {v : Int64} (hd : decode c.code pc = .ok (.lsub, 1)) (hv : x - y = v) (hq : pc + 1 = q) (g : Go p e below Q (T.setTop (mkF m q Ls (.long v :: st)))) : Go p e below Q (T.setTop (mkF m pc Ls (.long y :: .long x :: st))) := by
  subst hq hv; exact Go.of (fun _ r => XS.lsub h hx rfl hd rfl r) g
theorem Go.lmul (h : At T m c below) (hx : p.tables.exec = Jvm.exec) {pc q : Nat} {Ls : Array Slot} {st : List Value} {x : Int64} {y : Int64} {v : Int64} (hd : decode c.code pc = .ok (.lmul, 1)) (hv : x * y = v) (hq : pc + 1 = q) (g : Go p e below Q (T.setTop (mkF m q Ls (.long v :: st)))) : Go p e below Q (T.setTop (mkF m pc Ls (.long y :: .long x :: st))) := by
  subst hq hv; exact Go.of (fun _ r => XS.lmul h hx rfl hd rfl r) g
theorem Go.land (h : At T m c below) (hx : p.tables.exec = Jvm.exec) {pc q : Nat} {Ls : Array Slot} {st : List Value} {x : Int64} {y : Int64} {v : Int64} (hd : decode c.code pc = .ok (.land, 1)) (hv : x &&& y = v) (hq : pc + 1 = q) (g : Go p e below Q (T.setTop (mkF m q Ls (.long v :: st)))) : Go p e below Q (T.setTop (mkF m pc Ls (.long y :: .long x :: st))) := by
  subst hq hv; exact Go.of (fun _ r => XS.land h hx rfl hd rfl r) g
theorem Go.lor (h : At T m c below) (hx : p.tables.exec = Jvm.exec) {pc q : Nat} {Ls : Array Slot} {st : List Value} {x : Int64} {y : Int64} {v : Int64} (hd : decode c.code pc = .ok (.lor, 1)) (hv : x ||| y = v) (hq : pc + 1 = q) (g : Go p e below Q (T.setTop (mkF m q Ls (.long v :: st)))) : Go p e below Q (T.setTop (mkF m pc Ls (.long y :: .long x :: st))) := by
  subst hq hv; exact Go.of (fun _ r => XS.lor h hx rfl hd rfl r) g
theorem Go.lxor (h : At T m c below) (hx : p.tables.exec = Jvm.exec) {pc q : Nat} {Ls : Array Slot} {st : List Value} {x : Int64} {y : Int64} {v : Int64} (hd : decode c.code pc = .ok (.lxor, 1)) (hv : x ^^^ y = v) (hq : pc + 1 = q) (g : Go p e below Q (T.setTop (mkF m q Ls (.long v :: st)))) : Go p e below Q (T.setTop (mkF m pc Ls (.long y :: .long x :: st))) := by
  subst hq hv; exact Go.of (fun _ r => XS.lxor h hx rfl hd rfl r) g
theorem Go.lshl (h : At T m c below) (hx : p.tables.exec = Jvm.exec) {pc q : Nat} {Ls : Array Slot} {st : List Value} {x : Int64} {y : Int32} {v : Int64} (hd : decode c.code pc = .ok (.lshl, 1)) (hv : x <<< (y &&& 0x3f).toInt64 = v) (hq : pc + 1 = q) (g : Go p e below Q (T.setTop (mkF m q Ls (.long v :: st)))) : Go p e below Q (T.setTop (mkF m pc Ls (.int y :: .long x :: st))) := by
  subst hq hv; exact Go.of (fun _ r => XS.lshl h hx rfl hd rfl r) g
theorem Go.lshr (h : At T m c below) (hx : p.tables.exec = Jvm.exec) {pc q : Nat} {Ls : Array Slot} {st : List Value} {x : Int64} {y : Int32} {v : Int64} (hd : decode c.code pc = .ok (.lshr, 1)) (hv : x >>> (y &&& 0x3f).toInt64 = v) (hq : pc + 1 = q) (g : Go p e below Q (T.setTop (mkF m q Ls (.long v :: st)))) : Go p e below Q (T.setTop (mkF m pc Ls (.int y :: .long x :: st))) := by
  subst hq hv; exact Go.of (fun _ r => XS.lshr h hx rfl hd rfl r) g
theorem Go.lushr (h : At T m c below) (hx : p.tables.exec = Jvm.exec) {pc q : Nat} {Ls : Array Slot} {st : List Value} {x : Int64} {y : Int32} {v : Int64} (hd : decode c.code pc = .ok (.lushr, 1)) (hv : (x.toUInt64 >>> (y &&& 0x3f).toInt64.toUInt64).toInt64 = v) (hq : pc + 1 = q) (g : Go p e below Q (T.setTop (mkF m q Ls (.long v :: st)))) : Go p e below Q (T.setTop (mkF m pc Ls (.int y :: .long x :: st))) := by
  subst hq hv; exact Go.of (fun _ r => XS.lushr h hx rfl hd rfl r) g
theorem Go.ldiv (h : At T m c below) (hx : p.tables.exec = Jvm.exec) {pc q : Nat} {Ls : Array Slot} {st : List Value} {x : Int64} {y : Int64} {v : Int64} (hd : decode c.code pc = .ok (.ldiv, 1)) (hy : y ≠ 0) (hv : x / y = v) (hq : pc + 1 = q) (g : Go p e below Q (T.setTop (mkF m q Ls (.long v :: st)))) : Go p e below Q (T.setTop (mkF m pc Ls (.long y :: .long x :: st))) := by
  subst hq hv; exact Go.of (fun _ r => XS.ldiv h hx rfl hd rfl hy r) g
theorem Go.lrem (h : At T m c below) (hx : p.tables.exec = Jvm.exec) {pc q : Nat} {Ls : Array Slot} {st : List Value} {x : Int64} {y : Int64} {v : Int64} (hd : decode c.code pc = .ok (.lrem, 1)) (hy : y ≠ 0) (hv : x - (x / y) * y = v) (hq : pc + 1 = q) (g : Go p e below Q (T.setTop (mkF m q Ls (.long v :: st)))) : Go p e below Q (T.setTop (mkF m pc Ls (.long y :: .long x :: st))) := by
  subst hq hv; exact Go.of (fun _ r => XS.lrem h hx rfl hd rfl hy r) g
theorem Go.lcmp (h : At T m c below) (hx : p.tables.exec = Jvm.exec) {pc q : Nat} {Ls : Array Slot} {st : List Value} {x : Int64} {y : Int64} {v : Int32} (hd : decode c.code pc = .ok (.lcmp, 1)) (hv : lcmpW x y = v) (hq : pc + 1 = q) (g : Go p e below Q (T.setTop (mkF m q Ls (.int v :: st)))) : Go p e below Q (T.setTop (mkF m pc Ls (.long y :: .long x :: st))) := by
  subst hq hv; exact Go.of (fun _ r => XS.lcmp h hx rfl hd rfl r) g
theorem Go.ineg (h : At T m c below) (hx : p.tables.exec = Jvm.exec) {pc q : Nat} {Ls : Array Slot} {st : List Value} {x : Int32} {v : Int32} (hd : decode c.code pc = .ok (.ineg, 1)) (hv : -x = v) (hq : pc + 1 = q) (g : Go p e below Q (T.setTop (mkF m q Ls (.int v :: st)))) : Go p e below Q (T.setTop (mkF m pc Ls (.int x :: st))) := by
  subst hq hv; exact Go.of (fun _ r => XS.ineg h hx rfl hd rfl r) g
theorem Go.lneg (h : At T m c below) (hx : p.tables.exec = Jvm.exec) {pc q : Nat} {Ls : Array Slot} {st : List Value} {x : Int64} {v : Int64} (hd : decode c.code pc = .ok (.lneg, 1)) (hv : -x = v) (hq : pc + 1 = q) (g : Go p e below Q (T.setTop (mkF m q Ls (.long v :: st)))) : Go p e below Q (T.setTop (mkF m pc Ls (.long x :: st))) := by
  subst hq hv; exact Go.of (fun _ r => XS.lneg h hx rfl hd rfl r) g
theorem Go.i2l (h : At T m c below) (hx : p.tables.exec = Jvm.exec) {pc q : Nat} {Ls : Array Slot} {st : List Value} {x : Int32} {v : Int64} (hd : decode c.code pc = .ok (.i2l, 1)) (hv : x.toInt64 = v) (hq : pc + 1 = q) (g : Go p e below Q (T.setTop (mkF m q Ls (.long v :: st)))) : Go p e below Q (T.setTop (mkF m pc Ls (.int x :: st))) := by
  subst hq hv; exact Go.of (fun _ r => XS.i2l h hx rfl hd rfl r) g
theorem Go.l2i (h : At T m c below) (hx : p.tables.exec = Jvm.exec) {pc q : Nat} {Ls : Array Slot} {st : List Value} {x : Int64} {v : Int32} (hd : decode c.code pc = .ok (.l2i, 1)) (hv : x.toInt32 = v) (hq : pc + 1 = q) (g : Go p e below Q (T.setTop (mkF m q Ls (.int v :: st)))) : Go p e below Q (T.setTop (mkF m pc Ls (.long x :: st))) := by
  subst hq hv; exact Go.of (fun _ r => XS.l2i h hx rfl hd rfl r) g
theorem Go.i2d (h : At T m c below) (hx : p.tables.exec = Jvm.exec) {pc q : Nat} {Ls : Array Slot} {st : List Value} {x : Int32} {v : UInt64} (hd : decode c.code pc = .ok (.i2d, 1)) (hv : FP.i2d x = v) (hq : pc + 1 = q) (g : Go p e below Q (T.setTop (mkF m q Ls (.double v :: st)))) : Go p e below Q (T.setTop (mkF m pc Ls (.int x :: st))) := by
  subst hq; exact Go.of (fun _ r => XS.i2dS h hx rfl hd rfl hv r) g
theorem Go.l2d (h : At T m c below) (hx : p.tables.exec = Jvm.exec) {pc q : Nat} {Ls : Array Slot} {st : List Value} {x : Int64} {v : UInt64} (hd : decode c.code pc = .ok (.l2d, 1)) (hv : FP.l2d x = v) (hq : pc + 1 = q) (g : Go p e below Q (T.setTop (mkF m q Ls (.double v :: st)))) : Go p e below Q (T.setTop (mkF m pc Ls (.long x :: st))) := by
  subst hq; exact Go.of (fun _ r => XS.l2dS h hx rfl hd rfl hv r) g
theorem Go.d2i (h : At T m c below) (hx : p.tables.exec = Jvm.exec) {pc q : Nat} {Ls : Array Slot} {st : List Value} {x : UInt64} {v : Int32} (hd : decode c.code pc = .ok (.d2i, 1)) (hv : FP.d2i x = v) (hq : pc + 1 = q) (g : Go p e below Q (T.setTop (mkF m q Ls (.int v :: st)))) : Go p e below Q (T.setTop (mkF m pc Ls (.double x :: st))) := by
  subst hq; exact Go.of (fun _ r => XS.d2iS h hx rfl hd rfl hv r) g
theorem Go.d2l (h : At T m c below) (hx : p.tables.exec = Jvm.exec) {pc q : Nat} {Ls : Array Slot} {st : List Value} {x : UInt64} {v : Int64} (hd : decode c.code pc = .ok (.d2l, 1)) (hv : FP.d2l x = v) (hq : pc + 1 = q) (g : Go p e below Q (T.setTop (mkF m q Ls (.long v :: st)))) : Go p e below Q (T.setTop (mkF m pc Ls (.double x :: st))) := by
  subst hq; exact Go.of (fun _ r => XS.d2lS h hx rfl hd rfl hv r) g
theorem Go.dneg (h : At T m c below) (hx : p.tables.exec = Jvm.exec) {pc q : Nat} {Ls : Array Slot} {st : List Value} {x : UInt64} {v : UInt64} (hd : decode c.code pc = .ok (.dneg, 1)) (hv : FP.dneg x = v) (hq : pc + 1 = q) (g : Go p e below Q (T.setTop (mkF m q Ls (.double v :: st)))) : Go p e below Q (T.setTop (mkF m pc Ls (.double x :: st))) := by
  subst hq; exact Go.of (fun _ r => XS.dnegS h hx rfl hd rfl hv r) g
theorem Go.i2f (h : At T m c below) (hx : p.tables.exec = Jvm.exec) {pc q : Nat} {Ls : Array Slot} {st : List Value} {x : Int32} {v : UInt32} (hd : decode c.code pc = .ok (.i2f, 1)) (hv : FP.i2f x = v) (hq : pc + 1 = q) (g : Go p e below Q (T.setTop (mkF m q Ls (.float v :: st)))) : Go p e below Q (T.setTop (mkF m pc Ls (.int x :: st))) := by
  subst hq; exact Go.of (fun _ r => XS.i2fS h hx rfl hd rfl hv r) g
theorem Go.l2f (h : At T m c below) (hx : p.tables.exec = Jvm.exec) {pc q : Nat} {Ls : Array Slot} {st : List Value} {x : Int64} {v : UInt32} (hd : decode c.code pc = .ok (.l2f, 1)) (hv : FP.l2f x = v) (hq : pc + 1 = q) (g : Go p e below Q (T.setTop (mkF m q Ls (.float v :: st)))) : Go p e below Q (T.setTop (mkF m pc Ls (.long x :: st))) := by
  subst hq; exact Go.of (fun _ r => XS.l2fS h hx rfl hd rfl hv r) g
theorem Go.dadd (h : At T m c below) (hx : p.tables.exec = Jvm.exec) {pc q : Nat} {Ls : Array Slot} {st : List Value} {x y v : UInt64} (hd : decode c.code pc = .ok (.dadd, 1)) (hn : NoNaN64 (FP.dadd x y)) (hv : FP.dadd x y = v) (hq : pc + 1 = q) (g : Go p e below Q (T.setTop (mkF m q Ls (.double v :: st)))) : Go p e below Q (T.setTop (mkF m pc Ls (.double y :: .double x :: st))) := by
  subst hq; exact Go.of (fun _ r => XS.daddS h hx rfl hd rfl hn hv r) g
theorem Go.dsub (h : At T m c below) (hx : p.tables.exec = Jvm.exec) {pc q : Nat} {Ls : Array Slot} {st : List Value} {x y v : UInt64} (hd : decode c.code pc = .ok (.dsub, 1)) (hn : NoNaN64 (FP.dsub x y)) (hv : FP.dsub x y = v) (hq : pc + 1 = q) (g : Go p e below Q (T.setTop (mkF m q Ls (.double v :: st)))) : Go p e below Q (T.setTop (mkF m pc Ls (.double y :: .double x :: st))) := by
  subst hq; exact Go.of (fun _ r => XS.dsubS h hx rfl hd rfl hn hv r) g
theorem Go.dmul (h : At T m c below) (hx : p.tables.exec = Jvm.exec) {pc q : Nat} {Ls : Array Slot} {st : List Value} {x y v : UInt64} (hd : decode c.code pc = .ok (.dmul, 1)) (hn : NoNaN64 (FP.dmul x y)) (hv : FP.dmul x y = v) (hq : pc + 1 = q) (g : Go p e below Q (T.setTop (mkF m q Ls (.double v :: st)))) : Go p e below Q (T.setTop (mkF m pc Ls (.double y :: .double x :: st))) := by
  subst hq; exact Go.of (fun _ r => XS.dmulS h hx rfl hd rfl hn hv r) g
theorem Go.ddiv (h : At T m c below) (hx : p.tables.exec = Jvm.exec) {pc q : Nat} {Ls : Array Slot} {st : List Value} {x y v : UInt64} (hd : decode c.code pc = .ok (.ddiv, 1)) (hn : NoNaN64 (FP.ddiv x y)) (hv : FP.ddiv x y = v) (hq : pc + 1 = q) (g : Go p e below Q (T.setTop (mkF m q Ls (.double v :: st)))) : Go p e below Q (T.setTop (mkF m pc Ls (.double y :: .double x :: st))) := by
  subst hq; exact Go.of (fun _ r => XS.ddivS h hx rfl hd rfl hn hv r) g
theorem Go.dcmp (h : At T m c below) (hx : p.tables.exec = Jvm.exec) {pc q : Nat} {Ls : Array Slot} {st : List Value} {o : CmpOp} {x y : UInt64} {v : Int32} (hd : decode c.code pc = .ok (.dcmp o, 1)) (hv : cmpValue (FP.dcmp x y) o = v) (hq : pc + 1 = q) (g : Go p e below Q (T.setTop (mkF m q Ls (.int v :: st)))) : Go p e below Q (T.setTop (mkF m pc Ls (.double y :: .double x :: st))) := by
  subst hq; exact Go.of (fun _ r => XS.dcmpS h hx rfl hd rfl hv r) g
theorem Go.fcmp (h : At T m c below) (hx : p.tables.exec = Jvm.exec) {pc q : Nat} {Ls : Array Slot} {st : List Value} {o : CmpOp} {x y : UInt32} {v : Int32} (hd : decode c.code pc = .ok (.fcmp o, 1)) (hv : cmpValue (FP.fcmp x y) o = v) (hq : pc + 1 = q) (g : Go p e below Q (T.setTop (mkF m q Ls (.int v :: st)))) : Go p e below Q (T.setTop (mkF m pc Ls (.float y :: .float x :: st))) := by
  subst hq; exact Go.of (fun _ r => XS.fcmpS h hx rfl hd rfl hv r) g
theorem Go.dup (h : At T m c below) (hx : p.tables.exec = Jvm.exec) {pc q : Nat} {Ls : Array Slot} {st : List Value} {v : Value} (hd : decode c.code pc = .ok (.dup, 1)) (hc : v.category = 1) (hq : pc + 1 = q) (g : Go p e below Q (T.setTop (mkF m q Ls (v :: v :: st)))) : Go p e below Q (T.setTop (mkF m pc Ls (v :: st))) := by
  subst hq; exact Go.of (fun _ r => XS.dup h hx rfl hd rfl hc r) g
theorem Go.dup2 (h : At T m c below) (hx : p.tables.exec = Jvm.exec) {pc q : Nat} {Ls : Array Slot} {st : List Value} {v w : Value} (hd : decode c.code pc = .ok (.dup2, 1)) (hc : v.category = 1) (hc2 : w.category = 1) (hq : pc + 1 = q) (g : Go p e below Q (T.setTop (mkF m q Ls (v :: w :: v :: w :: st)))) : Go p e below Q (T.setTop (mkF m pc Ls (v :: w :: st))) := by
  subst hq; exact Go.of (fun _ r => Jvm.Free.XT.dup2 h hx rfl hd rfl hc hc2 r) g
theorem Go.pop (h : At T m c below) (hx : p.tables.exec = Jvm.exec) {pc q : Nat} {Ls : Array Slot} {st : List Value} {v : Value} (hd : decode c.code pc = .ok (.pop, 1)) (hc : v.category = 1) (hq : pc + 1 = q) (g : Go p e below Q (T.setTop (mkF m q Ls st))) : Go p e below Q (T.setTop (mkF m pc Ls (v :: st))) := by
  subst hq; exact Go.of (fun _ r => XS.pop h hx rfl hd rfl hc r) g
theorem step_dup2x1 {tb : Tables} [Ours tb] {target : State} {g : JFrame} (h : At T m c below) (hx : tb.exec = Jvm.exec) (hg : g.method = m) {x : Int64} {b : Value} {rest : List Value} (hd : decode c.code g.pc = .ok (.dup2_x1, 1)) (hs : g.stack = .long x :: b :: rest) (hb : b.category = 1)
    (hr : Steps tb e below (T.setTop { g with pc := g.pc + 1, stack := .long x :: b :: .long x :: rest }) target) : Steps tb e below (T.setTop g) target := by
  subst hg
  jvm_step h [h.top, hx, hd, hs, hb, Value.category]
  exact ⟨hb, hr⟩
theorem Go.dup2x1 (h : At T m c below) (hx : p.tables.exec = Jvm.exec) {pc q : Nat} {Ls : Array Slot} {st : List Value} {x : Int64} {b : Value} (hd : decode c.code pc = .ok (.dup2_x1, 1)) (hb : b.category = 1) (hq : pc + 1 = q) (g : Go p e below Q (T.setTop (mkF m q Ls (.long x :: b :: .long x :: st)))) : Go p e below Q (T.setTop (mkF m pc Ls (.long x :: b :: st))) := by
  subst hq; exact Go.of (fun _ r => step_dup2x1 h hx rfl hd rfl hb r) g
theorem Go.iinc (h : At T m c below) (hx : p.tables.exec = Jvm.exec) {pc q : Nat} {Ls : Array Slot} {st : List Value} {k : Nat} {cst : Int} {x v : Int32} {l2 : Array Slot} (hd : decode c.code pc = .ok (.iinc k cst, 3)) (hl : Ls[k]? = some (.val (.int x))) (hv : x + Int32.ofInt cst = v) (hl2 : storeLocals Ls k (.int v) = some l2) (hq : pc + 3 = q) (g : Go p e below Q (T.setTop (mkF m q l2 st))) : Go p e below Q (T.setTop (mkF m pc Ls st)) := by
  subst hq hv; exact Go.of (fun _ r => XS.iinc h hx rfl hd hl hl2 r) g
theorem Go.goto (h : At T m c below) (hx : p.tables.exec = Jvm.exec) {pc q : Nat} {Ls : Array Slot} {st : List Value} {o : Int} (hd : decode c.code pc = .ok (.goto o, 3)) (ho : 0 ≤ (pc : Int) + o) (hq : ((pc : Int) + o).toNat = q) (g : Go p e below Q (T.setTop (mkF m q Ls st))) : Go p e below Q (T.setTop (mkF m pc Ls st)) := Go.of (fun _ r => XS.goto h hx rfl rfl hd ho hq r) g
theorem Go.ifY (h : At T m c below) (hx : p.tables.exec = Jvm.exec) {pc q : Nat} {Ls : Array Slot} {st : List Value} {cd : ClassFile.Cond} {x : Int32} {o : Int} (hd : decode c.code pc = .ok (.ifCond cd o, 3)) (hc : ifCond.holds cd x = true) (ho : 0 ≤ (pc : Int) + o) (hq : ((pc : Int) + o).toNat = q) (g : Go p e below Q (T.setTop (mkF m q Ls st))) : Go p e below Q (T.setTop (mkF m pc Ls (.int x :: st))) := Go.of (fun _ r => XS.ifYes h hx rfl rfl hd rfl hc ho hq r) g
theorem Go.ifN (h : At T m c below) (hx : p.tables.exec = Jvm.exec) {pc q : Nat} {Ls : Array Slot} {st : List Value} {cd : ClassFile.Cond} {x : Int32} {o : Int} (hd : decode c.code pc = .ok (.ifCond cd o, 3)) (hc : ifCond.holds cd x = false) (hq : pc + 3 = q) (g : Go p e below Q (T.setTop (mkF m q Ls st))) : Go p e below Q (T.setTop (mkF m pc Ls (.int x :: st))) := by
  subst hq; exact Go.of (fun _ r => XS.ifNo h hx rfl hd rfl hc r) g
theorem Go.icmpY (h : At T m c below) (hx : p.tables.exec = Jvm.exec) {pc q : Nat} {Ls : Array Slot} {st : List Value} {cd : ClassFile.Cond} {x y : Int32} {o : Int} (hd : decode c.code pc = .ok (.if_icmp cd o, 3)) (hc : if_icmp.holds cd x y = true) (ho : 0 ≤ (pc : Int) + o) (hq : ((pc : Int) + o).toNat = q) (g : Go p e below Q (T.setTop (mkF m q Ls st))) : Go p e below Q (T.setTop (mkF m pc Ls (.int y :: .int x :: st))) := Go.of (fun _ r => XS.icmpYes h hx rfl rfl hd rfl hc ho hq r) g
theorem Go.icmpN (h : At T m c below) (hx : p.tables.exec = Jvm.exec) {pc q : Nat} {Ls : Array Slot} {st : List Value} {cd : ClassFile.Cond} {x y : Int32} {o : Int} (hd : decode c.code pc = .ok (.if_icmp cd o, 3)) (hc : if_icmp.holds cd x y = false) (hq : pc + 3 = q) (g : Go p e below Q (T.setTop (mkF m q Ls st))) : Go p e below Q (T.setTop (mkF m pc Ls (.int y :: .int x :: st))) := by
  subst hq; exact Go.of (fun _ r => XS.icmpNo h hx rfl hd rfl hc r) g
theorem Go.acmpY (h : At T m c below) (hx : p.tables.exec = Jvm.exec) {pc q : Nat} {Ls : Array Slot} {st : List Value} {cd : ClassFile.ACond} {a b : Addr} {o : Int} (hd : decode c.code pc = .ok (.if_acmp cd o, 3)) (hc : if_acmp.holds cd (some a) (some b) = true) (ho : 0 ≤ (pc : Int) + o) (hq : ((pc : Int) + o).toNat = q) (g : Go p e below Q (T.setTop (mkF m q Ls st))) : Go p e below Q (T.setTop (mkF m pc Ls (.ref b :: .ref a :: st))) := Go.of (fun _ r => XS.acmpYes h hx rfl rfl hd rfl hc ho hq r) g
theorem Go.acmpN (h : At T m c below) (hx : p.tables.exec = Jvm.exec) {pc q : Nat} {Ls : Array Slot} {st : List Value} {cd : ClassFile.ACond} {a b : Addr} {o : Int} (hd : decode c.code pc = .ok (.if_acmp cd o, 3)) (hc : if_acmp.holds cd (some a) (some b) = false) (hq : pc + 3 = q) (g : Go p e below Q (T.setTop (mkF m q Ls st))) : Go p e below Q (T.setTop (mkF m pc Ls (.ref b :: .ref a :: st))) := by
  subst hq; exact Go.of (fun _ r => XS.acmpNo h hx rfl hd rfl hc r) g
theorem Go.nullY (h : At T m c below) (hx : p.tables.exec = Jvm.exec) {pc q : Nat} {Ls : Array Slot} {st : List Value} {o : Int} (hd : decode c.code pc = .ok (.ifnull o, 3)) (ho : 0 ≤ (pc : Int) + o) (hq : ((pc : Int) + o).toNat = q) (g : Go p e below Q (T.setTop (mkF m q Ls st))) : Go p e below Q (T.setTop (mkF m pc Ls (.null :: st))) := Go.of (fun _ r => XS.ifnullYes h hx rfl rfl hd rfl ho hq r) g
theorem Go.nullN (h : At T m c below) (hx : p.tables.exec = Jvm.exec) {pc q : Nat} {Ls : Array Slot} {st : List Value} {o : Int} {b : Addr} (hd : decode c.code pc = .ok (.ifnull o, 3)) (hq : pc + 3 = q) (g : Go p e below Q (T.setTop (mkF m q Ls st))) : Go p e below Q (T.setTop (mkF m pc Ls (.ref b :: st))) := by
  subst hq; exact Go.of (fun _ r => XS.ifnullNo h hx rfl hd rfl r) g
theorem Go.nonnullY (h : At T m c below) (hx : p.tables.exec = Jvm.exec) {pc q : Nat} {Ls : Array Slot} {st : List Value} {o : Int} {b : Addr} (hd : decode c.code pc = .ok (.ifnonnull o, 3)) (ho : 0 ≤ (pc : Int) + o) (hq : ((pc : Int) + o).toNat = q) (g : Go p e below Q (T.setTop (mkF m q Ls st))) : Go p e below Q (T.setTop (mkF m pc Ls (.ref b :: st))) := Go.of (fun _ r => XS.ifnonnullYes h hx rfl rfl hd rfl ho hq r) g
theorem Go.nonnullN (h : At T m c below) (hx : p.tables.exec = Jvm.exec) {pc q : Nat} {Ls : Array Slot} {st : List Value} {o : Int} (hd : decode c.code pc = .ok (.ifnonnull o, 3)) (hq : pc + 3 = q) (g : Go p e below Q (T.setTop (mkF m q Ls st))) : Go p e below Q (T.setTop (mkF m pc Ls (.null :: st))) := by
  subst hq; exact Go.of (fun _ r => XS.ifnonnullNo h hx rfl hd rfl r) g
theorem Go.ldcI (X : Stand p l e R s m args below meth c T locs cells slots) (hx : p.tables.exec = Jvm.exec) {own : String} {index : Nat} {v : Int32} (hown : s.vm.findClass own = some m.cls) (w : (Jvm.Cond.constant own index v).before args s = true) {pc q : Nat} {Ls : Array Slot} {st : List Value} (hd : decode c.code pc = .ok (.ldc index, 2)) (hq : pc + 2 = q) (g : Go p e below Q (T.setTop (mkF m q Ls (.int v :: st)))) : Go p e below Q (T.setTop (mkF m pc Ls st)) := by
  subst hq; exact Go.of (fun _ r => X.ldcInt hx hown w (g := mkF m pc Ls st) rfl hd _ r) g
theorem Go.ldc2J (X : Stand p l e R s m args below meth c T locs cells slots) (hx : p.tables.exec = Jvm.exec) {own : String} {index : Nat} {v : Int64} (hown : s.vm.findClass own = some m.cls) (w : (Jvm.Cond.constantLong own index v).before args s = true) {pc q : Nat} {Ls : Array Slot} {st : List Value} (hd : decode c.code pc = .ok (.ldc2_w index, 3)) (hq : pc + 3 = q) (g : Go p e below Q (T.setTop (mkF m q Ls (.long v :: st)))) : Go p e below Q (T.setTop (mkF m pc Ls st)) := by
  subst hq; exact Go.of (fun _ r => X.ldc2Long hx hown w (g := mkF m pc Ls st) rfl hd _ r) g
theorem Go.ldc2D (X : Stand p l e R s m args below meth c T locs cells slots) (hx : p.tables.exec = Jvm.exec) {own : String} {index : Nat} {v : UInt64} (hown : s.vm.findClass own = some m.cls) (w : (Jvm.Cond.constantDouble own index v).before args s = true) {pc q : Nat} {Ls : Array Slot} {st : List Value} (hd : decode c.code pc = .ok (.ldc2_w index, 3)) (hq : pc + 3 = q) (g : Go p e below Q (T.setTop (mkF m q Ls (.double v :: st)))) : Go p e below Q (T.setTop (mkF m pc Ls st)) := by
  subst hq; exact Go.of (fun _ r => X.ldc2DoubleC hx hown w (g := mkF m pc Ls st) rfl hd _ r) g
theorem Go.ldcF (X : Stand p l e R s m args below meth c T locs cells slots) (hx : p.tables.exec = Jvm.exec) {own : String} {index : Nat} {v : UInt32} (hown : s.vm.findClass own = some m.cls) (w : (Jvm.Cond.constantFloat own index v).before args s = true) {pc q : Nat} {Ls : Array Slot} {st : List Value} (hd : decode c.code pc = .ok (.ldc index, 2)) (hq : pc + 2 = q) (g : Go p e below Q (T.setTop (mkF m q Ls (.float v :: st)))) : Go p e below Q (T.setTop (mkF m pc Ls st)) := by
  subst hq; exact Go.of (fun _ r => X.ldcFloatC hx hown w (g := mkF m pc Ls st) rfl hd _ r) g
end OwnGo

/-! own layer 3: steps that touch the heap, and calls by contract, in the same forward form -/
section OwnHeap
variable {p : Program} {l : Launch} {e : Env} {R : Room} {s : State} {m : MethodId} {args : Array Value} {below : List Frame} {meth : Method} {c : Code} {T : State} {locs : List Loc} {cells slots : Nat} {Q : Outcome → State → Prop} {Z : State} {a0 : Array Value} {h : Heap}
/-- a callee's contract at one call -/
abbrev Con (l : Launch) (Z : State) (y : MethodName) (bytes : ByteArray) (maxL : Nat) (ret : Option FieldType) (rm : Room) (as' : Array Value) (h : Heap) (Qv : Option Value → Heap → List Loc → Prop) : Prop :=
  MetFree l y (head1 [Jvm.Cond.code y bytes maxL ret] rm) (fun a U => a = as' ∧ Z.Warmed39 U.vm ∧ U.heap = h) (fun _ _ _ _ _ => True) (fun _ U o U' => ∃ v L, o = .returned v ∧ Qv v U'.heap L ∧ FrameEnd U o U' L rm.cells rm.slots)
theorem Go.new (X : Stand p l e R s m args below meth c T locs cells slots) (hx : p.tables.exec = Jvm.exec) (hZ : Z.Warmed39 s.vm) {own C : String} {index n : Nat} (hown : s.vm.findClass own = some m.cls) (w : (Jvm.Cond.classLink own index C).before a0 Z = true) (wi : (Jvm.Cond.instantiable C n).before a0 Z = true) (wz : (Jvm.Cond.initialized C).before a0 Z = true) (eT : T.heap = h)
    {pc q : Nat} {Ls : Array Slot} {st : List Value} (hd : decode c.code pc = .ok (.new index, 3)) (hc : cells + 1 ≤ R.cells) (hl : slots + n ≤ R.slots) (hq : pc + 3 = q)
    (k : ∀ (T' : State) (h' : Heap) (a : Addr), a = h.size → Stand p l e R s m args below meth c T' locs (cells + 1) (slots + n) → T'.heap = h' → Ext h h' → Exa Z h' a C → (∀ {O nm d : String} {ty : FieldType}, Laid Z a0 C O nm d → parseFieldDescriptor d = some ty → Fld Z h' a O nm d (defaultValue ty)) →
      Go p e below Q (T'.setTop (mkF m q Ls (.ref a :: st)))) : Go p e below Q (T.setTop (mkF m pc Ls st)) := by
  subst hq
  obtain ⟨T', h', X', e', E', A', D', -, st'⟩ := newO X hx hZ hown w wi wz eT (g := mkF m pc Ls st) rfl hd hc hl
  exact Go.of st' (k T' h' _ rfl X' e' E' A' D')
theorem Go.getf (X : Stand p l e R s m args below meth c T locs cells slots) (hx : p.tables.exec = Jvm.exec) (hZ : Z.Warmed39 s.vm) {own O n d : String} {index : Nat} (hown : s.vm.findClass own = some m.cls) (w : (Jvm.Cond.fieldLink own index O n d).before a0 Z = true) (eT : T.heap = h) {a : Addr} {v : Value} (F : Fld Z h a O n d v)
    {pc q : Nat} {Ls : Array Slot} {st : List Value} (hd : decode c.code pc = .ok (.getfield index, 3)) (hq : pc + 3 = q)
    (k : ∀ T' : State, Stand p l e R s m args below meth c T' locs cells slots → T'.heap = h → Go p e below Q (T'.setTop (mkF m q Ls (v :: st)))) : Go p e below Q (T.setTop (mkF m pc Ls (.ref a :: st))) := by
  subst hq
  obtain ⟨T', X', e', st'⟩ := getF X hx hZ hown (host := "") (Or.inl w) Via.refl eT F (g := mkF m pc Ls (.ref a :: st)) rfl rfl hd
  exact Go.of st' (k T' X' e')
theorem Go.gets (X : Stand p l e R s m args below meth c T locs cells slots) (hx : p.tables.exec = Jvm.exec) (hZ : Z.Warmed39 s.vm) {own O n d : String} {index : Nat} (hown : s.vm.findClass own = some m.cls) (w : (Jvm.Cond.fieldLink own index O n d).before a0 Z = true) (eT : T.heap = h) {v : Value} (F : Sta Z h O n d v)
    {pc q : Nat} {Ls : Array Slot} {st : List Value} (hd : decode c.code pc = .ok (.getstatic index, 3)) (hq : pc + 3 = q)
    (k : ∀ T' : State, Stand p l e R s m args below meth c T' locs cells slots → T'.heap = h → Go p e below Q (T'.setTop (mkF m q Ls (v :: st)))) : Go p e below Q (T.setTop (mkF m pc Ls st)) := by
  subst hq
  obtain ⟨T', X', e', st'⟩ := getS X hx hZ hown (host := "") w Via.refl eT F (g := mkF m pc Ls st) rfl hd
  exact Go.of st' (k T' X' e')
theorem Go.putf (X : Stand p l e R s m args below meth c T locs cells slots) (hx : p.tables.exec = Jvm.exec) (hZ : Z.Warmed39 s.vm) {own O n d C : String} {index kk : Nat} {ty : FieldType} (hown : s.vm.findClass own = some m.cls) (w : (Jvm.Cond.fieldLink own index O n d).before a0 Z = true) (eT : T.heap = h) {a : Addr} {v old : Value} (F : Fld Z h a O n d old) (E : Exa Z h a C)
    (L : (Jvm.Cond.lays C O n d).before a0 Z = true ∨ ((Jvm.Cond.laysFinal C O n d).before a0 Z = true ∧ own = O ∧ meth.name = "<init>")) (wi : (Jvm.Cond.instantiable C kk).before a0 Z = true) (hty : parseFieldDescriptor d = some ty) (hn : narrow ty v = v) (hf : fits ty v = true)
    {pc q : Nat} {Ls : Array Slot} {st : List Value} (hd : decode c.code pc = .ok (.putfield index, 3)) (hq : pc + 3 = q)
    (k : ∀ (T' : State) (h' : Heap), Stand p l e R s m args below meth c T' (locs ++ [⟨a, Jvm.RoadKit.slotOf Z O n d⟩]) cells slots → T'.heap = h' → Wr h h' a (Jvm.RoadKit.slotOf Z O n d) v → Go p e below Q (T'.setTop (mkF m q Ls st))) : Go p e below Q (T.setTop (mkF m pc Ls (v :: .ref a :: st))) := by
  subst hq
  obtain ⟨T', h', X', e', W', st'⟩ := putF X hx hZ hown (host := "") (Or.inl w) Via.refl eT F E L wi hty hn hf (g := mkF m pc Ls (v :: .ref a :: st)) rfl rfl hd
  exact Go.of st' (k T' h' X' e' W')
theorem Go.init (X : Stand p l e R s m args below meth c T locs cells slots) (hx : p.tables.exec = Jvm.exec) (hZ : Z.Warmed39 s.vm) {own : String} {index : Nat} (hown : s.vm.findClass own = some m.cls) (w1 : (Jvm.Cond.methodLink own index Lib.objectInit).before a0 Z = true) (w2 : (Jvm.Cond.instanceMethod Lib.objectInit).before a0 Z = true) (w3 : (Jvm.Cond.code Lib.objectInit ⟨#[0xb1]⟩ 1 none).before a0 Z = true) (eT : T.heap = h)
    {pc q : Nat} {Ls : Array Slot} {st : List Value} {a : Addr} {W : Nat} (hd : decode c.code pc = .ok (.invokespecial index, 3)) (hsz : Ls.size = c.maxLocals) (hf : 1 ≤ R.frames) (hW : (st.map fun v => v.category).sum ≤ W) (hl : W + 12 ≤ R.locals) (hq : pc + 3 = q)
    (k : ∀ T' : State, Stand p l e R s m args below meth c T' locs cells slots → T'.heap = h → Go p e below Q (T'.setTop (mkF m q Ls st))) : Go p e below Q (T.setTop (mkF m pc Ls (.ref a :: st))) := by
  subst hq
  obtain ⟨T', X', e', st'⟩ := initO X hx hZ hown w1 w2 w3 eT (g := mkF m pc Ls (.ref a :: st)) rfl hsz rfl hd hf (W := W) (by show 2 * 0 + _ ≤ _; omega) hl
  exact Go.of st' (k T' X' e')
theorem Go.special (X : Stand p l e R s m args below meth c T locs cells slots) (hx : p.tables.exec = Jvm.exec) (hZ : Z.Warmed39 s.vm) {own : String} {index : Nat} {y : MethodName} (hy1 : y.name = "<init>") (hown : s.vm.findClass own = some m.cls) (w1 : (Jvm.Cond.methodLink own index y).before a0 Z = true) (w2 : (Jvm.Cond.instanceMethod y).before a0 Z = true)
    {bytes : ByteArray} {maxL : Nat} (w3 : (Jvm.Cond.code y bytes maxL none).before a0 Z = true) (wz : (Jvm.Cond.initialized y.cls).before a0 Z = true) (hy : y.cls ≠ "java/lang/invoke/MethodHandle" ∧ y.cls ≠ "java/lang/invoke/VarHandle")
    {rm : Room} {as' : Array Value} {Qv : Option Value → Heap → List Loc → Prop} (hM : Con l Z y bytes maxL none rm as' h Qv) (eT : T.heap = h) {pc q : Nat} {Ls : Array Slot} {st : List Value} {a : Addr} {argsL rest : List Value} {W : Nat} (hd : decode c.code pc = .ok (.invokespecial index, 3))
    (hst : st = argsL.reverse ++ .ref a :: rest) (has : as' = (.ref a :: argsL).toArray) (hlen : ∀ sig, parseMethodDescriptor y.desc = some sig → argsL.length = sig.parameters.length) (hsz : Ls.size = c.maxLocals) (hW : (rest.map fun v => v.category).sum ≤ W)
    (hf : rm.frames + 1 ≤ R.frames) (hl : W + (maxL + 11) + rm.locals ≤ R.locals) (hc : cells + rm.cells ≤ R.cells) (hs : slots + rm.slots ≤ R.slots) (hq : pc + 3 = q)
    (k : ∀ (T' : State) (L : List Loc) (v : Option Value), Stand p l e R s m args below meth c T' (locs ++ L) (cells + rm.cells) (slots + rm.slots) → Qv v T'.heap L → Go p e below Q (T'.setTop (mkF m q Ls (v.toList ++ rest)))) : Go p e below Q (T.setTop (mkF m pc Ls st)) := by
  subst hq hst has
  obtain ⟨v, vm₁, ⟨T', L', k', n'⟩, -, X', ⟨Lc, hQ, l1, y1, z1⟩, st'⟩ := X.specialBack hx (y := y) hy1 hown (mvT hZ w1) (mvT hZ w2) (mvT hZ w3) hy (backOf (W := W) hM hZ w3 wz hf hl) (g := mkF m pc Ls (argsL.reverse ++ .ref a :: rest)) rfl hsz (Steps.refl _) (a := a) (argsL := argsL) (rest := rest) hlen rfl (by show 2 * 0 + _ ≤ _; omega) hd (fun _ _ => ⟨rfl, eT, hc, hs⟩)
  dsimp only [Pt.U, Pt.locs, Pt.cells, Pt.slots] at X' l1 y1 z1 st' hQ
  subst l1 y1 z1
  exact Go.tr st' (k T' Lc v X' hQ)
theorem Go.virtual (X : Stand p l e R s m args below meth c T locs cells slots) (hx : p.tables.exec = Jvm.exec) (hZ : Z.Warmed39 s.vm) {own C : String} {index : Nat} {y : MethodName} (hown : s.vm.findClass own = some m.cls) (w1 : (Jvm.Cond.methodLink own index y).before a0 Z = true) (w2 : (Jvm.Cond.declares y).before a0 Z = true) (w3 : (Jvm.Cond.selects C y y).before a0 Z = true) (w4 : (Jvm.Cond.instanceMethod y).before a0 Z = true)
    {bytes : ByteArray} {maxL : Nat} {ret : Option FieldType} (w5 : (Jvm.Cond.code y bytes maxL ret).before a0 Z = true) (wz : (Jvm.Cond.initialized y.cls).before a0 Z = true) (hy : y.cls ≠ "java/lang/invoke/MethodHandle" ∧ y.cls ≠ "java/lang/invoke/VarHandle")
    {rm : Room} {as' : Array Value} {Qv : Option Value → Heap → List Loc → Prop} (hM : Con l Z y bytes maxL ret rm as' h Qv) (eT : T.heap = h) {a : Addr} (E : Exa Z h a C) {pc q : Nat} {Ls : Array Slot} {st : List Value} {argsL rest : List Value} {W : Nat} (hd : decode c.code pc = .ok (.invokevirtual index, 3))
    (hst : st = argsL.reverse ++ .ref a :: rest) (has : as' = (.ref a :: argsL).toArray) (hlen : ∀ sig, parseMethodDescriptor y.desc = some sig → argsL.length = sig.parameters.length) (hsz : Ls.size = c.maxLocals) (hW : (rest.map fun v => v.category).sum ≤ W)
    (hf : rm.frames + 1 ≤ R.frames) (hl : W + (maxL + 11) + rm.locals ≤ R.locals) (hc : cells + rm.cells ≤ R.cells) (hs : slots + rm.slots ≤ R.slots) (hq : pc + 3 = q)
    (k : ∀ (T' : State) (L : List Loc) (v : Option Value), Stand p l e R s m args below meth c T' (locs ++ L) (cells + rm.cells) (slots + rm.slots) → Qv v T'.heap L → Go p e below Q (T'.setTop (mkF m q Ls (v.toList ++ rest)))) : Go p e below Q (T.setTop (mkF m pc Ls st)) := by
  subst hq hst has
  obtain ⟨cq, kq, qa, -, qc⟩ := isOf hZ eT E
  obtain ⟨v, vm₁, ⟨T', L', k', n'⟩, -, X', ⟨Lc, hQ, l1, y1, z1⟩, st'⟩ := X.virtualBack hx (y := y) (z := y) hown (mvT hZ w1) (mvT hZ w2) (notFace_of_selects (args := #[]) (mvT hZ w3)) (mvT hZ w3) (mvT hZ w4) hy (backOf (W := W) hM hZ w5 wz hf hl) qa qc (g := mkF m pc Ls (argsL.reverse ++ .ref a :: rest)) rfl hsz (Steps.refl _) (argsL := argsL) (rest := rest) hlen rfl (by show 2 * 0 + _ ≤ _; omega) hd (fun _ _ => ⟨rfl, eT, hc, hs⟩)
  dsimp only [Pt.U, Pt.locs, Pt.cells, Pt.slots] at X' l1 y1 z1 st' hQ
  subst l1 y1 z1
  exact Go.tr st' (k T' Lc v X' hQ)
theorem Go.static (X : Stand p l e R s m args below meth c T locs cells slots) (hx : p.tables.exec = Jvm.exec) (hZ : Z.Warmed39 s.vm) {own : String} {index : Nat} {y : MethodName} (hown : s.vm.findClass own = some m.cls) (w1 : (Jvm.Cond.methodLink own index y).before a0 Z = true) (w2 : (Jvm.Cond.static y).before a0 Z = true)
    {bytes : ByteArray} {maxL : Nat} {ret : Option FieldType} (w3 : (Jvm.Cond.code y bytes maxL ret).before a0 Z = true) (wz : (Jvm.Cond.initialized y.cls).before a0 Z = true) (hy : y.cls ≠ "java/lang/invoke/MethodHandle" ∧ y.cls ≠ "java/lang/invoke/VarHandle")
    {rm : Room} {as' : Array Value} {Qv : Option Value → Heap → List Loc → Prop} (hM : Con l Z y bytes maxL ret rm as' h Qv) (eT : T.heap = h) {pc q : Nat} {Ls : Array Slot} {st : List Value} {argsL rest : List Value} {W : Nat} (hd : decode c.code pc = .ok (.invokestatic index, 3))
    (hst : st = argsL.reverse ++ rest) (has : as' = argsL.toArray) (hlen : ∀ sig, parseMethodDescriptor y.desc = some sig → argsL.length = sig.parameters.length) (hsz : Ls.size = c.maxLocals) (hW : (rest.map fun v => v.category).sum ≤ W)
    (hf : rm.frames + 1 ≤ R.frames) (hl : W + (maxL + 11) + rm.locals ≤ R.locals) (hc : cells + rm.cells ≤ R.cells) (hs : slots + rm.slots ≤ R.slots) (hq : pc + 3 = q)
    (k : ∀ (T' : State) (L : List Loc) (v : Option Value), Stand p l e R s m args below meth c T' (locs ++ L) (cells + rm.cells) (slots + rm.slots) → Qv v T'.heap L → Go p e below Q (T'.setTop (mkF m q Ls (v.toList ++ rest)))) : Go p e below Q (T.setTop (mkF m pc Ls st)) := by
  subst hq hst has
  obtain ⟨v, vm₁, ⟨T', L', k', n'⟩, -, X', ⟨Lc, hQ, l1, y1, z1⟩, st'⟩ := Jvm.LawKit.callS X hx (y := y) hown (mvT hZ w1) (mvT hZ w2) (mvT hZ wz) (mvT hZ w3) hy (backOf (W := W) hM hZ w3 wz hf hl) (g := mkF m pc Ls (argsL.reverse ++ rest)) rfl hsz (argsL := argsL) (rest := rest) hlen rfl (by show 2 * 0 + _ ≤ _; omega) hd (fun _ _ => ⟨rfl, eT, hc, hs⟩)
  dsimp only [Pt.U, Pt.locs, Pt.cells, Pt.slots] at X' l1 y1 z1 st' hQ
  subst l1 y1 z1
  exact Go.of st' (k T' Lc v X' hQ)
/-- a static call that a payer of the library answers, and that leaves all as it was -/
theorem Go.nat (X : Stand p l e R s m args below meth c T locs cells slots) (hx : p.tables.exec = Jvm.exec) (hZ : Z.Warmed39 s.vm) {own : String} {index : Nat} {y : MethodName} (hown : s.vm.findClass own = some m.cls) (w1 : (Jvm.Cond.methodLink own index y).before a0 Z = true) (w2 : (Jvm.Cond.static y).before a0 Z = true) (w3 : (Jvm.Cond.initialized y.cls).before a0 Z = true)
    {by0 : ByteArray} {ml : Nat} {rt : Option FieldType} (w4 : (Jvm.Cond.code y by0 ml rt).before a0 Z = true) (hy : y.cls ≠ "java/lang/invoke/MethodHandle" ∧ y.cls ≠ "java/lang/invoke/VarHandle") (eT : T.heap = h) {W : Nat} {F : Array Value → Prop} {val : Value}
    (hK : (Jvm.Cond.code y by0 ml rt).before args s = true → Back l R p e below s args y 3 W (fun A a' => A.cells ≤ R.cells ∧ A.slots ≤ R.slots ∧ F a') (fun A _ v B => v = some val ∧ B = A))
    {pc q : Nat} {Ls : Array Slot} {st : List Value} {argsL rest : List Value} (hd : decode c.code pc = .ok (.invokestatic index, 3)) (hst : st = argsL.reverse ++ rest) (hlen : ∀ sig, parseMethodDescriptor y.desc = some sig → argsL.length = sig.parameters.length) (hsz : Ls.size = c.maxLocals) (hW : (rest.map fun v => v.category).sum ≤ W)
    (hc : cells ≤ R.cells) (hs : slots ≤ R.slots) (hF : F argsL.toArray) (hq : pc + 3 = q)
    (k : ∀ T' : State, Stand p l e R s m args below meth c T' locs cells slots → T'.heap = h → Go p e below Q (T'.setTop (mkF m q Ls (val :: rest)))) : Go p e below Q (T.setTop (mkF m pc Ls st)) := by
  subst hq hst
  obtain ⟨T', X', e', st'⟩ := natS X hx hZ hown w1 w2 w3 w4 hy eT hK (g := mkF m pc Ls (argsL.reverse ++ rest)) rfl hsz hlen rfl (by show 2 * 0 + _ ≤ _; omega) hd hc hs hF rfl
  exact Go.of st' (k T' X' e')
/-! words of the sheet by their place -/
theorem word {ts : List Jvm.Cond} (hw : ∀ d ∈ ts, d.before a0 Z = true) {d : Jvm.Cond} (i : Nat) (hi : ts[i]? = some d) : d.before a0 Z = true := hw _ (List.mem_of_getElem? hi)
end OwnHeap
/-! own layer 4: arrays of known contents -/
section OwnArr
variable {p : Program} {l : Launch} {e : Env} {R : Room} {s : State} {m : MethodId} {args : Array Value} {below : List Frame} {meth : Method} {c : Code} {T : State} {locs : List Loc} {cells slots : Nat} {Q : Outcome → State → Prop} {Z : State} {a0 : Array Value} {h h' : Heap}
/-- the array at a: its component type, its class, its contents -/
def Row (Z : State) (h : Heap) (a : Addr) (ty : FieldType) (k : ClassId) (vs : List Value) : Prop := ∃ cl : Cell, Arr Z h a cl ty ∧ cl.cls = k ∧ cl.slots = vs.toArray
theorem Row.lt {a : Addr} {ty : FieldType} {k : ClassId} {vs : List Value} (F : Row Z h a ty k vs) : a < h.size := by obtain ⟨cl, A, -⟩ := F; exact A.lt
theorem Row.ext {a : Addr} {ty : FieldType} {k : ClassId} {vs : List Value} (F : Row Z h a ty k vs) (E : Ext h h') : Row Z h' a ty k vs := by obtain ⟨cl, A, r⟩ := F; exact ⟨cl, A.ext E, r⟩
theorem Row.other {a b : Addr} {ty : FieldType} {k : ClassId} {vs : List Value} {sl : Nat} {v : Value} (F : Row Z h b ty k vs) (W : Wr h h' a sl v) (hne : b ≠ a) : Row Z h' b ty k vs := by obtain ⟨cl, A, r⟩ := F; exact ⟨cl, A.other W hne, r⟩
theorem Row.keep {a : Addr} {ty : FieldType} {k : ClassId} {vs : List Value} {ws : List Addr} (F : Row Z h a ty k vs) (K : Keep h h' ws) (hn : a ∉ ws) : Row Z h' a ty k vs := by obtain ⟨cl, A, r⟩ := F; exact ⟨cl, ⟨K.2.1 _ _ A.1 hn, A.2⟩, r⟩
theorem Row.set {a : Addr} {ty : FieldType} {k : ClassId} {vs : List Value} {i : Nat} {v : Value} (F : Row Z h a ty k vs) (W : Wr h h' a i v) : Row Z h' a ty k (vs.set i v) := by
  obtain ⟨cl, A, q1, q2⟩ := F
  refine ⟨cl.setSlot i v, A.same W, q1, ?_⟩
  show cl.slots.setIfInBounds i v = _
  rw [q2]; simp
theorem Row.inb {vs : List Value} {cl : Cell} (q : cl.slots = vs.toArray) {j : Int32} {i : Nat} {v : Value} (hj : j.toNatClampNeg = i) (hj0 : ¬ j < 0) (hv : vs[i]? = some v) : ¬ (j < 0 ∨ cl.slots.size ≤ j.toNatClampNeg) := by
  obtain ⟨hi, -⟩ := List.getElem?_eq_some_iff.mp hv
  have : cl.slots.size = vs.length := by rw [q]; simp
  rintro (z | z)
  · exact hj0 z
  · omega
theorem Row.getv {vs : List Value} {cl : Cell} (q : cl.slots = vs.toArray) {j : Int32} {i : Nat} {v : Value} (hj : j.toNatClampNeg = i) (hv : vs[i]? = some v) : cl.slots[j.toNatClampNeg]? = some v := by
  rw [q, hj]; simpa using hv
theorem Go.newarr (X : Stand p l e R s m args below meth c T locs cells slots) (hx : p.tables.exec = Jvm.exec) (hZ : Z.Warmed39 s.vm) {aty : ArrayType} (w : (Jvm.Cond.arrayClass (newarray.typeOf aty)).before a0 Z = true) (eT : T.heap = h)
    {pc q : Nat} {Ls : Array Slot} {st : List Value} {n : Int32} {k : Nat} (hd : decode c.code pc = .ok (.newarray aty, 2)) (hn0 : ¬ n < 0) (hn : n.toNatClampNeg = k) (hb : k * 8 ≤ 536870912) (hc : cells + 1 ≤ R.cells) (hl : slots + k ≤ R.slots) {ad : String} (had : "[" ++ (newarray.typeOf aty).toString = ad) (hq : pc + 2 = q)
    (cont : ∀ (T' : State) (h' : Heap) (a : Addr) (kk : ClassId), a = h.size → Stand p l e R s m args below meth c T' locs (cells + 1) (slots + k) → T'.heap = h' → Ext h h' → Row Z h' a (newarray.typeOf aty) kk (List.replicate k (defaultValue (newarray.typeOf aty))) → Exa Z h' a ad →
      Go p e below Q (T'.setTop (mkF m q Ls (.ref a :: st)))) : Go p e below Q (T.setTop (mkF m pc Ls (.int n :: st))) := by
  subst hq hn
  obtain ⟨T', h', cA, X', e', E', A', D', st'⟩ := newPE X hx hZ w eT (g := mkF m pc Ls (.int n :: st)) rfl hd rfl hn0 (cap := n.toNatClampNeg) (Nat.le_refl _) hb hc hl had
  exact Go.of st' (cont T' h' _ cA rfl X' e' E' ⟨_, A', rfl, by simp [newA]⟩ D')
theorem Go.newobjs (X : Stand p l e R s m args below meth c T locs cells slots) (hx : p.tables.exec = Jvm.exec) (hZ : Z.Warmed39 s.vm) {own C : String} {index : Nat} (hown : s.vm.findClass own = some m.cls) (w1 : (Jvm.Cond.classLink own index C).before a0 Z = true) (w2 : (Jvm.Cond.arrayOver (.object C)).before a0 Z = true) (eT : T.heap = h)
    {pc q : Nat} {Ls : Array Slot} {st : List Value} {n : Int32} {k : Nat} (hd : decode c.code pc = .ok (.anewarray index, 3)) (hn0 : ¬ n < 0) (hn : n.toNatClampNeg = k) (hb : k * 8 ≤ 536870912) (hc : cells + 1 ≤ R.cells) (hl : slots + k ≤ R.slots) {ad : String} (had : "[" ++ (FieldType.object C).toString = ad) (hq : pc + 3 = q)
    (cont : ∀ (T' : State) (h' : Heap) (a : Addr) (kk : ClassId), a = h.size → Stand p l e R s m args below meth c T' locs (cells + 1) (slots + k) → T'.heap = h' → Ext h h' → Row Z h' a (.object C) kk (List.replicate k .null) → Ovr Z kk C → Exa Z h' a ad →
      Go p e below Q (T'.setTop (mkF m q Ls (.ref a :: st)))) : Go p e below Q (T.setTop (mkF m pc Ls (.int n :: st))) := by
  subst hq hn
  obtain ⟨T', h', cA, X', e', E', A', D', O', st'⟩ := newRE X hx hZ hown w1 w2 eT (g := mkF m pc Ls (.int n :: st)) rfl hd rfl hn0 (cap := n.toNatClampNeg) (Nat.le_refl _) hb hc hl had
  exact Go.of st' (cont T' h' _ cA rfl X' e' E' ⟨_, A', rfl, by simp [newA, defaultValue]⟩ O' D')
theorem Go.alen (X : Stand p l e R s m args below meth c T locs cells slots) (hx : p.tables.exec = Jvm.exec) (hZ : Z.Warmed39 s.vm) (eT : T.heap = h) {a : Addr} {ty : FieldType} {k : ClassId} {vs : List Value} (F : Row Z h a ty k vs)
    {pc q : Nat} {Ls : Array Slot} {st : List Value} {n : Int32} (hd : decode c.code pc = .ok (.arraylength, 1)) (hn : vs.length.toInt32 = n) (hq : pc + 1 = q) (g : Go p e below Q (T.setTop (mkF m q Ls (.int n :: st)))) : Go p e below Q (T.setTop (mkF m pc Ls (.ref a :: st))) := by
  subst hq hn
  obtain ⟨cl, A, -, q2⟩ := F
  refine Go.of (fun t r => X.arraylength hx (by rw [eT]; exact A.1) (State.isArrayOf_alike hZ.alike A.2.1) (g := mkF m pc Ls (.ref a :: st)) rfl rfl hd t ?_) g
  rw [q2]; simpa using r
theorem Go.daload (X : Stand p l e R s m args below meth c T locs cells slots) (hx : p.tables.exec = Jvm.exec) (hZ : Z.Warmed39 s.vm) (eT : T.heap = h) {a : Addr} {k : ClassId} {vs : List Value} (F : Row Z h a .double k vs)
    {pc q : Nat} {Ls : Array Slot} {st : List Value} {j : Int32} {i : Nat} {v : Value} (hd : decode c.code pc = .ok (.daload, 1)) (hj : j.toNatClampNeg = i) (hj0 : ¬ j < 0) (hv : vs[i]? = some v) (hq : pc + 1 = q) (g : Go p e below Q (T.setTop (mkF m q Ls (v :: st)))) : Go p e below Q (T.setTop (mkF m pc Ls (.int j :: .ref a :: st))) := by
  subst hq
  obtain ⟨cl, A, -, q2⟩ := F
  exact Go.of (fun t r => X.daload hx (by rw [eT]; exact A.1) (State.isArrayOf_alike hZ.alike A.2.1) A.2.2 (Row.inb q2 hj hj0 hv) (Row.getv q2 hj hv) (g := mkF m pc Ls (.int j :: .ref a :: st)) rfl rfl hd t r) g
theorem Go.faload (X : Stand p l e R s m args below meth c T locs cells slots) (hx : p.tables.exec = Jvm.exec) (hZ : Z.Warmed39 s.vm) (eT : T.heap = h) {a : Addr} {k : ClassId} {vs : List Value} (F : Row Z h a .float k vs)
    {pc q : Nat} {Ls : Array Slot} {st : List Value} {j : Int32} {i : Nat} {v : Value} (hd : decode c.code pc = .ok (.faload, 1)) (hj : j.toNatClampNeg = i) (hj0 : ¬ j < 0) (hv : vs[i]? = some v) (hq : pc + 1 = q) (g : Go p e below Q (T.setTop (mkF m q Ls (v :: st)))) : Go p e below Q (T.setTop (mkF m pc Ls (.int j :: .ref a :: st))) := by
  subst hq
  obtain ⟨cl, A, -, q2⟩ := F
  exact Go.of (fun t r => X.faload hx (by rw [eT]; exact A.1) (State.isArrayOf_alike hZ.alike A.2.1) A.2.2 (Row.inb q2 hj hj0 hv) (Row.getv q2 hj hv) (g := mkF m pc Ls (.int j :: .ref a :: st)) rfl rfl hd t r) g
theorem Go.aaload (X : Stand p l e R s m args below meth c T locs cells slots) (hx : p.tables.exec = Jvm.exec) (hZ : Z.Warmed39 s.vm) (eT : T.heap = h) {a : Addr} {ty : FieldType} {k : ClassId} {vs : List Value} (F : Row Z h a ty k vs) (hty : ty.isReference = true)
    {pc q : Nat} {Ls : Array Slot} {st : List Value} {j : Int32} {i : Nat} {v : Value} (hd : decode c.code pc = .ok (.aaload, 1)) (hj : j.toNatClampNeg = i) (hj0 : ¬ j < 0) (hv : vs[i]? = some v) (hq : pc + 1 = q) (g : Go p e below Q (T.setTop (mkF m q Ls (v :: st)))) : Go p e below Q (T.setTop (mkF m pc Ls (.int j :: .ref a :: st))) := by
  subst hq
  obtain ⟨cl, A, -, q2⟩ := F
  exact Go.of (fun t r => X.aaload hx (by rw [eT]; exact A.1) (State.isArrayOf_alike hZ.alike A.2.1) hty A.2.2 (Row.inb q2 hj hj0 hv) (Row.getv q2 hj hv) (g := mkF m pc Ls (.int j :: .ref a :: st)) rfl rfl hd t r) g
theorem Go.dastore (X : Stand p l e R s m args below meth c T locs cells slots) (hx : p.tables.exec = Jvm.exec) (hZ : Z.Warmed39 s.vm) (eT : T.heap = h) {a : Addr} {k : ClassId} {vs : List Value} (F : Row Z h a .double k vs)
    {pc q : Nat} {Ls : Array Slot} {st : List Value} {j : Int32} {i : Nat} {x : UInt64} {o : Value} (hd : decode c.code pc = .ok (.dastore, 1)) (hj : j.toNatClampNeg = i) (hj0 : ¬ j < 0) (hv : vs[i]? = some o) (hq : pc + 1 = q)
    (cont : ∀ (T' : State) (h' : Heap), Stand p l e R s m args below meth c T' (locs ++ [⟨a, i⟩]) cells slots → T'.heap = h' → Wr h h' a i (.double x) → Row Z h' a .double k (vs.set i (.double x)) → Go p e below Q (T'.setTop (mkF m q Ls st))) : Go p e below Q (T.setTop (mkF m pc Ls (.double x :: .int j :: .ref a :: st))) := by
  subst hq hj
  have F0 := F
  obtain ⟨cl, A, -, q2⟩ := F
  obtain ⟨T', h', X', e', W', st'⟩ := stD X hx hZ eT A (x := x) (Row.inb q2 rfl hj0 hv) (g := mkF m pc Ls (.double x :: .int j :: .ref a :: st)) rfl rfl hd
  exact Go.of st' (cont T' h' X' e' W' (F0.set W'))
theorem Go.aastore (X : Stand p l e R s m args below meth c T locs cells slots) (hx : p.tables.exec = Jvm.exec) (hZ : Z.Warmed39 s.vm) (eT : T.heap = h) {a : Addr} {ty : FieldType} {k : ClassId} {vs : List Value} (F : Row Z h a ty k vs) (hty : ty.isReference = true) {C : String} (O : Ovr Z k C) {b : Addr} (I : Ins Z h b C true)
    {pc q : Nat} {Ls : Array Slot} {st : List Value} {j : Int32} {i : Nat} {o : Value} (hd : decode c.code pc = .ok (.aastore, 1)) (hj : j.toNatClampNeg = i) (hj0 : ¬ j < 0) (hv : vs[i]? = some o) (hq : pc + 1 = q)
    (cont : ∀ (T' : State) (h' : Heap), Stand p l e R s m args below meth c T' (locs ++ [⟨a, i⟩]) cells slots → T'.heap = h' → Wr h h' a i (.ref b) → Row Z h' a ty k (vs.set i (.ref b)) → Go p e below Q (T'.setTop (mkF m q Ls st))) : Go p e below Q (T.setTop (mkF m pc Ls (.ref b :: .int j :: .ref a :: st))) := by
  subst hq hj
  have F0 := F
  obtain ⟨cl, A, q1, q2⟩ := F
  obtain ⟨T', h', X', e', W', st'⟩ := stR X hx hZ eT A (v := .ref b) (Row.inb q2 rfl hj0 hv) hty (Sto.of A (q1 ▸ O) I) (g := mkF m pc Ls (.ref b :: .int j :: .ref a :: st)) rfl rfl hd
  exact Go.of st' (cont T' h' X' e' W' (F0.set W'))
theorem Go.cast (X : Stand p l e R s m args below meth c T locs cells slots) (hx : p.tables.exec = Jvm.exec) (hZ : Z.Warmed39 s.vm) {own K : String} {index : Nat} (hown : s.vm.findClass own = some m.cls) (w : (Jvm.Cond.classLink own index K).before a0 Z = true) (eT : T.heap = h) {a : Addr} (F : Ins Z h a K true)
    {pc q : Nat} {Ls : Array Slot} {st : List Value} (hd : decode c.code pc = .ok (.checkcast index, 3)) (hq : pc + 3 = q)
    (k : ∀ T' : State, Stand p l e R s m args below meth c T' locs cells slots → T'.heap = h → Go p e below Q (T'.setTop (mkF m q Ls (.ref a :: st)))) : Go p e below Q (T.setTop (mkF m pc Ls (.ref a :: st))) := by
  subst hq
  obtain ⟨T', X', e', st'⟩ := castY X hx hZ hown w eT F (g := mkF m pc Ls (.ref a :: st)) rfl rfl hd
  exact Go.of st' (k T' X' e')
theorem Go.clone (X : Stand p l e R s m args below meth c T locs cells slots) (hx : p.tables.exec = Jvm.exec) (hZ : Z.Warmed39 s.vm) {own ad : String} {index : Nat} (hown : s.vm.findClass own = some m.cls)
    (w1 : (Jvm.Cond.methodLink own index ⟨ad, "clone", "()Ljava/lang/Object;"⟩).before a0 Z = true) (w2 : (Jvm.Cond.sameMethod ad "java/lang/Object" "clone" "()Ljava/lang/Object;").before a0 Z = true) (w3 : (Jvm.Cond.native ⟨"java/lang/Object", "clone", "()Ljava/lang/Object;"⟩).before a0 Z = true)
    (w4 : (Jvm.Cond.instanceMethod ⟨"java/lang/Object", "clone", "()Ljava/lang/Object;"⟩).before a0 Z = true) (w5 : (Jvm.Cond.selects ad ⟨ad, "clone", "()Ljava/lang/Object;"⟩ ⟨"java/lang/Object", "clone", "()Ljava/lang/Object;"⟩).before a0 Z = true) (w6 : (Jvm.Cond.castable ad "java/lang/Cloneable").before a0 Z = true)
    (eT : T.heap = h) {a : Addr} {ty : FieldType} {kc : ClassId} {vs : List Value} (F : Row Z h a ty kc vs) (E : Exa Z h a ad) (hfit : vs.all (fun v => fits ty v) = true) {pc q : Nat} {Ls : Array Slot} {st : List Value} (hd : decode c.code pc = .ok (.invokevirtual index, 3)) (hsz : Ls.size = c.maxLocals) (hf : 1 ≤ R.frames) {W : Nat} (hW : (st.map fun v => v.category).sum ≤ W) (hl : W + 14 ≤ R.locals) {k : Nat} (hk : vs.length = k) (hc : cells + 1 ≤ R.cells) (hs : slots + k ≤ R.slots) (hq : pc + 3 = q)
    (cont : ∀ (T' : State) (h' : Heap) (b : Addr), b = h.size → Stand p l e R s m args below meth c T' locs (cells + 1) (slots + k) → T'.heap = h' → Ext h h' → Row Z h' b ty kc vs → Exa Z h' b ad → Go p e below Q (T'.setTop (mkF m q Ls (.ref b :: st)))) : Go p e below Q (T.setTop (mkF m pc Ls (.ref a :: st))) := by
  subst hq hk
  obtain ⟨cl, A, q1, q2⟩ := F
  have hsize : cl.slots.size = vs.length := by rw [q2]; simp
  have FC : FitC Z cl := fitC_of A fun i hi v hv => by
    rw [q2] at hv
    have : v ∈ vs := List.mem_of_getElem? (by simpa using hv)
    exact List.all_eq_true.mp hfit v this
  obtain ⟨T', h', X', e', E', A', D', st'⟩ := cloneA X hx hZ hown w1 w2 w3 w4 w5 w6 eT A E FC (g := mkF m pc Ls (.ref a :: st)) rfl hsz rfl hd hf (W := W) (by show 2 * 0 + _ ≤ _; omega) hl (cap := vs.length) (by rw [hsize]; exact Nat.le_refl _) hc hs
  exact Go.of st' (cont T' h' _ rfl X' e' E' ⟨cloneOf cl, A', q1, q2⟩ D')
theorem Go.fastore (X : Stand p l e R s m args below meth c T locs cells slots) (hx : p.tables.exec = Jvm.exec) (hZ : Z.Warmed39 s.vm) (eT : T.heap = h) {a : Addr} {k : ClassId} {vs : List Value} (F : Row Z h a .float k vs)
    {pc q : Nat} {Ls : Array Slot} {st : List Value} {j : Int32} {i : Nat} {x : UInt32} {o : Value} (hd : decode c.code pc = .ok (.fastore, 1)) (hj : j.toNatClampNeg = i) (hj0 : ¬ j < 0) (hv : vs[i]? = some o) (hq : pc + 1 = q)
    (cont : ∀ (T' : State) (h' : Heap), Stand p l e R s m args below meth c T' (locs ++ [⟨a, i⟩]) cells slots → T'.heap = h' → Wr h h' a i (.float x) → Row Z h' a .float k (vs.set i (.float x)) → Go p e below Q (T'.setTop (mkF m q Ls st))) : Go p e below Q (T.setTop (mkF m pc Ls (.float x :: .int j :: .ref a :: st))) := by
  subst hq hj
  have F0 := F
  obtain ⟨cl, A, -, q2⟩ := F
  obtain ⟨X', st'⟩ := X.fastore hx (x := x) (by rw [eT]; exact A.1) (State.isArrayOf_alike hZ.alike A.2.1) A.2.2 (Row.inb q2 rfl hj0 hv) (g := mkF m pc Ls (.float x :: .int j :: .ref a :: st)) rfl rfl hd
  have W' : Wr h (T.setCell a (cl.setSlot j.toNatClampNeg (.float x))).heap a j.toNatClampNeg (.float x) := ⟨cl, A.1, A.plain, Nat.lt_of_not_le fun z => Row.inb q2 rfl hj0 hv (Or.inr z), by rw [← eT]; rfl⟩
  exact Go.of st' (cont _ _ X' rfl W' (F0.set W'))
end OwnArr
/-! own layer 5: arrays of arrays -/
section OwnGrid
variable {p : Program} {l : Launch} {e : Env} {R : Room} {s : State} {m : MethodId} {args : Array Value} {below : List Frame} {meth : Method} {c : Code} {T : State} {locs : List Loc} {cells slots : Nat} {Q : Outcome → State → Prop} {Z : State} {a0 : Array Value} {h h' : Heap}
theorem Go.newarrs (X : Stand p l e R s m args below meth c T locs cells slots) (hx : p.tables.exec = Jvm.exec) (hZ : Z.Warmed39 s.vm) {own C : String} {ty : FieldType} {index : Nat} (hown : s.vm.findClass own = some m.cls) (hC : (FieldType.array ty).toString = C) (w1 : (Jvm.Cond.classLink own index C).before a0 Z = true) (w2 : (Jvm.Cond.arrayOver (.array ty)).before a0 Z = true) (eT : T.heap = h)
    {pc q : Nat} {Ls : Array Slot} {st : List Value} {n : Int32} {k : Nat} (hd : decode c.code pc = .ok (.anewarray index, 3)) (hn0 : ¬ n < 0) (hn : n.toNatClampNeg = k) (hb : k * 8 ≤ 536870912) (hc : cells + 1 ≤ R.cells) (hl : slots + k ≤ R.slots) {ad : String} (had : "[" ++ C = ad) (hq : pc + 3 = q)
    (cont : ∀ (T' : State) (h' : Heap) (a : Addr) (kk : ClassId), a = h.size → Stand p l e R s m args below meth c T' locs (cells + 1) (slots + k) → T'.heap = h' → Ext h h' → Row Z h' a (.array ty) kk (List.replicate k .null) → Exa Z h' a ad →
      Go p e below Q (T'.setTop (mkF m q Ls (.ref a :: st)))) : Go p e below Q (T.setTop (mkF m pc Ls (.int n :: st))) := by
  subst hq hn
  obtain ⟨T', h', cA, X', e', E', A', D', O', st'⟩ := newRA X hx hZ hown hC w1 w2 eT (g := mkF m pc Ls (.int n :: st)) rfl hd rfl hn0 (cap := n.toNatClampNeg) (Nat.le_refl _) hb hc hl had
  exact Go.of st' (cont T' h' _ cA rfl X' e' E' ⟨_, A', rfl, by simp [newA, defaultValue]⟩ D')
theorem Go.grid (X : Stand p l e R s m args below meth c T locs cells slots) (hx : p.tables.exec = Jvm.exec) (hZ : Z.Warmed39 s.vm) {own C ad : String} {ty : FieldType} {index : Nat} (hown : s.vm.findClass own = some m.cls) (hC : (FieldType.array ty).toString = C) (had : "[" ++ C = ad) (w1 : (Jvm.Cond.classLink own index ad).before a0 Z = true) (w2 : (Jvm.Cond.arrayOver (.array ty)).before a0 Z = true) (w3 : (Jvm.Cond.arrayClass ty).before a0 Z = true) (eT : T.heap = h)
    {pc q : Nat} {Ls : Array Slot} {st : List Value} {n k : Int32} {N K : Nat} (hd : decode c.code pc = .ok (.multianewarray index 2, 4)) (hn : ¬ n < 0) (hk : ¬ k < 0) (hN : n.toNatClampNeg = N) (hK : k.toNatClampNeg = K) (hb : K * 8 ≤ 536870912) (hb1 : N ≤ 1000) (hdf : fits ty (defaultValue ty) = true) (hdd : (defaultValue ty).isDefault = true) (hc : cells + (1 + N) ≤ R.cells) (hl : slots + (N + N * K) ≤ R.slots) (hq : pc + 4 = q)
    (cont : ∀ (T' : State) (h' : Heap) (a : Addr), a = h.size → Stand p l e R s m args below meth c T' locs (cells + (1 + N)) (slots + (N + N * K)) → T'.heap = h' → Ext h h' → Exa Z h' a ad →
      Go p e below Q (T'.setTop (mkF m q Ls (.ref a :: st)))) : Go p e below Q (T.setTop (mkF m pc Ls (.int k :: .int n :: st))) := by
  subst hq
  obtain ⟨T', h', cA, comp, X', e', E', -, -, D', -, st'⟩ := gridM X hx hZ hown hC had w1 w2 w3 eT (g := mkF m pc Ls (.int k :: .int n :: st)) rfl hd rfl hn hk hN rfl (cap := K) (Nat.le_of_eq hK) hb hb1 hdf hdd hc hl
  exact Go.of st' (cont T' h' _ rfl X' e' E' D')
end OwnGrid

theorem pd0 : parseMethodDescriptor "(I)V" = some ⟨[.int], none⟩ := by decide +kernel
theorem pd1 : parseMethodDescriptor "(II)V" = some ⟨[.int, .int], none⟩ := by decide +kernel
theorem pd2 : parseMethodDescriptor "([D[D[D)V" = some ⟨[(.array .double), (.array .double), (.array .double)], none⟩ := by decide +kernel
theorem pd3 : parseMethodDescriptor "([D[D[DII)Z" = some ⟨[(.array .double), (.array .double), (.array .double), .int, .int], some .boolean⟩ := by decide +kernel

section OwnLaw
open Jvm.FP Jvm.FP.Core Jvm.Free.Fl
theorem own_four {x u : Int32} (h : x &&& 3 = u) : u = 0 ∨ u = 1 ∨ u = 2 ∨ u = 3 := by
  have e := c_mask x 3 2 (by decide) (by decide)
  rw [h] at e
  have f : u.toInt = 0 ∨ u.toInt = 1 ∨ u.toInt = 2 ∨ u.toInt = 3 := by omega
  rcases f with f | f | f | f
  · exact Or.inl (Int32.toInt_inj.mp f)
  · exact Or.inr (Or.inl (Int32.toInt_inj.mp f))
  · exact Or.inr (Or.inr (Or.inl (Int32.toInt_inj.mp f)))
  · exact Or.inr (Or.inr (Or.inr (Int32.toInt_inj.mp f)))
theorem own_dim {x u v : Int32} (h : x &&& 7 = u) (k : u - (u / 5) * 5 = v) : v = 0 ∨ v = 1 ∨ v = 2 ∨ v = 3 ∨ v = 4 := by
  have e := c_mask x 7 3 (by decide) (by decide)
  rw [h] at e
  have f : u.toInt = 0 ∨ u.toInt = 1 ∨ u.toInt = 2 ∨ u.toInt = 3 ∨ u.toInt = 4 ∨ u.toInt = 5 ∨ u.toInt = 6 ∨ u.toInt = 7 := by omega
  have g : u = 0 ∨ u = 1 ∨ u = 2 ∨ u = 3 ∨ u = 4 ∨ u = 5 ∨ u = 6 ∨ u = 7 := by
    rcases f with f | f | f | f | f | f | f | f
    · exact Or.inl (Int32.toInt_inj.mp f)
    · exact Or.inr (Or.inl (Int32.toInt_inj.mp f))
    · exact Or.inr (Or.inr (Or.inl (Int32.toInt_inj.mp f)))
    · exact Or.inr (Or.inr (Or.inr (Or.inl (Int32.toInt_inj.mp f))))
    · exact Or.inr (Or.inr (Or.inr (Or.inr (Or.inl (Int32.toInt_inj.mp f)))))
    · exact Or.inr (Or.inr (Or.inr (Or.inr (Or.inr (Or.inl (Int32.toInt_inj.mp f))))))
    · exact Or.inr (Or.inr (Or.inr (Or.inr (Or.inr (Or.inr (Or.inl (Int32.toInt_inj.mp f)))))))
    · exact Or.inr (Or.inr (Or.inr (Or.inr (Or.inr (Or.inr (Or.inr (Int32.toInt_inj.mp f)))))))
  clear h e f
  rcases g with rfl | rfl | rfl | rfl | rfl | rfl | rfl | rfl <;> subst k <;> decide
/-- one corrected entry, with all coefficients zero -/
def own_r (g x : UInt64) : UInt64 := FP.dadd (FP.dadd (FP.dadd (FP.dadd g 0) (FP.dmul 0 x)) (FP.dmul 0 g)) (FP.dmul (FP.dmul 0 x) g)
def own_ok (g x : UInt64) : Prop := NoNaN64 (FP.dadd g 0) ∧ NoNaN64 (FP.dmul 0 x) ∧ NoNaN64 (FP.dadd (FP.dadd g 0) (FP.dmul 0 x)) ∧ NoNaN64 (FP.dmul 0 g) ∧ NoNaN64 (FP.dadd (FP.dadd (FP.dadd g 0) (FP.dmul 0 x)) (FP.dmul 0 g)) ∧ NoNaN64 (FP.dmul (FP.dmul 0 x) g) ∧ NoNaN64 (own_r g x)
theorem own_mz {x y : UInt64} (hx : DFin x) (z : Zv x = 0) (hy : DFin y) : DFin (FP.dmul x y) ∧ Zv (FP.dmul x y) = 0 := mul_eq hx hy rep_zero (by rw [z]; simp)
theorem own_az {x y : UInt64} (hx : DFin x) (hy : DFin y) (z : Zv y = 0) : DFin (FP.dadd x y) ∧ Zv (FP.dadd x y) = Zv x := add_eq hx hy (rep_self hx) (by rw [z]; simp)
theorem own_one {g x : UInt64} (hg : DFin g) (hx : DFin x) : own_ok g x ∧ DFin (own_r g x) ∧ Zv (own_r g x) = Zv g := by
  have a1 := own_az hg zero_fin zero_z
  have a2 := own_mz zero_fin zero_z hx
  have a3 := own_az a1.1 a2.1 a2.2
  have a4 := own_mz zero_fin zero_z hg
  have a5 := own_az a3.1 a4.1 a4.2
  have a6 := own_mz a2.1 a2.2 hg
  have a7 := own_az a5.1 a6.1 a6.2
  exact ⟨⟨(nn_of a1.1), (nn_of a2.1), (nn_of a3.1), (nn_of a4.1), (nn_of a5.1), (nn_of a6.1), (nn_of a7.1)⟩, a7.1, a7.2.trans (a5.2.trans (a3.2.trans a1.2))⟩
theorem own_fin {n : Int32} {x : UInt64} (h : FP.i2d n = x) : DFin x := h ▸ i2d_dfin n
theorem own_same {n : Int32} {x y : UInt64} (h : FP.i2d n = x) (k : FP.i2d n = y) (o : CmpOp) : cmpValue (FP.dcmp x y) o = 0 := by
  subst h k; exact cmp_eq (i2d_dfin n) (i2d_dfin n) o rfl
theorem own_hit {n k : Int32} {g x r : UInt64} (h : FP.i2d n = g) (h2 : FP.i2d k = x) (h3 : FP.i2d n = r) (o : CmpOp) : cmpValue (FP.dcmp (own_r g x) r) o = 0 := by
  have a := own_one (own_fin h) (own_fin h2)
  exact cmp_eq a.2.1 (own_fin h3) o (by rw [a.2.2, ← h, ← h3])
theorem own_half (o : CmpOp) : cmpValue (FP.dcmp 4602678819172646912 4602678819172646912) o = 0 := by cases o <;> decide +kernel
end OwnLaw

theorem d3_0 : decode prog_5_method_1_code 0 = .ok (.aload_n 0, 1) := by decide +kernel
theorem d3_1 : decode prog_5_method_1_code 1 = .ok (.invokespecial 3, 3) := by decide +kernel
theorem d3_4 : decode prog_5_method_1_code 4 = .ok (.aload_n 0, 1) := by decide +kernel
theorem d3_5 : decode prog_5_method_1_code 5 = .ok (.iload_n 1, 1) := by decide +kernel
theorem d3_6 : decode prog_5_method_1_code 6 = .ok (.putfield 9, 3) := by decide +kernel
theorem d3_9 : decode prog_5_method_1_code 9 = .ok (.aload_n 0, 1) := by decide +kernel
theorem d3_10 : decode prog_5_method_1_code 10 = .ok (.iload_n 1, 1) := by decide +kernel
theorem d3_11 : decode prog_5_method_1_code 11 = .ok (.iload_n 1, 1) := by decide +kernel
theorem d3_12 : decode prog_5_method_1_code 12 = .ok (.iconst 1, 1) := by decide +kernel
theorem d3_13 : decode prog_5_method_1_code 13 = .ok (.iadd, 1) := by decide +kernel
theorem d3_14 : decode prog_5_method_1_code 14 = .ok (.imul, 1) := by decide +kernel
theorem d3_15 : decode prog_5_method_1_code 15 = .ok (.iconst 2, 1) := by decide +kernel
theorem d3_16 : decode prog_5_method_1_code 16 = .ok (.idiv, 1) := by decide +kernel
theorem d3_17 : decode prog_5_method_1_code 17 = .ok (.newarray .double, 2) := by decide +kernel
theorem d3_19 : decode prog_5_method_1_code 19 = .ok (.putfield 15, 3) := by decide +kernel
theorem d3_22 : decode prog_5_method_1_code 22 = .ok (.aload_n 0, 1) := by decide +kernel
theorem d3_23 : decode prog_5_method_1_code 23 = .ok (.iload_n 1, 1) := by decide +kernel
theorem d3_24 : decode prog_5_method_1_code 24 = .ok (.newarray .double, 2) := by decide +kernel
theorem d3_26 : decode prog_5_method_1_code 26 = .ok (.putfield 19, 3) := by decide +kernel
theorem d3_29 : decode prog_5_method_1_code 29 = .ok (.return_, 1) := by decide +kernel
set_option maxRecDepth 65536 in
set_option maxHeartbeats 40000000 in
theorem rm_ne0 (l : Launch) (Z : State) (a0 : Array Value) (hw : ∀ d ∈ tables_1, d.before a0 Z = true) (a1 : Addr) (o1 : Value) (o2 : Value) (o3 : Value) (h0 : Heap) (n0 : Nat) (Z0 : n0 ≤ h0.size) (E1 : Exa Z h0 a1 "com/example/ratewright/ratewright/inference/GradientCorrection$NormalEquations") (F1 : Fld Z h0 a1 "com/example/ratewright/ratewright/inference/GradientCorrection$NormalEquations" "size" "I" o1) (F2 : Fld Z h0 a1 "com/example/ratewright/ratewright/inference/GradientCorrection$NormalEquations" "products" "[D" o2) (F3 : Fld Z h0 a1 "com/example/ratewright/ratewright/inference/GradientCorrection$NormalEquations" "right" "[D" o3) (g1 : n0 ≤ a1) :
    Con l Z (⟨"com/example/ratewright/ratewright/inference/GradientCorrection$NormalEquations", "<init>", "(I)V"⟩ : MethodName) prog_5_method_1_code 2 none ({ frames := 1, cells := 2, slots := 0, locals := 12 } : Room) #[(.ref a1), (.int (0 : Int32))] h0 (fun vR hR LR => vR = none ∧ Fr n0 LR ∧ Keep h0 hR [a1] ∧ Exa Z hR a1 "com/example/ratewright/ratewright/inference/GradientCorrection$NormalEquations") := by
  refine enter (l := l) (Z := Z) (y := (⟨"com/example/ratewright/ratewright/inference/GradientCorrection$NormalEquations", "<init>", "(I)V"⟩ : MethodName)) (bytes := prog_5_method_1_code) (maxL := 2) (ret := none) (ws := []) (rm := ({ frames := 1, cells := 2, slots := 0, locals := 12 } : Room)) (as' := #[(.ref a1), (.int (0 : Int32))]) (h0 := h0) (Qv := (fun vR hR LR => vR = none ∧ Fr n0 LR ∧ Keep h0 hR [a1] ∧ Exa Z hR a1 "com/example/ratewright/ratewright/inference/GradientCorrection$NormalEquations")) (kc := 2) (ks := 0) (by first | exact plainFor_of_name (by first | (simp [plainName, overriddenIn]; done) | decide +kernel) | decide +kernel) (Ls := #[.val (.ref a1), .val (.int (0 : Int32))]) (fun m => by first | (simp [entryFrame, mkF, argsToLocals, Value.category]; done) | rfl) ?_
  intro p e s m below meth c s₁ hx hby hml hown hnm hret hlk hZ X0 e0
  have hown : s.vm.findClass "com/example/ratewright/ratewright/inference/GradientCorrection$NormalEquations" = some m.cls := hown
  have hml : c.maxLocals = 2 := hml
  have N0 := Fr.nil n0
  refine Go.aloadN X0.here hx (Jvm.hb hby d3_0) rfl rfl (q := 1) rfl ?_
  refine Go.init X0 hx hZ hown (word hw 23 rfl) (word hw 9 rfl) (word hw 10 rfl) e0 (Jvm.hb hby d3_1) (by rw [hml]; rfl) (by decide) (W := 0) (Nat.le_of_eq rfl) (by decide) (q := 4) rfl ?_
  intro T101 X101 e101
  refine Go.aloadN X101.here hx (Jvm.hb hby d3_4) rfl rfl (q := 5) rfl ?_
  refine Go.iloadN X101.here hx (Jvm.hb hby d3_5) rfl (q := 6) rfl ?_
  refine Go.putf X101 hx hZ hown (word hw 24 rfl) e101 F1 E1 (Or.inr ⟨(word hw 25 rfl), rfl, hnm⟩) (word hw 18 rfl) (ty := .int) (by decide) rfl rfl (Jvm.hb hby d3_6) (q := 9) rfl ?_
  intro T102 h102 X102 e102 W102
  have N102 := Fr.snoc X102 N0 g1
  have F102 := F1.same W102
  refine Go.aloadN X102.here hx (Jvm.hb hby d3_9) rfl rfl (q := 10) rfl ?_
  refine Go.iloadN X102.here hx (Jvm.hb hby d3_10) rfl (q := 11) rfl ?_
  refine Go.iloadN X102.here hx (Jvm.hb hby d3_11) rfl (q := 12) rfl ?_
  refine Go.iconst X102.here hx (Jvm.hb hby d3_12) (v := (1 : Int32)) rfl (q := 13) rfl ?_
  refine Go.iadd X102.here hx (Jvm.hb hby d3_13) (v := (1 : Int32)) (by decide) (q := 14) rfl ?_
  refine Go.imul X102.here hx (Jvm.hb hby d3_14) (v := (0 : Int32)) (by decide) (q := 15) rfl ?_
  refine Go.iconst X102.here hx (Jvm.hb hby d3_15) (v := (2 : Int32)) rfl (q := 16) rfl ?_
  refine Go.idiv X102.here hx (Jvm.hb hby d3_16) (by decide) (v := (0 : Int32)) (by decide) (q := 17) rfl ?_
  refine Go.newarr X102 hx hZ (aty := .double) (word hw 0 rfl) e102 (Jvm.hb hby d3_17) (by decide) (k := 0) (by decide) (by decide) (by decide) (by decide) (ad := "[D") (by decide) (q := 19) rfl ?_
  intro T103 h103 a103 kk103 g103 X103 e103 E103 R103 A103
  have z104 : n0 ≤ h102.size := Nat.le_trans Z0 (Nat.le_of_eq W102.size.symm)
  have r105 : n0 ≤ a103 := Nat.le_trans z104 (Nat.le_of_eq g103.symm)
  have k106 : Keep h0 h102 [a1] := (Keep.refl h0 [a1]).wr W102 (Or.inl (List.mem_of_getElem? (i := 0) rfl))
  have y105 : h0.size ≤ a103 := Nat.le_trans k106.1 (Nat.le_of_eq g103.symm)
  have R103 : Row Z h103 a103 .double kk103 [] := R103
  have f108 := F2.other W102 (Or.inr (Jvm.RoadKit.slot_ne (Or.inr (word hw 27 rfl)) (Or.inr (word hw 25 rfl)) (by decide) (t := (.array .double)) (t' := .int) (by decide) (by decide)))
  have f109 := f108.ext E103
  have f110 := E1.wr W102
  have f111 := f110.ext E103
  refine Go.putf X103 hx hZ hown (word hw 26 rfl) e103 f109 f111 (Or.inr ⟨(word hw 27 rfl), rfl, hnm⟩) (word hw 18 rfl) (ty := (.array .double)) (by decide) rfl rfl (Jvm.hb hby d3_19) (q := 22) rfl ?_
  intro T107 h107 X107 e107 W107
  have N107 := Fr.snoc X107 N102 g1
  have F107 := f109.same W107
  refine Go.aloadN X107.here hx (Jvm.hb hby d3_22) rfl rfl (q := 23) rfl ?_
  refine Go.iloadN X107.here hx (Jvm.hb hby d3_23) rfl (q := 24) rfl ?_
  refine Go.newarr X107 hx hZ (aty := .double) (word hw 0 rfl) e107 (Jvm.hb hby d3_24) (by decide) (k := 0) (by decide) (by decide) (by decide) (by decide) (ad := "[D") (by decide) (q := 26) rfl ?_
  intro T112 h112 a112 kk112 g112 X112 e112 E112 R112 A112
  have z113 : n0 ≤ h103.size := Nat.le_trans z104 E103.1
  have z114 : n0 ≤ h107.size := Nat.le_trans z113 (Nat.le_of_eq W107.size.symm)
  have r115 : n0 ≤ a112 := Nat.le_trans z114 (Nat.le_of_eq g112.symm)
  have k116 : Keep h0 h103 [a1] := k106.ext E103
  have k117 : Keep h0 h107 [a1] := k116.wr W107 (Or.inl (List.mem_of_getElem? (i := 0) rfl))
  have y115 : h0.size ≤ a112 := Nat.le_trans k117.1 (Nat.le_of_eq g112.symm)
  have R112 : Row Z h112 a112 .double kk112 [] := R112
  have f119 := F3.other W102 (Or.inr (Jvm.RoadKit.slot_ne (Or.inr (word hw 29 rfl)) (Or.inr (word hw 25 rfl)) (by decide) (t := (.array .double)) (t' := .int) (by decide) (by decide)))
  have f120 := f119.ext E103
  have f121 := f120.other W107 (Or.inr (Jvm.RoadKit.slot_ne (Or.inr (word hw 29 rfl)) (Or.inr (word hw 27 rfl)) (by decide) (t := (.array .double)) (t' := (.array .double)) (by decide) (by decide)))
  have f122 := f121.ext E112
  have f123 := f111.wr W107
  have f124 := f123.ext E112
  refine Go.putf X112 hx hZ hown (word hw 28 rfl) e112 f122 f124 (Or.inr ⟨(word hw 29 rfl), rfl, hnm⟩) (word hw 18 rfl) (ty := (.array .double)) (by decide) rfl rfl (Jvm.hb hby d3_26) (q := 29) rfl ?_
  intro T118 h118 X118 e118 W118
  have N118 := Fr.snoc X118 N107 g1
  have F118 := f122.same W118
  have k125 : Keep h0 h112 [a1] := k117.ext E112
  have k126 : Keep h0 h118 [a1] := k125.wr W118 (Or.inl (List.mem_of_getElem? (i := 0) rfl))
  have f127 := f124.wr W118
  refine Go.retV X118 hx hret hlk (Jvm.hb hby d3_29) (by decide) (by decide) ?_
  rw [e118]
  exact ⟨rfl, N118, k126, f127⟩
theorem d1_0 : decode prog_4_method_1_code 0 = .ok (.aload_n 0, 1) := by decide +kernel
theorem d1_1 : decode prog_4_method_1_code 1 = .ok (.invokespecial 1, 3) := by decide +kernel
theorem d1_4 : decode prog_4_method_1_code 4 = .ok (.iload_n 1, 1) := by decide +kernel
theorem d1_5 : decode prog_4_method_1_code 5 = .ok (.sipush 512, 3) := by decide +kernel
theorem d1_8 : decode prog_4_method_1_code 8 = .ok (.if_icmp .gt 7, 3) := by decide +kernel
theorem d1_11 : decode prog_4_method_1_code 11 = .ok (.iconst 1, 1) := by decide +kernel
theorem d1_12 : decode prog_4_method_1_code 12 = .ok (.goto 4, 3) := by decide +kernel
theorem d1_15 : decode prog_4_method_1_code 15 = .ok (.iconst 0, 1) := by decide +kernel
theorem d1_16 : decode prog_4_method_1_code 16 = .ok (.istore_n 3, 1) := by decide +kernel
theorem d1_17 : decode prog_4_method_1_code 17 = .ok (.aload_n 0, 1) := by decide +kernel
theorem d1_18 : decode prog_4_method_1_code 18 = .ok (.iload_n 1, 1) := by decide +kernel
theorem d1_19 : decode prog_4_method_1_code 19 = .ok (.putfield 9, 3) := by decide +kernel
theorem d1_22 : decode prog_4_method_1_code 22 = .ok (.aload_n 0, 1) := by decide +kernel
theorem d1_23 : decode prog_4_method_1_code 23 = .ok (.iload_n 3, 1) := by decide +kernel
theorem d1_24 : decode prog_4_method_1_code 24 = .ok (.ifCond .eq 9, 3) := by decide +kernel
theorem d1_27 : decode prog_4_method_1_code 27 = .ok (.iconst 4, 1) := by decide +kernel
theorem d1_28 : decode prog_4_method_1_code 28 = .ok (.iload_n 1, 1) := by decide +kernel
theorem d1_29 : decode prog_4_method_1_code 29 = .ok (.imul, 1) := by decide +kernel
theorem d1_30 : decode prog_4_method_1_code 30 = .ok (.goto 4, 3) := by decide +kernel
theorem d1_33 : decode prog_4_method_1_code 33 = .ok (.iconst 0, 1) := by decide +kernel
theorem d1_34 : decode prog_4_method_1_code 34 = .ok (.putfield 13, 3) := by decide +kernel
theorem d1_37 : decode prog_4_method_1_code 37 = .ok (.aload_n 0, 1) := by decide +kernel
theorem d1_38 : decode prog_4_method_1_code 38 = .ok (.iconst 4, 1) := by decide +kernel
theorem d1_39 : decode prog_4_method_1_code 39 = .ok (.iload_n 1, 1) := by decide +kernel
theorem d1_40 : decode prog_4_method_1_code 40 = .ok (.imul, 1) := by decide +kernel
theorem d1_41 : decode prog_4_method_1_code 41 = .ok (.newarray .double, 2) := by decide +kernel
theorem d1_43 : decode prog_4_method_1_code 43 = .ok (.putfield 16, 3) := by decide +kernel
theorem d1_46 : decode prog_4_method_1_code 46 = .ok (.aload_n 0, 1) := by decide +kernel
theorem d1_47 : decode prog_4_method_1_code 47 = .ok (.new 20, 3) := by decide +kernel
theorem d1_50 : decode prog_4_method_1_code 50 = .ok (.dup, 1) := by decide +kernel
theorem d1_51 : decode prog_4_method_1_code 51 = .ok (.aload_n 0, 1) := by decide +kernel
theorem d1_52 : decode prog_4_method_1_code 52 = .ok (.getfield 13, 3) := by decide +kernel
theorem d1_55 : decode prog_4_method_1_code 55 = .ok (.invokespecial 22, 3) := by decide +kernel
theorem d1_58 : decode prog_4_method_1_code 58 = .ok (.putfield 25, 3) := by decide +kernel
theorem d1_61 : decode prog_4_method_1_code 61 = .ok (.aload_n 0, 1) := by decide +kernel
theorem d1_62 : decode prog_4_method_1_code 62 = .ok (.new 20, 3) := by decide +kernel
theorem d1_65 : decode prog_4_method_1_code 65 = .ok (.dup, 1) := by decide +kernel
theorem d1_66 : decode prog_4_method_1_code 66 = .ok (.aload_n 0, 1) := by decide +kernel
theorem d1_67 : decode prog_4_method_1_code 67 = .ok (.getfield 13, 3) := by decide +kernel
theorem d1_70 : decode prog_4_method_1_code 70 = .ok (.invokespecial 22, 3) := by decide +kernel
theorem d1_73 : decode prog_4_method_1_code 73 = .ok (.putfield 29, 3) := by decide +kernel
theorem d1_76 : decode prog_4_method_1_code 76 = .ok (.aload_n 0, 1) := by decide +kernel
theorem d1_77 : decode prog_4_method_1_code 77 = .ok (.iload_n 3, 1) := by decide +kernel
theorem d1_78 : decode prog_4_method_1_code 78 = .ok (.ifCond .eq 9, 3) := by decide +kernel
theorem d1_81 : decode prog_4_method_1_code 81 = .ok (.sipush 1000, 3) := by decide +kernel
theorem d1_84 : decode prog_4_method_1_code 84 = .ok (.goto 4, 3) := by decide +kernel
theorem d1_87 : decode prog_4_method_1_code 87 = .ok (.iconst 0, 1) := by decide +kernel
theorem d1_88 : decode prog_4_method_1_code 88 = .ok (.anewarray 32, 3) := by decide +kernel
theorem d1_91 : decode prog_4_method_1_code 91 = .ok (.putfield 33, 3) := by decide +kernel
theorem d1_94 : decode prog_4_method_1_code 94 = .ok (.aload_n 0, 1) := by decide +kernel
theorem d1_95 : decode prog_4_method_1_code 95 = .ok (.aload_n 0, 1) := by decide +kernel
theorem d1_96 : decode prog_4_method_1_code 96 = .ok (.getfield 33, 3) := by decide +kernel
theorem d1_99 : decode prog_4_method_1_code 99 = .ok (.arraylength, 1) := by decide +kernel
theorem d1_100 : decode prog_4_method_1_code 100 = .ok (.newarray .double, 2) := by decide +kernel
theorem d1_102 : decode prog_4_method_1_code 102 = .ok (.putfield 37, 3) := by decide +kernel
theorem d1_105 : decode prog_4_method_1_code 105 = .ok (.iload_n 3, 1) := by decide +kernel
theorem d1_106 : decode prog_4_method_1_code 106 = .ok (.ifCond .eq 7, 3) := by decide +kernel
theorem d1_109 : decode prog_4_method_1_code 109 = .ok (.iload_n 2, 1) := by decide +kernel
theorem d1_110 : decode prog_4_method_1_code 110 = .ok (.goto 4, 3) := by decide +kernel
theorem d1_113 : decode prog_4_method_1_code 113 = .ok (.iconst 0, 1) := by decide +kernel
theorem d1_114 : decode prog_4_method_1_code 114 = .ok (.istore 4, 2) := by decide +kernel
theorem d1_116 : decode prog_4_method_1_code 116 = .ok (.aload_n 0, 1) := by decide +kernel
theorem d1_117 : decode prog_4_method_1_code 117 = .ok (.iload 4, 2) := by decide +kernel
theorem d1_119 : decode prog_4_method_1_code 119 = .ok (.aload_n 0, 1) := by decide +kernel
theorem d1_120 : decode prog_4_method_1_code 120 = .ok (.getfield 13, 3) := by decide +kernel
theorem d1_123 : decode prog_4_method_1_code 123 = .ok (.multianewarray 40 2, 4) := by decide +kernel
theorem d1_127 : decode prog_4_method_1_code 127 = .ok (.putfield 41, 3) := by decide +kernel
theorem d1_130 : decode prog_4_method_1_code 130 = .ok (.aload_n 0, 1) := by decide +kernel
theorem d1_131 : decode prog_4_method_1_code 131 = .ok (.iload 4, 2) := by decide +kernel
theorem d1_133 : decode prog_4_method_1_code 133 = .ok (.newarray .double, 2) := by decide +kernel
theorem d1_135 : decode prog_4_method_1_code 135 = .ok (.putfield 44, 3) := by decide +kernel
theorem d1_138 : decode prog_4_method_1_code 138 = .ok (.return_, 1) := by decide +kernel
set_option maxRecDepth 65536 in
set_option maxHeartbeats 40000000 in
theorem rm_init0 (l : Launch) (Z : State) (a0 : Array Value) (hw : ∀ d ∈ tables_1, d.before a0 Z = true) (a1 : Addr) (w2 : Int32) (o1 : Value) (o2 : Value) (o3 : Value) (o4 : Value) (o5 : Value) (o6 : Value) (o7 : Value) (o8 : Value) (o9 : Value) (h0 : Heap) (n0 : Nat) (Z0 : n0 ≤ h0.size) (E1 : Exa Z h0 a1 "com/example/ratewright/ratewright/inference/GradientCorrection") (F1 : Fld Z h0 a1 "com/example/ratewright/ratewright/inference/GradientCorrection" "dimension" "I" o1) (F2 : Fld Z h0 a1 "com/example/ratewright/ratewright/inference/GradientCorrection" "unknowns" "I" o2) (F3 : Fld Z h0 a1 "com/example/ratewright/ratewright/inference/GradientCorrection" "coefficients" "[D" o3) (F4 : Fld Z h0 a1 "com/example/ratewright/ratewright/inference/GradientCorrection" "fitted" "Lcom/example/ratewright/ratewright/inference/GradientCorrection$NormalEquations;" o4) (F5 : Fld Z h0 a1 "com/example/ratewright/ratewright/inference/GradientCorrection" "heldOut" "Lcom/example/ratewright/ratewright/inference/GradientCorrection$NormalEquations;" o5) (F6 : Fld Z h0 a1 "com/example/ratewright/ratewright/inference/GradientCorrection" "heldOutTerms" "[[D" o6) (F7 : Fld Z h0 a1 "com/example/ratewright/ratewright/inference/GradientCorrection" "heldOutMisses" "[D" o7) (F8 : Fld Z h0 a1 "com/example/ratewright/ratewright/inference/GradientCorrection" "pendingTerms" "[[D" o8) (F9 : Fld Z h0 a1 "com/example/ratewright/ratewright/inference/GradientCorrection" "pendingMisses" "[D" o9) (g1 : n0 ≤ a1) (hm : w2 = 0 ∨ w2 = 1 ∨ w2 = 2 ∨ w2 = 3) :
    Con l Z (⟨"com/example/ratewright/ratewright/inference/GradientCorrection", "<init>", "(II)V"⟩ : MethodName) prog_4_method_1_code 5 none ({ frames := 3, cells := 20, slots := 2500, locals := 60 } : Room) #[(.ref a1), (.int (0 : Int32)), (.int w2)] h0 (fun vR hR LR => ∃ (ac : Addr) (kc : ClassId), vR = none ∧ Fr n0 LR ∧ Keep h0 hR [a1] ∧ h0.size ≤ ac ∧ Exa Z hR a1 "com/example/ratewright/ratewright/inference/GradientCorrection" ∧ Fld Z hR a1 "com/example/ratewright/ratewright/inference/GradientCorrection" "dimension" "I" (.int (0 : Int32)) ∧ Fld Z hR a1 "com/example/ratewright/ratewright/inference/GradientCorrection" "coefficients" "[D" (.ref ac) ∧ Row Z hR ac .double kc []) := by
  refine enter (l := l) (Z := Z) (y := (⟨"com/example/ratewright/ratewright/inference/GradientCorrection", "<init>", "(II)V"⟩ : MethodName)) (bytes := prog_4_method_1_code) (maxL := 5) (ret := none) (ws := []) (rm := ({ frames := 3, cells := 20, slots := 2500, locals := 60 } : Room)) (as' := #[(.ref a1), (.int (0 : Int32)), (.int w2)]) (h0 := h0) (Qv := (fun vR hR LR => ∃ (ac : Addr) (kc : ClassId), vR = none ∧ Fr n0 LR ∧ Keep h0 hR [a1] ∧ h0.size ≤ ac ∧ Exa Z hR a1 "com/example/ratewright/ratewright/inference/GradientCorrection" ∧ Fld Z hR a1 "com/example/ratewright/ratewright/inference/GradientCorrection" "dimension" "I" (.int (0 : Int32)) ∧ Fld Z hR a1 "com/example/ratewright/ratewright/inference/GradientCorrection" "coefficients" "[D" (.ref ac) ∧ Row Z hR ac .double kc [])) (kc := 20) (ks := 2500) (by first | exact plainFor_of_name (by first | (simp [plainName, overriddenIn]; done) | decide +kernel) | decide +kernel) (Ls := #[.val (.ref a1), .val (.int (0 : Int32)), .val (.int w2), .unset, .unset]) (fun m => by first | (simp [entryFrame, mkF, argsToLocals, Value.category]; done) | rfl) ?_
  intro p e s m below meth c s₁ hx hby hml hown hnm hret hlk hZ X0 e0
  have hown : s.vm.findClass "com/example/ratewright/ratewright/inference/GradientCorrection" = some m.cls := hown
  have hml : c.maxLocals = 5 := hml
  have N0 := Fr.nil n0
  refine Go.aloadN X0.here hx (Jvm.hb hby d1_0) rfl rfl (q := 1) rfl ?_
  refine Go.init X0 hx hZ hown (word hw 8 rfl) (word hw 9 rfl) (word hw 10 rfl) e0 (Jvm.hb hby d1_1) (by rw [hml]; rfl) (by decide) (W := 0) (Nat.le_of_eq rfl) (by decide) (q := 4) rfl ?_
  intro T101 X101 e101
  refine Go.iloadN X101.here hx (Jvm.hb hby d1_4) rfl (q := 5) rfl ?_
  refine Go.sipush X101.here hx (Jvm.hb hby d1_5) (v := (512 : Int32)) rfl (q := 8) rfl ?_
  have hc8_103 : ¬ ((512 : Int32) < (0 : Int32)) := by decide
  refine Go.icmpN X101.here hx (Jvm.hb hby d1_8) (flt hc8_103).2.2.1 (q := 11) rfl ?_
  refine Go.iconst X101.here hx (Jvm.hb hby d1_11) (v := (1 : Int32)) rfl (q := 12) rfl ?_
  refine Go.goto X101.here hx (Jvm.hb hby d1_12) (by decide) (q := 16) rfl ?_
  refine Go.istoreN X101.here hx (Jvm.hb hby d1_16) (l2 := #[.val (.ref a1), .val (.int (0 : Int32)), .val (.int w2), .val (.int (1 : Int32)), .unset]) rfl (q := 17) rfl ?_
  refine Go.aloadN X101.here hx (Jvm.hb hby d1_17) rfl rfl (q := 18) rfl ?_
  refine Go.iloadN X101.here hx (Jvm.hb hby d1_18) rfl (q := 19) rfl ?_
  refine Go.putf X101 hx hZ hown (word hw 11 rfl) e101 F1 E1 (Or.inr ⟨(word hw 12 rfl), rfl, hnm⟩) (word hw 3 rfl) (ty := .int) (by decide) rfl rfl (Jvm.hb hby d1_19) (q := 22) rfl ?_
  intro T104 h104 X104 e104 W104
  have N104 := Fr.snoc X104 N0 g1
  have F104 := F1.same W104
  refine Go.aloadN X104.here hx (Jvm.hb hby d1_22) rfl rfl (q := 23) rfl ?_
  refine Go.iloadN X104.here hx (Jvm.hb hby d1_23) rfl (q := 24) rfl ?_
  have hc24_106 : ¬ ((1 : Int32) = (0 : Int32)) := by decide
  refine Go.ifN X104.here hx (Jvm.hb hby d1_24) ((if0 _ _).trans (feq hc24_106).1) (q := 27) rfl ?_
  refine Go.iconst X104.here hx (Jvm.hb hby d1_27) (v := (4 : Int32)) rfl (q := 28) rfl ?_
  refine Go.iloadN X104.here hx (Jvm.hb hby d1_28) rfl (q := 29) rfl ?_
  refine Go.imul X104.here hx (Jvm.hb hby d1_29) (v := (0 : Int32)) (by decide) (q := 30) rfl ?_
  refine Go.goto X104.here hx (Jvm.hb hby d1_30) (by decide) (q := 34) rfl ?_
  have f108 := F2.other W104 (Or.inr (Jvm.RoadKit.slot_ne (Or.inr (word hw 14 rfl)) (Or.inr (word hw 12 rfl)) (by decide) (t := .int) (t' := .int) (by decide) (by decide)))
  have f109 := E1.wr W104
  refine Go.putf X104 hx hZ hown (word hw 13 rfl) e104 f108 f109 (Or.inr ⟨(word hw 14 rfl), rfl, hnm⟩) (word hw 3 rfl) (ty := .int) (by decide) rfl rfl (Jvm.hb hby d1_34) (q := 37) rfl ?_
  intro T107 h107 X107 e107 W107
  have N107 := Fr.snoc X107 N104 g1
  have F107 := f108.same W107
  refine Go.aloadN X107.here hx (Jvm.hb hby d1_37) rfl rfl (q := 38) rfl ?_
  refine Go.iconst X107.here hx (Jvm.hb hby d1_38) (v := (4 : Int32)) rfl (q := 39) rfl ?_
  refine Go.iloadN X107.here hx (Jvm.hb hby d1_39) rfl (q := 40) rfl ?_
  refine Go.imul X107.here hx (Jvm.hb hby d1_40) (v := (0 : Int32)) (by decide) (q := 41) rfl ?_
  refine Go.newarr X107 hx hZ (aty := .double) (word hw 0 rfl) e107 (Jvm.hb hby d1_41) (by decide) (k := 0) (by decide) (by decide) (by decide) (by decide) (ad := "[D") (by decide) (q := 43) rfl ?_
  intro T110 h110 a110 kk110 g110 X110 e110 E110 R110 A110
  have z111 : n0 ≤ h104.size := Nat.le_trans Z0 (Nat.le_of_eq W104.size.symm)
  have z112 : n0 ≤ h107.size := Nat.le_trans z111 (Nat.le_of_eq W107.size.symm)
  have r113 : n0 ≤ a110 := Nat.le_trans z112 (Nat.le_of_eq g110.symm)
  have k114 : Keep h0 h104 [a1] := (Keep.refl h0 [a1]).wr W104 (Or.inl (List.mem_of_getElem? (i := 0) rfl))
  have k115 : Keep h0 h107 [a1] := k114.wr W107 (Or.inl (List.mem_of_getElem? (i := 0) rfl))
  have y113 : h0.size ≤ a110 := Nat.le_trans k115.1 (Nat.le_of_eq g110.symm)
  have R110 : Row Z h110 a110 .double kk110 [] := R110
  have f117 := F3.other W104 (Or.inr (Jvm.RoadKit.slot_ne (Or.inl (word hw 16 rfl)) (Or.inr (word hw 12 rfl)) (by decide) (t := (.array .double)) (t' := .int) (by decide) (by decide)))
  have f118 := f117.other W107 (Or.inr (Jvm.RoadKit.slot_ne (Or.inl (word hw 16 rfl)) (Or.inr (word hw 14 rfl)) (by decide) (t := (.array .double)) (t' := .int) (by decide) (by decide)))
  have f119 := f118.ext E110
  have f120 := f109.wr W107
  have f121 := f120.ext E110
  refine Go.putf X110 hx hZ hown (word hw 15 rfl) e110 f119 f121 (Or.inl (word hw 16 rfl)) (word hw 3 rfl) (ty := (.array .double)) (by decide) rfl rfl (Jvm.hb hby d1_43) (q := 46) rfl ?_
  intro T116 h116 X116 e116 W116
  have N116 := Fr.snoc X116 N107 g1
  have F116 := f119.same W116
  refine Go.aloadN X116.here hx (Jvm.hb hby d1_46) rfl rfl (q := 47) rfl ?_
  refine Go.new X116 hx hZ hown (word hw 17 rfl) (word hw 18 rfl) (word hw 19 rfl) e116 (Jvm.hb hby d1_47) (by decide) (by decide) (q := 50) rfl ?_
  intro T122 h122 a122 g122 X122 e122 E122 A122 D122
  have z123 : n0 ≤ h110.size := Nat.le_trans z112 E110.1
  have z124 : n0 ≤ h116.size := Nat.le_trans z123 (Nat.le_of_eq W116.size.symm)
  have r125 : n0 ≤ a122 := Nat.le_trans z124 (Nat.le_of_eq g122.symm)
  have k126 : Keep h0 h110 [a1] := k115.ext E110
  have k127 : Keep h0 h116 [a1] := k126.wr W116 (Or.inl (List.mem_of_getElem? (i := 0) rfl))
  have y125 : h0.size ≤ a122 := Nat.le_trans k127.1 (Nat.le_of_eq g122.symm)
  have F128 : Fld Z h122 a122 "com/example/ratewright/ratewright/inference/GradientCorrection$NormalEquations" "size" "I" (.int (0 : Int32)) := D122 (Or.inr (word hw 25 rfl)) (ty := .int) (by decide)
  have F129 : Fld Z h122 a122 "com/example/ratewright/ratewright/inference/GradientCorrection$NormalEquations" "products" "[D" .null := D122 (Or.inr (word hw 27 rfl)) (ty := (.array .double)) (by decide)
  have F130 : Fld Z h122 a122 "com/example/ratewright/ratewright/inference/GradientCorrection$NormalEquations" "right" "[D" .null := D122 (Or.inr (word hw 29 rfl)) (ty := (.array .double)) (by decide)
  refine Go.dup X122.here hx (Jvm.hb hby d1_50) rfl (q := 51) rfl ?_
  refine Go.aloadN X122.here hx (Jvm.hb hby d1_51) rfl rfl (q := 52) rfl ?_
  have f132 := F107.ext E110
  have f133 := f132.other W116 (Or.inr (Jvm.RoadKit.slot_ne (Or.inr (word hw 14 rfl)) (Or.inl (word hw 16 rfl)) (by decide) (t := .int) (t' := (.array .double)) (by decide) (by decide)))
  have f134 := f133.ext E122
  refine Go.getf X122 hx hZ hown (word hw 13 rfl) e122 f134 (Jvm.hb hby d1_52) (q := 55) rfl ?_
  intro T131 X131 e131
  have z136 : n0 ≤ h122.size := Nat.le_trans z124 E122.1
  refine Go.special X131 hx hZ (y := (⟨"com/example/ratewright/ratewright/inference/GradientCorrection$NormalEquations", "<init>", "(I)V"⟩ : MethodName)) rfl hown (word hw 20 rfl) (word hw 21 rfl) (word hw 22 rfl) (word hw 19 rfl) (by decide) (rm_ne0 l Z a0 hw a122 (.int (0 : Int32)) .null .null h122 n0 z136 A122 F128 F129 F130 r125) e131 (a := a122) (argsL := [(.int (0 : Int32))]) (rest := [(.ref a122), (.ref a1)]) (W := 2) (Jvm.hb hby d1_55) rfl rfl (lenOf (pd0) rfl) (by rw [hml]; rfl) (Nat.le_of_eq rfl) (by decide) (by decide) (by decide) (by decide) (q := 58) rfl ?_
  intro T135 L135 w135 X135 hQ135
  obtain ⟨rfl, M135, K135, P135_0⟩ := hQ135
  have N135 := Fr.app N116 M135
  show Go p e below _ (T135.setTop (mkF m 58 #[.val (.ref a1), .val (.int (0 : Int32)), .val (.int w2), .val (.int (1 : Int32)), .unset] [(.ref a122), (.ref a1)]))
  have f138 := F4.other W104 (Or.inr (Jvm.RoadKit.slot_ne (Or.inr (word hw 31 rfl)) (Or.inr (word hw 12 rfl)) (by decide) (t := (.object "com/example/ratewright/ratewright/inference/GradientCorrection$NormalEquations")) (t' := .int) (by decide) (by decide)))
  have f139 := f138.other W107 (Or.inr (Jvm.RoadKit.slot_ne (Or.inr (word hw 31 rfl)) (Or.inr (word hw 14 rfl)) (by decide) (t := (.object "com/example/ratewright/ratewright/inference/GradientCorrection$NormalEquations")) (t' := .int) (by decide) (by decide)))
  have f140 := f139.ext E110
  have f141 := f140.other W116 (Or.inr (Jvm.RoadKit.slot_ne (Or.inr (word hw 31 rfl)) (Or.inl (word hw 16 rfl)) (by decide) (t := (.object "com/example/ratewright/ratewright/inference/GradientCorrection$NormalEquations")) (t' := (.array .double)) (by decide) (by decide)))
  have f142 := f141.ext E122
  have f144 := f121.wr W116
  have ne145 : a1 ≠ a122 := Nat.ne_of_lt (Nat.lt_of_lt_of_le f144.lt (Nat.le_of_eq g122.symm))
  have f143 := f142.keep K135 (ninS ne145 nin0)
  have f146 := f144.ext E122
  have f147 := f146.keep K135
  refine Go.putf X135 hx hZ hown (word hw 30 rfl) rfl f143 f147 (Or.inr ⟨(word hw 31 rfl), rfl, hnm⟩) (word hw 3 rfl) (ty := (.object "com/example/ratewright/ratewright/inference/GradientCorrection$NormalEquations")) (by decide) rfl rfl (Jvm.hb hby d1_58) (q := 61) rfl ?_
  intro T137 h137 X137 e137 W137
  have N137 := Fr.snoc X137 N135 g1
  have F137 := f143.same W137
  refine Go.aloadN X137.here hx (Jvm.hb hby d1_61) rfl rfl (q := 62) rfl ?_
  refine Go.new X137 hx hZ hown (word hw 17 rfl) (word hw 18 rfl) (word hw 19 rfl) e137 (Jvm.hb hby d1_62) (by decide) (by decide) (q := 65) rfl ?_
  intro T148 h148 a148 g148 X148 e148 E148 A148 D148
  have z149 : n0 ≤ T135.heap.size := Nat.le_trans z136 K135.1
  have z150 : n0 ≤ h137.size := Nat.le_trans z149 (Nat.le_of_eq W137.size.symm)
  have r151 : n0 ≤ a148 := Nat.le_trans z150 (Nat.le_of_eq g148.symm)
  have k152 : Keep h0 h122 [a1] := k127.ext E122
  have k153 : Keep h0 T135.heap [a1] := k152.trans K135 (allS (Or.inr y125) all0)
  have k154 : Keep h0 h137 [a1] := k153.wr W137 (Or.inl (List.mem_of_getElem? (i := 0) rfl))
  have y151 : h0.size ≤ a148 := Nat.le_trans k154.1 (Nat.le_of_eq g148.symm)
  have F155 : Fld Z h148 a148 "com/example/ratewright/ratewright/inference/GradientCorrection$NormalEquations" "size" "I" (.int (0 : Int32)) := D148 (Or.inr (word hw 25 rfl)) (ty := .int) (by decide)
  have F156 : Fld Z h148 a148 "com/example/ratewright/ratewright/inference/GradientCorrection$NormalEquations" "products" "[D" .null := D148 (Or.inr (word hw 27 rfl)) (ty := (.array .double)) (by decide)
  have F157 : Fld Z h148 a148 "com/example/ratewright/ratewright/inference/GradientCorrection$NormalEquations" "right" "[D" .null := D148 (Or.inr (word hw 29 rfl)) (ty := (.array .double)) (by decide)
  refine Go.dup X148.here hx (Jvm.hb hby d1_65) rfl (q := 66) rfl ?_
  refine Go.aloadN X148.here hx (Jvm.hb hby d1_66) rfl rfl (q := 67) rfl ?_
  have f159 := f134.keep K135 (ninS ne145 nin0)
  have f160 := f159.other W137 (Or.inr (Jvm.RoadKit.slot_ne (Or.inr (word hw 14 rfl)) (Or.inr (word hw 31 rfl)) (by decide) (t := .int) (t' := (.object "com/example/ratewright/ratewright/inference/GradientCorrection$NormalEquations")) (by decide) (by decide)))
  have f161 := f160.ext E148
  refine Go.getf X148 hx hZ hown (word hw 13 rfl) e148 f161 (Jvm.hb hby d1_67) (q := 70) rfl ?_
  intro T158 X158 e158
  have z163 : n0 ≤ h148.size := Nat.le_trans z150 E148.1
  refine Go.special X158 hx hZ (y := (⟨"com/example/ratewright/ratewright/inference/GradientCorrection$NormalEquations", "<init>", "(I)V"⟩ : MethodName)) rfl hown (word hw 20 rfl) (word hw 21 rfl) (word hw 22 rfl) (word hw 19 rfl) (by decide) (rm_ne0 l Z a0 hw a148 (.int (0 : Int32)) .null .null h148 n0 z163 A148 F155 F156 F157 r151) e158 (a := a148) (argsL := [(.int (0 : Int32))]) (rest := [(.ref a148), (.ref a1)]) (W := 2) (Jvm.hb hby d1_70) rfl rfl (lenOf (pd0) rfl) (by rw [hml]; rfl) (Nat.le_of_eq rfl) (by decide) (by decide) (by decide) (by decide) (q := 73) rfl ?_
  intro T162 L162 w162 X162 hQ162
  obtain ⟨rfl, M162, K162, P162_0⟩ := hQ162
  have N162 := Fr.app N137 M162
  show Go p e below _ (T162.setTop (mkF m 73 #[.val (.ref a1), .val (.int (0 : Int32)), .val (.int w2), .val (.int (1 : Int32)), .unset] [(.ref a148), (.ref a1)]))
  have f165 := F5.other W104 (Or.inr (Jvm.RoadKit.slot_ne (Or.inr (word hw 33 rfl)) (Or.inr (word hw 12 rfl)) (by decide) (t := (.object "com/example/ratewright/ratewright/inference/GradientCorrection$NormalEquations")) (t' := .int) (by decide) (by decide)))
  have f166 := f165.other W107 (Or.inr (Jvm.RoadKit.slot_ne (Or.inr (word hw 33 rfl)) (Or.inr (word hw 14 rfl)) (by decide) (t := (.object "com/example/ratewright/ratewright/inference/GradientCorrection$NormalEquations")) (t' := .int) (by decide) (by decide)))
  have f167 := f166.ext E110
  have f168 := f167.other W116 (Or.inr (Jvm.RoadKit.slot_ne (Or.inr (word hw 33 rfl)) (Or.inl (word hw 16 rfl)) (by decide) (t := (.object "com/example/ratewright/ratewright/inference/GradientCorrection$NormalEquations")) (t' := (.array .double)) (by decide) (by decide)))
  have f169 := f168.ext E122
  have f170 := f169.keep K135 (ninS ne145 nin0)
  have f171 := f170.other W137 (Or.inr (Jvm.RoadKit.slot_ne (Or.inr (word hw 33 rfl)) (Or.inr (word hw 31 rfl)) (by decide) (t := (.object "com/example/ratewright/ratewright/inference/GradientCorrection$NormalEquations")) (t' := (.object "com/example/ratewright/ratewright/inference/GradientCorrection$NormalEquations")) (by decide) (by decide)))
  have f172 := f171.ext E148
  have f174 := f147.wr W137
  have ne175 : a1 ≠ a148 := Nat.ne_of_lt (Nat.lt_of_lt_of_le f174.lt (Nat.le_of_eq g148.symm))
  have f173 := f172.keep K162 (ninS ne175 nin0)
  have f176 := f174.ext E148
  have f177 := f176.keep K162
  refine Go.putf X162 hx hZ hown (word hw 32 rfl) rfl f173 f177 (Or.inr ⟨(word hw 33 rfl), rfl, hnm⟩) (word hw 3 rfl) (ty := (.object "com/example/ratewright/ratewright/inference/GradientCorrection$NormalEquations")) (by decide) rfl rfl (Jvm.hb hby d1_73) (q := 76) rfl ?_
  intro T164 h164 X164 e164 W164
  have N164 := Fr.snoc X164 N162 g1
  have F164 := f173.same W164
  refine Go.aloadN X164.here hx (Jvm.hb hby d1_76) rfl rfl (q := 77) rfl ?_
  refine Go.iloadN X164.here hx (Jvm.hb hby d1_77) rfl (q := 78) rfl ?_
  have hc78_179 : ¬ ((1 : Int32) = (0 : Int32)) := by decide
  refine Go.ifN X164.here hx (Jvm.hb hby d1_78) ((if0 _ _).trans (feq hc78_179).1) (q := 81) rfl ?_
  refine Go.sipush X164.here hx (Jvm.hb hby d1_81) (v := (1000 : Int32)) rfl (q := 84) rfl ?_
  refine Go.goto X164.here hx (Jvm.hb hby d1_84) (by decide) (q := 88) rfl ?_
  refine Go.newarrs X164 hx hZ hown (ty := .double) (C := "[D") (by decide) (word hw 34 rfl) (word hw 35 rfl) e164 (Jvm.hb hby d1_88) (by decide) (k := 1000) (by decide) (by decide) (by decide) (by decide) (ad := "[[D") (by decide) (q := 91) rfl ?_
  intro T180 h180 a180 kk180 g180 X180 e180 E180 R180 A180
  have z181 : n0 ≤ T162.heap.size := Nat.le_trans z163 K162.1
  have z182 : n0 ≤ h164.size := Nat.le_trans z181 (Nat.le_of_eq W164.size.symm)
  have r183 : n0 ≤ a180 := Nat.le_trans z182 (Nat.le_of_eq g180.symm)
  have k184 : Keep h0 h148 [a1] := k154.ext E148
  have k185 : Keep h0 T162.heap [a1] := k184.trans K162 (allS (Or.inr y151) all0)
  have k186 : Keep h0 h164 [a1] := k185.wr W164 (Or.inl (List.mem_of_getElem? (i := 0) rfl))
  have y183 : h0.size ≤ a180 := Nat.le_trans k186.1 (Nat.le_of_eq g180.symm)
  have f188 := F6.other W104 (Or.inr (Jvm.RoadKit.slot_ne (Or.inr (word hw 37 rfl)) (Or.inr (word hw 12 rfl)) (by decide) (t := (.array (.array .double))) (t' := .int) (by decide) (by decide)))
  have f189 := f188.other W107 (Or.inr (Jvm.RoadKit.slot_ne (Or.inr (word hw 37 rfl)) (Or.inr (word hw 14 rfl)) (by decide) (t := (.array (.array .double))) (t' := .int) (by decide) (by decide)))
  have f190 := f189.ext E110
  have f191 := f190.other W116 (Or.inr (Jvm.RoadKit.slot_ne (Or.inr (word hw 37 rfl)) (Or.inl (word hw 16 rfl)) (by decide) (t := (.array (.array .double))) (t' := (.array .double)) (by decide) (by decide)))
  have f192 := f191.ext E122
  have f193 := f192.keep K135 (ninS ne145 nin0)
  have f194 := f193.other W137 (Or.inr (Jvm.RoadKit.slot_ne (Or.inr (word hw 37 rfl)) (Or.inr (word hw 31 rfl)) (by decide) (t := (.array (.array .double))) (t' := (.object "com/example/ratewright/ratewright/inference/GradientCorrection$NormalEquations")) (by decide) (by decide)))
  have f195 := f194.ext E148
  have f196 := f195.keep K162 (ninS ne175 nin0)
  have f197 := f196.other W164 (Or.inr (Jvm.RoadKit.slot_ne (Or.inr (word hw 37 rfl)) (Or.inr (word hw 33 rfl)) (by decide) (t := (.array (.array .double))) (t' := (.object "com/example/ratewright/ratewright/inference/GradientCorrection$NormalEquations")) (by decide) (by decide)))
  have f198 := f197.ext E180
  have f199 := f177.wr W164
  have f200 := f199.ext E180
  refine Go.putf X180 hx hZ hown (word hw 36 rfl) e180 f198 f200 (Or.inr ⟨(word hw 37 rfl), rfl, hnm⟩) (word hw 3 rfl) (ty := (.array (.array .double))) (by decide) rfl rfl (Jvm.hb hby d1_91) (q := 94) rfl ?_
  intro T187 h187 X187 e187 W187
  have N187 := Fr.snoc X187 N164 g1
  have F187 := f198.same W187
  refine Go.aloadN X187.here hx (Jvm.hb hby d1_94) rfl rfl (q := 95) rfl ?_
  refine Go.aloadN X187.here hx (Jvm.hb hby d1_95) rfl rfl (q := 96) rfl ?_
  refine Go.getf X187 hx hZ hown (word hw 36 rfl) e187 F187 (Jvm.hb hby d1_96) (q := 99) rfl ?_
  intro T201 X201 e201
  have ne203 : a1 ≠ a180 := Nat.ne_of_lt (Nat.lt_of_lt_of_le f199.lt (Nat.le_of_eq g180.symm))
  have f202 := R180.other W187 (Ne.symm ne203)
  refine Go.alen X201 hx hZ e201 f202 (Jvm.hb hby d1_99) (n := (1000 : Int32)) (by rw [List.length_replicate]; decide) (q := 100) rfl ?_
  refine Go.newarr X201 hx hZ (aty := .double) (word hw 0 rfl) e201 (Jvm.hb hby d1_100) (by decide) (k := 1000) (by decide) (by decide) (by decide) (by decide) (ad := "[D") (by decide) (q := 102) rfl ?_
  intro T204 h204 a204 kk204 g204 X204 e204 E204 R204 A204
  have z205 : n0 ≤ h180.size := Nat.le_trans z182 E180.1
  have z206 : n0 ≤ h187.size := Nat.le_trans z205 (Nat.le_of_eq W187.size.symm)
  have r207 : n0 ≤ a204 := Nat.le_trans z206 (Nat.le_of_eq g204.symm)
  have k208 : Keep h0 h180 [a1] := k186.ext E180
  have k209 : Keep h0 h187 [a1] := k208.wr W187 (Or.inl (List.mem_of_getElem? (i := 0) rfl))
  have y207 : h0.size ≤ a204 := Nat.le_trans k209.1 (Nat.le_of_eq g204.symm)
  have f211 := F7.other W104 (Or.inr (Jvm.RoadKit.slot_ne (Or.inr (word hw 39 rfl)) (Or.inr (word hw 12 rfl)) (by decide) (t := (.array .double)) (t' := .int) (by decide) (by decide)))
  have f212 := f211.other W107 (Or.inr (Jvm.RoadKit.slot_ne (Or.inr (word hw 39 rfl)) (Or.inr (word hw 14 rfl)) (by decide) (t := (.array .double)) (t' := .int) (by decide) (by decide)))
  have f213 := f212.ext E110
  have f214 := f213.other W116 (Or.inr (Jvm.RoadKit.slot_ne (Or.inr (word hw 39 rfl)) (Or.inl (word hw 16 rfl)) (by decide) (t := (.array .double)) (t' := (.array .double)) (by decide) (by decide)))
  have f215 := f214.ext E122
  have f216 := f215.keep K135 (ninS ne145 nin0)
  have f217 := f216.other W137 (Or.inr (Jvm.RoadKit.slot_ne (Or.inr (word hw 39 rfl)) (Or.inr (word hw 31 rfl)) (by decide) (t := (.array .double)) (t' := (.object "com/example/ratewright/ratewright/inference/GradientCorrection$NormalEquations")) (by decide) (by decide)))
  have f218 := f217.ext E148
  have f219 := f218.keep K162 (ninS ne175 nin0)
  have f220 := f219.other W164 (Or.inr (Jvm.RoadKit.slot_ne (Or.inr (word hw 39 rfl)) (Or.inr (word hw 33 rfl)) (by decide) (t := (.array .double)) (t' := (.object "com/example/ratewright/ratewright/inference/GradientCorrection$NormalEquations")) (by decide) (by decide)))
  have f221 := f220.ext E180
  have f222 := f221.other W187 (Or.inr (Jvm.RoadKit.slot_ne (Or.inr (word hw 39 rfl)) (Or.inr (word hw 37 rfl)) (by decide) (t := (.array .double)) (t' := (.array (.array .double))) (by decide) (by decide)))
  have f223 := f222.ext E204
  have f224 := f200.wr W187
  have f225 := f224.ext E204
  refine Go.putf X204 hx hZ hown (word hw 38 rfl) e204 f223 f225 (Or.inr ⟨(word hw 39 rfl), rfl, hnm⟩) (word hw 3 rfl) (ty := (.array .double)) (by decide) rfl rfl (Jvm.hb hby d1_102) (q := 105) rfl ?_
  intro T210 h210 X210 e210 W210
  have N210 := Fr.snoc X210 N187 g1
  have F210 := f223.same W210
  refine Go.iloadN X210.here hx (Jvm.hb hby d1_105) rfl (q := 106) rfl ?_
  have hc106_227 : ¬ ((1 : Int32) = (0 : Int32)) := by decide
  refine Go.ifN X210.here hx (Jvm.hb hby d1_106) ((if0 _ _).trans (feq hc106_227).1) (q := 109) rfl ?_
  refine Go.iloadN X210.here hx (Jvm.hb hby d1_109) rfl (q := 110) rfl ?_
  refine Go.goto X210.here hx (Jvm.hb hby d1_110) (by decide) (q := 114) rfl ?_
  refine Go.istore X210.here hx (Jvm.hb hby d1_114) (l2 := #[.val (.ref a1), .val (.int (0 : Int32)), .val (.int w2), .val (.int (1 : Int32)), .val (.int w2)]) rfl (q := 116) rfl ?_
  refine Go.aloadN X210.here hx (Jvm.hb hby d1_116) rfl rfl (q := 117) rfl ?_
  rcases hm with rfl | rfl | rfl | rfl
  · -- w2 = 0
    refine Go.iload X210.here hx (Jvm.hb hby d1_117) rfl (q := 119) rfl ?_
    refine Go.aloadN X210.here hx (Jvm.hb hby d1_119) rfl rfl (q := 120) rfl ?_
    have f229 := f161.keep K162 (ninS ne175 nin0)
    have f230 := f229.other W164 (Or.inr (Jvm.RoadKit.slot_ne (Or.inr (word hw 14 rfl)) (Or.inr (word hw 33 rfl)) (by decide) (t := .int) (t' := (.object "com/example/ratewright/ratewright/inference/GradientCorrection$NormalEquations")) (by decide) (by decide)))
    have f231 := f230.ext E180
    have f232 := f231.other W187 (Or.inr (Jvm.RoadKit.slot_ne (Or.inr (word hw 14 rfl)) (Or.inr (word hw 37 rfl)) (by decide) (t := .int) (t' := (.array (.array .double))) (by decide) (by decide)))
    have f233 := f232.ext E204
    have f234 := f233.other W210 (Or.inr (Jvm.RoadKit.slot_ne (Or.inr (word hw 14 rfl)) (Or.inr (word hw 39 rfl)) (by decide) (t := .int) (t' := (.array .double)) (by decide) (by decide)))
    refine Go.getf X210 hx hZ hown (word hw 13 rfl) e210 f234 (Jvm.hb hby d1_120) (q := 123) rfl ?_
    intro T228 X228 e228
    refine Go.grid X228 hx hZ hown (ty := .double) (C := "[D") (by decide) (by decide) (word hw 40 rfl) (word hw 35 rfl) (word hw 0 rfl) e228 (Jvm.hb hby d1_123) (by decide) (by decide) (N := 0) (by decide) (K := 0) (by decide) (by decide) (by decide) rfl rfl (by decide) (by decide) (q := 127) rfl ?_
    intro T235 h235 a235 g235 X235 e235 E235 A235
    have z236 : n0 ≤ h204.size := Nat.le_trans z206 E204.1
    have z237 : n0 ≤ h210.size := Nat.le_trans z236 (Nat.le_of_eq W210.size.symm)
    have r238 : n0 ≤ a235 := Nat.le_trans z237 (Nat.le_of_eq g235.symm)
    have k239 : Keep h0 h204 [a1] := k209.ext E204
    have k240 : Keep h0 h210 [a1] := k239.wr W210 (Or.inl (List.mem_of_getElem? (i := 0) rfl))
    have y238 : h0.size ≤ a235 := Nat.le_trans k240.1 (Nat.le_of_eq g235.symm)
    have f242 := F8.other W104 (Or.inr (Jvm.RoadKit.slot_ne (Or.inr (word hw 42 rfl)) (Or.inr (word hw 12 rfl)) (by decide) (t := (.array (.array .double))) (t' := .int) (by decide) (by decide)))
    have f243 := f242.other W107 (Or.inr (Jvm.RoadKit.slot_ne (Or.inr (word hw 42 rfl)) (Or.inr (word hw 14 rfl)) (by decide) (t := (.array (.array .double))) (t' := .int) (by decide) (by decide)))
    have f244 := f243.ext E110
    have f245 := f244.other W116 (Or.inr (Jvm.RoadKit.slot_ne (Or.inr (word hw 42 rfl)) (Or.inl (word hw 16 rfl)) (by decide) (t := (.array (.array .double))) (t' := (.array .double)) (by decide) (by decide)))
    have f246 := f245.ext E122
    have f247 := f246.keep K135 (ninS ne145 nin0)
    have f248 := f247.other W137 (Or.inr (Jvm.RoadKit.slot_ne (Or.inr (word hw 42 rfl)) (Or.inr (word hw 31 rfl)) (by decide) (t := (.array (.array .double))) (t' := (.object "com/example/ratewright/ratewright/inference/GradientCorrection$NormalEquations")) (by decide) (by decide)))
    have f249 := f248.ext E148
    have f250 := f249.keep K162 (ninS ne175 nin0)
    have f251 := f250.other W164 (Or.inr (Jvm.RoadKit.slot_ne (Or.inr (word hw 42 rfl)) (Or.inr (word hw 33 rfl)) (by decide) (t := (.array (.array .double))) (t' := (.object "com/example/ratewright/ratewright/inference/GradientCorrection$NormalEquations")) (by decide) (by decide)))
    have f252 := f251.ext E180
    have f253 := f252.other W187 (Or.inr (Jvm.RoadKit.slot_ne (Or.inr (word hw 42 rfl)) (Or.inr (word hw 37 rfl)) (by decide) (t := (.array (.array .double))) (t' := (.array (.array .double))) (by decide) (by decide)))
    have f254 := f253.ext E204
    have f255 := f254.other W210 (Or.inr (Jvm.RoadKit.slot_ne (Or.inr (word hw 42 rfl)) (Or.inr (word hw 39 rfl)) (by decide) (t := (.array (.array .double))) (t' := (.array .double)) (by decide) (by decide)))
    have f256 := f255.ext E235
    have f257 := f225.wr W210
    have f258 := f257.ext E235
    refine Go.putf X235 hx hZ hown (word hw 41 rfl) e235 f256 f258 (Or.inr ⟨(word hw 42 rfl), rfl, hnm⟩) (word hw 3 rfl) (ty := (.array (.array .double))) (by decide) rfl rfl (Jvm.hb hby d1_127) (q := 130) rfl ?_
    intro T241 h241 X241 e241 W241
    have N241 := Fr.snoc X241 N210 g1
    have F241 := f256.same W241
    refine Go.aloadN X241.here hx (Jvm.hb hby d1_130) rfl rfl (q := 131) rfl ?_
    refine Go.iload X241.here hx (Jvm.hb hby d1_131) rfl (q := 133) rfl ?_
    refine Go.newarr X241 hx hZ (aty := .double) (word hw 0 rfl) e241 (Jvm.hb hby d1_133) (by decide) (k := 0) (by decide) (by decide) (by decide) (by decide) (ad := "[D") (by decide) (q := 135) rfl ?_
    intro T259 h259 a259 kk259 g259 X259 e259 E259 R259 A259
    have z260 : n0 ≤ h235.size := Nat.le_trans z237 E235.1
    have z261 : n0 ≤ h241.size := Nat.le_trans z260 (Nat.le_of_eq W241.size.symm)
    have r262 : n0 ≤ a259 := Nat.le_trans z261 (Nat.le_of_eq g259.symm)
    have k263 : Keep h0 h235 [a1] := k240.ext E235
    have k264 : Keep h0 h241 [a1] := k263.wr W241 (Or.inl (List.mem_of_getElem? (i := 0) rfl))
    have y262 : h0.size ≤ a259 := Nat.le_trans k264.1 (Nat.le_of_eq g259.symm)
    have R259 : Row Z h259 a259 .double kk259 [] := R259
    have f266 := F9.other W104 (Or.inr (Jvm.RoadKit.slot_ne (Or.inr (word hw 44 rfl)) (Or.inr (word hw 12 rfl)) (by decide) (t := (.array .double)) (t' := .int) (by decide) (by decide)))
    have f267 := f266.other W107 (Or.inr (Jvm.RoadKit.slot_ne (Or.inr (word hw 44 rfl)) (Or.inr (word hw 14 rfl)) (by decide) (t := (.array .double)) (t' := .int) (by decide) (by decide)))
    have f268 := f267.ext E110
    have f269 := f268.other W116 (Or.inr (Jvm.RoadKit.slot_ne (Or.inr (word hw 44 rfl)) (Or.inl (word hw 16 rfl)) (by decide) (t := (.array .double)) (t' := (.array .double)) (by decide) (by decide)))
    have f270 := f269.ext E122
    have f271 := f270.keep K135 (ninS ne145 nin0)
    have f272 := f271.other W137 (Or.inr (Jvm.RoadKit.slot_ne (Or.inr (word hw 44 rfl)) (Or.inr (word hw 31 rfl)) (by decide) (t := (.array .double)) (t' := (.object "com/example/ratewright/ratewright/inference/GradientCorrection$NormalEquations")) (by decide) (by decide)))
    have f273 := f272.ext E148
    have f274 := f273.keep K162 (ninS ne175 nin0)
    have f275 := f274.other W164 (Or.inr (Jvm.RoadKit.slot_ne (Or.inr (word hw 44 rfl)) (Or.inr (word hw 33 rfl)) (by decide) (t := (.array .double)) (t' := (.object "com/example/ratewright/ratewright/inference/GradientCorrection$NormalEquations")) (by decide) (by decide)))
    have f276 := f275.ext E180
    have f277 := f276.other W187 (Or.inr (Jvm.RoadKit.slot_ne (Or.inr (word hw 44 rfl)) (Or.inr (word hw 37 rfl)) (by decide) (t := (.array .double)) (t' := (.array (.array .double))) (by decide) (by decide)))
    have f278 := f277.ext E204
    have f279 := f278.other W210 (Or.inr (Jvm.RoadKit.slot_ne (Or.inr (word hw 44 rfl)) (Or.inr (word hw 39 rfl)) (by decide) (t := (.array .double)) (t' := (.array .double)) (by decide) (by decide)))
    have f280 := f279.ext E235
    have f281 := f280.other W241 (Or.inr (Jvm.RoadKit.slot_ne (Or.inr (word hw 44 rfl)) (Or.inr (word hw 42 rfl)) (by decide) (t := (.array .double)) (t' := (.array (.array .double))) (by decide) (by decide)))
    have f282 := f281.ext E259
    have f283 := f258.wr W241
    have f284 := f283.ext E259
    refine Go.putf X259 hx hZ hown (word hw 43 rfl) e259 f282 f284 (Or.inr ⟨(word hw 44 rfl), rfl, hnm⟩) (word hw 3 rfl) (ty := (.array .double)) (by decide) rfl rfl (Jvm.hb hby d1_135) (q := 138) rfl ?_
    intro T265 h265 X265 e265 W265
    have N265 := Fr.snoc X265 N241 g1
    have F265 := f282.same W265
    have k285 : Keep h0 h259 [a1] := k264.ext E259
    have k286 : Keep h0 h265 [a1] := k285.wr W265 (Or.inl (List.mem_of_getElem? (i := 0) rfl))
    have f287 := f284.wr W265
    have f288 := F104.other W107 (Or.inr (Jvm.RoadKit.slot_ne (Or.inr (word hw 12 rfl)) (Or.inr (word hw 14 rfl)) (by decide) (t := .int) (t' := .int) (by decide) (by decide)))
    have f289 := f288.ext E110
    have f290 := f289.other W116 (Or.inr (Jvm.RoadKit.slot_ne (Or.inr (word hw 12 rfl)) (Or.inl (word hw 16 rfl)) (by decide) (t := .int) (t' := (.array .double)) (by decide) (by decide)))
    have f291 := f290.ext E122
    have f292 := f291.keep K135 (ninS ne145 nin0)
    have f293 := f292.other W137 (Or.inr (Jvm.RoadKit.slot_ne (Or.inr (word hw 12 rfl)) (Or.inr (word hw 31 rfl)) (by decide) (t := .int) (t' := (.object "com/example/ratewright/ratewright/inference/GradientCorrection$NormalEquations")) (by decide) (by decide)))
    have f294 := f293.ext E148
    have f295 := f294.keep K162 (ninS ne175 nin0)
    have f296 := f295.other W164 (Or.inr (Jvm.RoadKit.slot_ne (Or.inr (word hw 12 rfl)) (Or.inr (word hw 33 rfl)) (by decide) (t := .int) (t' := (.object "com/example/ratewright/ratewright/inference/GradientCorrection$NormalEquations")) (by decide) (by decide)))
    have f297 := f296.ext E180
    have f298 := f297.other W187 (Or.inr (Jvm.RoadKit.slot_ne (Or.inr (word hw 12 rfl)) (Or.inr (word hw 37 rfl)) (by decide) (t := .int) (t' := (.array (.array .double))) (by decide) (by decide)))
    have f299 := f298.ext E204
    have f300 := f299.other W210 (Or.inr (Jvm.RoadKit.slot_ne (Or.inr (word hw 12 rfl)) (Or.inr (word hw 39 rfl)) (by decide) (t := .int) (t' := (.array .double)) (by decide) (by decide)))
    have f301 := f300.ext E235
    have f302 := f301.other W241 (Or.inr (Jvm.RoadKit.slot_ne (Or.inr (word hw 12 rfl)) (Or.inr (word hw 42 rfl)) (by decide) (t := .int) (t' := (.array (.array .double))) (by decide) (by decide)))
    have f303 := f302.ext E259
    have f304 := f303.other W265 (Or.inr (Jvm.RoadKit.slot_ne (Or.inr (word hw 12 rfl)) (Or.inr (word hw 44 rfl)) (by decide) (t := .int) (t' := (.array .double)) (by decide) (by decide)))
    have f305 := F116.ext E122
    have f306 := f305.keep K135 (ninS ne145 nin0)
    have f307 := f306.other W137 (Or.inr (Jvm.RoadKit.slot_ne (Or.inl (word hw 16 rfl)) (Or.inr (word hw 31 rfl)) (by decide) (t := (.array .double)) (t' := (.object "com/example/ratewright/ratewright/inference/GradientCorrection$NormalEquations")) (by decide) (by decide)))
    have f308 := f307.ext E148
    have f309 := f308.keep K162 (ninS ne175 nin0)
    have f310 := f309.other W164 (Or.inr (Jvm.RoadKit.slot_ne (Or.inl (word hw 16 rfl)) (Or.inr (word hw 33 rfl)) (by decide) (t := (.array .double)) (t' := (.object "com/example/ratewright/ratewright/inference/GradientCorrection$NormalEquations")) (by decide) (by decide)))
    have f311 := f310.ext E180
    have f312 := f311.other W187 (Or.inr (Jvm.RoadKit.slot_ne (Or.inl (word hw 16 rfl)) (Or.inr (word hw 37 rfl)) (by decide) (t := (.array .double)) (t' := (.array (.array .double))) (by decide) (by decide)))
    have f313 := f312.ext E204
    have f314 := f313.other W210 (Or.inr (Jvm.RoadKit.slot_ne (Or.inl (word hw 16 rfl)) (Or.inr (word hw 39 rfl)) (by decide) (t := (.array .double)) (t' := (.array .double)) (by decide) (by decide)))
    have f315 := f314.ext E235
    have f316 := f315.other W241 (Or.inr (Jvm.RoadKit.slot_ne (Or.inl (word hw 16 rfl)) (Or.inr (word hw 42 rfl)) (by decide) (t := (.array .double)) (t' := (.array (.array .double))) (by decide) (by decide)))
    have f317 := f316.ext E259
    have f318 := f317.other W265 (Or.inr (Jvm.RoadKit.slot_ne (Or.inl (word hw 16 rfl)) (Or.inr (word hw 44 rfl)) (by decide) (t := (.array .double)) (t' := (.array .double)) (by decide) (by decide)))
    have ne320 : a1 ≠ a110 := Nat.ne_of_lt (Nat.lt_of_lt_of_le f120.lt (Nat.le_of_eq g110.symm))
    have f319 := R110.other W116 (Ne.symm ne320)
    have f321 := f319.ext E122
    have ne323 : a110 ≠ a122 := Nat.ne_of_lt (Nat.lt_of_lt_of_le f319.lt (Nat.le_of_eq g122.symm))
    have f322 := f321.keep K135 (ninS ne323 nin0)
    have f324 := f322.other W137 (Ne.symm ne320)
    have f325 := f324.ext E148
    have ne327 : a110 ≠ a148 := Nat.ne_of_lt (Nat.lt_of_lt_of_le f324.lt (Nat.le_of_eq g148.symm))
    have f326 := f325.keep K162 (ninS ne327 nin0)
    have f328 := f326.other W164 (Ne.symm ne320)
    have f329 := f328.ext E180
    have f330 := f329.other W187 (Ne.symm ne320)
    have f331 := f330.ext E204
    have f332 := f331.other W210 (Ne.symm ne320)
    have f333 := f332.ext E235
    have f334 := f333.other W241 (Ne.symm ne320)
    have f335 := f334.ext E259
    have f336 := f335.other W265 (Ne.symm ne320)
    refine Go.retV X265 hx hret hlk (Jvm.hb hby d1_138) (by decide) (by decide) ?_
    rw [e265]
    exact ⟨a110, kk110, rfl, N265, k286, y113, f287, f304, f318, f336⟩
  · -- w2 = 1
    refine Go.iload X210.here hx (Jvm.hb hby d1_117) rfl (q := 119) rfl ?_
    refine Go.aloadN X210.here hx (Jvm.hb hby d1_119) rfl rfl (q := 120) rfl ?_
    have f338 := f161.keep K162 (ninS ne175 nin0)
    have f339 := f338.other W164 (Or.inr (Jvm.RoadKit.slot_ne (Or.inr (word hw 14 rfl)) (Or.inr (word hw 33 rfl)) (by decide) (t := .int) (t' := (.object "com/example/ratewright/ratewright/inference/GradientCorrection$NormalEquations")) (by decide) (by decide)))
    have f340 := f339.ext E180
    have f341 := f340.other W187 (Or.inr (Jvm.RoadKit.slot_ne (Or.inr (word hw 14 rfl)) (Or.inr (word hw 37 rfl)) (by decide) (t := .int) (t' := (.array (.array .double))) (by decide) (by decide)))
    have f342 := f341.ext E204
    have f343 := f342.other W210 (Or.inr (Jvm.RoadKit.slot_ne (Or.inr (word hw 14 rfl)) (Or.inr (word hw 39 rfl)) (by decide) (t := .int) (t' := (.array .double)) (by decide) (by decide)))
    refine Go.getf X210 hx hZ hown (word hw 13 rfl) e210 f343 (Jvm.hb hby d1_120) (q := 123) rfl ?_
    intro T337 X337 e337
    refine Go.grid X337 hx hZ hown (ty := .double) (C := "[D") (by decide) (by decide) (word hw 40 rfl) (word hw 35 rfl) (word hw 0 rfl) e337 (Jvm.hb hby d1_123) (by decide) (by decide) (N := 1) (by decide) (K := 0) (by decide) (by decide) (by decide) rfl rfl (by decide) (by decide) (q := 127) rfl ?_
    intro T344 h344 a344 g344 X344 e344 E344 A344
    have z345 : n0 ≤ h204.size := Nat.le_trans z206 E204.1
    have z346 : n0 ≤ h210.size := Nat.le_trans z345 (Nat.le_of_eq W210.size.symm)
    have r347 : n0 ≤ a344 := Nat.le_trans z346 (Nat.le_of_eq g344.symm)
    have k348 : Keep h0 h204 [a1] := k209.ext E204
    have k349 : Keep h0 h210 [a1] := k348.wr W210 (Or.inl (List.mem_of_getElem? (i := 0) rfl))
    have y347 : h0.size ≤ a344 := Nat.le_trans k349.1 (Nat.le_of_eq g344.symm)
    have f351 := F8.other W104 (Or.inr (Jvm.RoadKit.slot_ne (Or.inr (word hw 42 rfl)) (Or.inr (word hw 12 rfl)) (by decide) (t := (.array (.array .double))) (t' := .int) (by decide) (by decide)))
    have f352 := f351.other W107 (Or.inr (Jvm.RoadKit.slot_ne (Or.inr (word hw 42 rfl)) (Or.inr (word hw 14 rfl)) (by decide) (t := (.array (.array .double))) (t' := .int) (by decide) (by decide)))
    have f353 := f352.ext E110
    have f354 := f353.other W116 (Or.inr (Jvm.RoadKit.slot_ne (Or.inr (word hw 42 rfl)) (Or.inl (word hw 16 rfl)) (by decide) (t := (.array (.array .double))) (t' := (.array .double)) (by decide) (by decide)))
    have f355 := f354.ext E122
    have f356 := f355.keep K135 (ninS ne145 nin0)
    have f357 := f356.other W137 (Or.inr (Jvm.RoadKit.slot_ne (Or.inr (word hw 42 rfl)) (Or.inr (word hw 31 rfl)) (by decide) (t := (.array (.array .double))) (t' := (.object "com/example/ratewright/ratewright/inference/GradientCorrection$NormalEquations")) (by decide) (by decide)))
    have f358 := f357.ext E148
    have f359 := f358.keep K162 (ninS ne175 nin0)
    have f360 := f359.other W164 (Or.inr (Jvm.RoadKit.slot_ne (Or.inr (word hw 42 rfl)) (Or.inr (word hw 33 rfl)) (by decide) (t := (.array (.array .double))) (t' := (.object "com/example/ratewright/ratewright/inference/GradientCorrection$NormalEquations")) (by decide) (by decide)))
    have f361 := f360.ext E180
    have f362 := f361.other W187 (Or.inr (Jvm.RoadKit.slot_ne (Or.inr (word hw 42 rfl)) (Or.inr (word hw 37 rfl)) (by decide) (t := (.array (.array .double))) (t' := (.array (.array .double))) (by decide) (by decide)))
    have f363 := f362.ext E204
    have f364 := f363.other W210 (Or.inr (Jvm.RoadKit.slot_ne (Or.inr (word hw 42 rfl)) (Or.inr (word hw 39 rfl)) (by decide) (t := (.array (.array .double))) (t' := (.array .double)) (by decide) (by decide)))
    have f365 := f364.ext E344
    have f366 := f225.wr W210
    have f367 := f366.ext E344
    refine Go.putf X344 hx hZ hown (word hw 41 rfl) e344 f365 f367 (Or.inr ⟨(word hw 42 rfl), rfl, hnm⟩) (word hw 3 rfl) (ty := (.array (.array .double))) (by decide) rfl rfl (Jvm.hb hby d1_127) (q := 130) rfl ?_
    intro T350 h350 X350 e350 W350
    have N350 := Fr.snoc X350 N210 g1
    have F350 := f365.same W350
    refine Go.aloadN X350.here hx (Jvm.hb hby d1_130) rfl rfl (q := 131) rfl ?_
    refine Go.iload X350.here hx (Jvm.hb hby d1_131) rfl (q := 133) rfl ?_
    refine Go.newarr X350 hx hZ (aty := .double) (word hw 0 rfl) e350 (Jvm.hb hby d1_133) (by decide) (k := 1) (by decide) (by decide) (by decide) (by decide) (ad := "[D") (by decide) (q := 135) rfl ?_
    intro T368 h368 a368 kk368 g368 X368 e368 E368 R368 A368
    have z369 : n0 ≤ h344.size := Nat.le_trans z346 E344.1
    have z370 : n0 ≤ h350.size := Nat.le_trans z369 (Nat.le_of_eq W350.size.symm)
    have r371 : n0 ≤ a368 := Nat.le_trans z370 (Nat.le_of_eq g368.symm)
    have k372 : Keep h0 h344 [a1] := k349.ext E344
    have k373 : Keep h0 h350 [a1] := k372.wr W350 (Or.inl (List.mem_of_getElem? (i := 0) rfl))
    have y371 : h0.size ≤ a368 := Nat.le_trans k373.1 (Nat.le_of_eq g368.symm)
    have R368 : Row Z h368 a368 .double kk368 [(.double (0 : UInt64))] := R368
    have f375 := F9.other W104 (Or.inr (Jvm.RoadKit.slot_ne (Or.inr (word hw 44 rfl)) (Or.inr (word hw 12 rfl)) (by decide) (t := (.array .double)) (t' := .int) (by decide) (by decide)))
    have f376 := f375.other W107 (Or.inr (Jvm.RoadKit.slot_ne (Or.inr (word hw 44 rfl)) (Or.inr (word hw 14 rfl)) (by decide) (t := (.array .double)) (t' := .int) (by decide) (by decide)))
    have f377 := f376.ext E110
    have f378 := f377.other W116 (Or.inr (Jvm.RoadKit.slot_ne (Or.inr (word hw 44 rfl)) (Or.inl (word hw 16 rfl)) (by decide) (t := (.array .double)) (t' := (.array .double)) (by decide) (by decide)))
    have f379 := f378.ext E122
    have f380 := f379.keep K135 (ninS ne145 nin0)
    have f381 := f380.other W137 (Or.inr (Jvm.RoadKit.slot_ne (Or.inr (word hw 44 rfl)) (Or.inr (word hw 31 rfl)) (by decide) (t := (.array .double)) (t' := (.object "com/example/ratewright/ratewright/inference/GradientCorrection$NormalEquations")) (by decide) (by decide)))
    have f382 := f381.ext E148
    have f383 := f382.keep K162 (ninS ne175 nin0)
    have f384 := f383.other W164 (Or.inr (Jvm.RoadKit.slot_ne (Or.inr (word hw 44 rfl)) (Or.inr (word hw 33 rfl)) (by decide) (t := (.array .double)) (t' := (.object "com/example/ratewright/ratewright/inference/GradientCorrection$NormalEquations")) (by decide) (by decide)))
    have f385 := f384.ext E180
    have f386 := f385.other W187 (Or.inr (Jvm.RoadKit.slot_ne (Or.inr (word hw 44 rfl)) (Or.inr (word hw 37 rfl)) (by decide) (t := (.array .double)) (t' := (.array (.array .double))) (by decide) (by decide)))
    have f387 := f386.ext E204
    have f388 := f387.other W210 (Or.inr (Jvm.RoadKit.slot_ne (Or.inr (word hw 44 rfl)) (Or.inr (word hw 39 rfl)) (by decide) (t := (.array .double)) (t' := (.array .double)) (by decide) (by decide)))
    have f389 := f388.ext E344
    have f390 := f389.other W350 (Or.inr (Jvm.RoadKit.slot_ne (Or.inr (word hw 44 rfl)) (Or.inr (word hw 42 rfl)) (by decide) (t := (.array .double)) (t' := (.array (.array .double))) (by decide) (by decide)))
    have f391 := f390.ext E368
    have f392 := f367.wr W350
    have f393 := f392.ext E368
    refine Go.putf X368 hx hZ hown (word hw 43 rfl) e368 f391 f393 (Or.inr ⟨(word hw 44 rfl), rfl, hnm⟩) (word hw 3 rfl) (ty := (.array .double)) (by decide) rfl rfl (Jvm.hb hby d1_135) (q := 138) rfl ?_
    intro T374 h374 X374 e374 W374
    have N374 := Fr.snoc X374 N350 g1
    have F374 := f391.same W374
    have k394 : Keep h0 h368 [a1] := k373.ext E368
    have k395 : Keep h0 h374 [a1] := k394.wr W374 (Or.inl (List.mem_of_getElem? (i := 0) rfl))
    have f396 := f393.wr W374
    have f397 := F104.other W107 (Or.inr (Jvm.RoadKit.slot_ne (Or.inr (word hw 12 rfl)) (Or.inr (word hw 14 rfl)) (by decide) (t := .int) (t' := .int) (by decide) (by decide)))
    have f398 := f397.ext E110
    have f399 := f398.other W116 (Or.inr (Jvm.RoadKit.slot_ne (Or.inr (word hw 12 rfl)) (Or.inl (word hw 16 rfl)) (by decide) (t := .int) (t' := (.array .double)) (by decide) (by decide)))
    have f400 := f399.ext E122
    have f401 := f400.keep K135 (ninS ne145 nin0)
    have f402 := f401.other W137 (Or.inr (Jvm.RoadKit.slot_ne (Or.inr (word hw 12 rfl)) (Or.inr (word hw 31 rfl)) (by decide) (t := .int) (t' := (.object "com/example/ratewright/ratewright/inference/GradientCorrection$NormalEquations")) (by decide) (by decide)))
    have f403 := f402.ext E148
    have f404 := f403.keep K162 (ninS ne175 nin0)
    have f405 := f404.other W164 (Or.inr (Jvm.RoadKit.slot_ne (Or.inr (word hw 12 rfl)) (Or.inr (word hw 33 rfl)) (by decide) (t := .int) (t' := (.object "com/example/ratewright/ratewright/inference/GradientCorrection$NormalEquations")) (by decide) (by decide)))
    have f406 := f405.ext E180
    have f407 := f406.other W187 (Or.inr (Jvm.RoadKit.slot_ne (Or.inr (word hw 12 rfl)) (Or.inr (word hw 37 rfl)) (by decide) (t := .int) (t' := (.array (.array .double))) (by decide) (by decide)))
    have f408 := f407.ext E204
    have f409 := f408.other W210 (Or.inr (Jvm.RoadKit.slot_ne (Or.inr (word hw 12 rfl)) (Or.inr (word hw 39 rfl)) (by decide) (t := .int) (t' := (.array .double)) (by decide) (by decide)))
    have f410 := f409.ext E344
    have f411 := f410.other W350 (Or.inr (Jvm.RoadKit.slot_ne (Or.inr (word hw 12 rfl)) (Or.inr (word hw 42 rfl)) (by decide) (t := .int) (t' := (.array (.array .double))) (by decide) (by decide)))
    have f412 := f411.ext E368
    have f413 := f412.other W374 (Or.inr (Jvm.RoadKit.slot_ne (Or.inr (word hw 12 rfl)) (Or.inr (word hw 44 rfl)) (by decide) (t := .int) (t' := (.array .double)) (by decide) (by decide)))
    have f414 := F116.ext E122
    have f415 := f414.keep K135 (ninS ne145 nin0)
    have f416 := f415.other W137 (Or.inr (Jvm.RoadKit.slot_ne (Or.inl (word hw 16 rfl)) (Or.inr (word hw 31 rfl)) (by decide) (t := (.array .double)) (t' := (.object "com/example/ratewright/ratewright/inference/GradientCorrection$NormalEquations")) (by decide) (by decide)))
    have f417 := f416.ext E148
    have f418 := f417.keep K162 (ninS ne175 nin0)
    have f419 := f418.other W164 (Or.inr (Jvm.RoadKit.slot_ne (Or.inl (word hw 16 rfl)) (Or.inr (word hw 33 rfl)) (by decide) (t := (.array .double)) (t' := (.object "com/example/ratewright/ratewright/inference/GradientCorrection$NormalEquations")) (by decide) (by decide)))
    have f420 := f419.ext E180
    have f421 := f420.other W187 (Or.inr (Jvm.RoadKit.slot_ne (Or.inl (word hw 16 rfl)) (Or.inr (word hw 37 rfl)) (by decide) (t := (.array .double)) (t' := (.array (.array .double))) (by decide) (by decide)))
    have f422 := f421.ext E204
    have f423 := f422.other W210 (Or.inr (Jvm.RoadKit.slot_ne (Or.inl (word hw 16 rfl)) (Or.inr (word hw 39 rfl)) (by decide) (t := (.array .double)) (t' := (.array .double)) (by decide) (by decide)))
    have f424 := f423.ext E344
    have f425 := f424.other W350 (Or.inr (Jvm.RoadKit.slot_ne (Or.inl (word hw 16 rfl)) (Or.inr (word hw 42 rfl)) (by decide) (t := (.array .double)) (t' := (.array (.array .double))) (by decide) (by decide)))
    have f426 := f425.ext E368
    have f427 := f426.other W374 (Or.inr (Jvm.RoadKit.slot_ne (Or.inl (word hw 16 rfl)) (Or.inr (word hw 44 rfl)) (by decide) (t := (.array .double)) (t' := (.array .double)) (by decide) (by decide)))
    have ne429 : a1 ≠ a110 := Nat.ne_of_lt (Nat.lt_of_lt_of_le f120.lt (Nat.le_of_eq g110.symm))
    have f428 := R110.other W116 (Ne.symm ne429)
    have f430 := f428.ext E122
    have ne432 : a110 ≠ a122 := Nat.ne_of_lt (Nat.lt_of_lt_of_le f428.lt (Nat.le_of_eq g122.symm))
    have f431 := f430.keep K135 (ninS ne432 nin0)
    have f433 := f431.other W137 (Ne.symm ne429)
    have f434 := f433.ext E148
    have ne436 : a110 ≠ a148 := Nat.ne_of_lt (Nat.lt_of_lt_of_le f433.lt (Nat.le_of_eq g148.symm))
    have f435 := f434.keep K162 (ninS ne436 nin0)
    have f437 := f435.other W164 (Ne.symm ne429)
    have f438 := f437.ext E180
    have f439 := f438.other W187 (Ne.symm ne429)
    have f440 := f439.ext E204
    have f441 := f440.other W210 (Ne.symm ne429)
    have f442 := f441.ext E344
    have f443 := f442.other W350 (Ne.symm ne429)
    have f444 := f443.ext E368
    have f445 := f444.other W374 (Ne.symm ne429)
    refine Go.retV X374 hx hret hlk (Jvm.hb hby d1_138) (by decide) (by decide) ?_
    rw [e374]
    exact ⟨a110, kk110, rfl, N374, k395, y113, f396, f413, f427, f445⟩
  · -- w2 = 2
    refine Go.iload X210.here hx (Jvm.hb hby d1_117) rfl (q := 119) rfl ?_
    refine Go.aloadN X210.here hx (Jvm.hb hby d1_119) rfl rfl (q := 120) rfl ?_
    have f447 := f161.keep K162 (ninS ne175 nin0)
    have f448 := f447.other W164 (Or.inr (Jvm.RoadKit.slot_ne (Or.inr (word hw 14 rfl)) (Or.inr (word hw 33 rfl)) (by decide) (t := .int) (t' := (.object "com/example/ratewright/ratewright/inference/GradientCorrection$NormalEquations")) (by decide) (by decide)))
    have f449 := f448.ext E180
    have f450 := f449.other W187 (Or.inr (Jvm.RoadKit.slot_ne (Or.inr (word hw 14 rfl)) (Or.inr (word hw 37 rfl)) (by decide) (t := .int) (t' := (.array (.array .double))) (by decide) (by decide)))
    have f451 := f450.ext E204
    have f452 := f451.other W210 (Or.inr (Jvm.RoadKit.slot_ne (Or.inr (word hw 14 rfl)) (Or.inr (word hw 39 rfl)) (by decide) (t := .int) (t' := (.array .double)) (by decide) (by decide)))
    refine Go.getf X210 hx hZ hown (word hw 13 rfl) e210 f452 (Jvm.hb hby d1_120) (q := 123) rfl ?_
    intro T446 X446 e446
    refine Go.grid X446 hx hZ hown (ty := .double) (C := "[D") (by decide) (by decide) (word hw 40 rfl) (word hw 35 rfl) (word hw 0 rfl) e446 (Jvm.hb hby d1_123) (by decide) (by decide) (N := 2) (by decide) (K := 0) (by decide) (by decide) (by decide) rfl rfl (by decide) (by decide) (q := 127) rfl ?_
    intro T453 h453 a453 g453 X453 e453 E453 A453
    have z454 : n0 ≤ h204.size := Nat.le_trans z206 E204.1
    have z455 : n0 ≤ h210.size := Nat.le_trans z454 (Nat.le_of_eq W210.size.symm)
    have r456 : n0 ≤ a453 := Nat.le_trans z455 (Nat.le_of_eq g453.symm)
    have k457 : Keep h0 h204 [a1] := k209.ext E204
    have k458 : Keep h0 h210 [a1] := k457.wr W210 (Or.inl (List.mem_of_getElem? (i := 0) rfl))
    have y456 : h0.size ≤ a453 := Nat.le_trans k458.1 (Nat.le_of_eq g453.symm)
    have f460 := F8.other W104 (Or.inr (Jvm.RoadKit.slot_ne (Or.inr (word hw 42 rfl)) (Or.inr (word hw 12 rfl)) (by decide) (t := (.array (.array .double))) (t' := .int) (by decide) (by decide)))
    have f461 := f460.other W107 (Or.inr (Jvm.RoadKit.slot_ne (Or.inr (word hw 42 rfl)) (Or.inr (word hw 14 rfl)) (by decide) (t := (.array (.array .double))) (t' := .int) (by decide) (by decide)))
    have f462 := f461.ext E110
    have f463 := f462.other W116 (Or.inr (Jvm.RoadKit.slot_ne (Or.inr (word hw 42 rfl)) (Or.inl (word hw 16 rfl)) (by decide) (t := (.array (.array .double))) (t' := (.array .double)) (by decide) (by decide)))
    have f464 := f463.ext E122
    have f465 := f464.keep K135 (ninS ne145 nin0)
    have f466 := f465.other W137 (Or.inr (Jvm.RoadKit.slot_ne (Or.inr (word hw 42 rfl)) (Or.inr (word hw 31 rfl)) (by decide) (t := (.array (.array .double))) (t' := (.object "com/example/ratewright/ratewright/inference/GradientCorrection$NormalEquations")) (by decide) (by decide)))
    have f467 := f466.ext E148
    have f468 := f467.keep K162 (ninS ne175 nin0)
    have f469 := f468.other W164 (Or.inr (Jvm.RoadKit.slot_ne (Or.inr (word hw 42 rfl)) (Or.inr (word hw 33 rfl)) (by decide) (t := (.array (.array .double))) (t' := (.object "com/example/ratewright/ratewright/inference/GradientCorrection$NormalEquations")) (by decide) (by decide)))
    have f470 := f469.ext E180
    have f471 := f470.other W187 (Or.inr (Jvm.RoadKit.slot_ne (Or.inr (word hw 42 rfl)) (Or.inr (word hw 37 rfl)) (by decide) (t := (.array (.array .double))) (t' := (.array (.array .double))) (by decide) (by decide)))
    have f472 := f471.ext E204
    have f473 := f472.other W210 (Or.inr (Jvm.RoadKit.slot_ne (Or.inr (word hw 42 rfl)) (Or.inr (word hw 39 rfl)) (by decide) (t := (.array (.array .double))) (t' := (.array .double)) (by decide) (by decide)))
    have f474 := f473.ext E453
    have f475 := f225.wr W210
    have f476 := f475.ext E453
    refine Go.putf X453 hx hZ hown (word hw 41 rfl) e453 f474 f476 (Or.inr ⟨(word hw 42 rfl), rfl, hnm⟩) (word hw 3 rfl) (ty := (.array (.array .double))) (by decide) rfl rfl (Jvm.hb hby d1_127) (q := 130) rfl ?_
    intro T459 h459 X459 e459 W459
    have N459 := Fr.snoc X459 N210 g1
    have F459 := f474.same W459
    refine Go.aloadN X459.here hx (Jvm.hb hby d1_130) rfl rfl (q := 131) rfl ?_
    refine Go.iload X459.here hx (Jvm.hb hby d1_131) rfl (q := 133) rfl ?_
    refine Go.newarr X459 hx hZ (aty := .double) (word hw 0 rfl) e459 (Jvm.hb hby d1_133) (by decide) (k := 2) (by decide) (by decide) (by decide) (by decide) (ad := "[D") (by decide) (q := 135) rfl ?_
    intro T477 h477 a477 kk477 g477 X477 e477 E477 R477 A477
    have z478 : n0 ≤ h453.size := Nat.le_trans z455 E453.1
    have z479 : n0 ≤ h459.size := Nat.le_trans z478 (Nat.le_of_eq W459.size.symm)
    have r480 : n0 ≤ a477 := Nat.le_trans z479 (Nat.le_of_eq g477.symm)
    have k481 : Keep h0 h453 [a1] := k458.ext E453
    have k482 : Keep h0 h459 [a1] := k481.wr W459 (Or.inl (List.mem_of_getElem? (i := 0) rfl))
    have y480 : h0.size ≤ a477 := Nat.le_trans k482.1 (Nat.le_of_eq g477.symm)
    have R477 : Row Z h477 a477 .double kk477 [(.double (0 : UInt64)), (.double (0 : UInt64))] := R477
    have f484 := F9.other W104 (Or.inr (Jvm.RoadKit.slot_ne (Or.inr (word hw 44 rfl)) (Or.inr (word hw 12 rfl)) (by decide) (t := (.array .double)) (t' := .int) (by decide) (by decide)))
    have f485 := f484.other W107 (Or.inr (Jvm.RoadKit.slot_ne (Or.inr (word hw 44 rfl)) (Or.inr (word hw 14 rfl)) (by decide) (t := (.array .double)) (t' := .int) (by decide) (by decide)))
    have f486 := f485.ext E110
    have f487 := f486.other W116 (Or.inr (Jvm.RoadKit.slot_ne (Or.inr (word hw 44 rfl)) (Or.inl (word hw 16 rfl)) (by decide) (t := (.array .double)) (t' := (.array .double)) (by decide) (by decide)))
    have f488 := f487.ext E122
    have f489 := f488.keep K135 (ninS ne145 nin0)
    have f490 := f489.other W137 (Or.inr (Jvm.RoadKit.slot_ne (Or.inr (word hw 44 rfl)) (Or.inr (word hw 31 rfl)) (by decide) (t := (.array .double)) (t' := (.object "com/example/ratewright/ratewright/inference/GradientCorrection$NormalEquations")) (by decide) (by decide)))
    have f491 := f490.ext E148
    have f492 := f491.keep K162 (ninS ne175 nin0)
    have f493 := f492.other W164 (Or.inr (Jvm.RoadKit.slot_ne (Or.inr (word hw 44 rfl)) (Or.inr (word hw 33 rfl)) (by decide) (t := (.array .double)) (t' := (.object "com/example/ratewright/ratewright/inference/GradientCorrection$NormalEquations")) (by decide) (by decide)))
    have f494 := f493.ext E180
    have f495 := f494.other W187 (Or.inr (Jvm.RoadKit.slot_ne (Or.inr (word hw 44 rfl)) (Or.inr (word hw 37 rfl)) (by decide) (t := (.array .double)) (t' := (.array (.array .double))) (by decide) (by decide)))
    have f496 := f495.ext E204
    have f497 := f496.other W210 (Or.inr (Jvm.RoadKit.slot_ne (Or.inr (word hw 44 rfl)) (Or.inr (word hw 39 rfl)) (by decide) (t := (.array .double)) (t' := (.array .double)) (by decide) (by decide)))
    have f498 := f497.ext E453
    have f499 := f498.other W459 (Or.inr (Jvm.RoadKit.slot_ne (Or.inr (word hw 44 rfl)) (Or.inr (word hw 42 rfl)) (by decide) (t := (.array .double)) (t' := (.array (.array .double))) (by decide) (by decide)))
    have f500 := f499.ext E477
    have f501 := f476.wr W459
    have f502 := f501.ext E477
    refine Go.putf X477 hx hZ hown (word hw 43 rfl) e477 f500 f502 (Or.inr ⟨(word hw 44 rfl), rfl, hnm⟩) (word hw 3 rfl) (ty := (.array .double)) (by decide) rfl rfl (Jvm.hb hby d1_135) (q := 138) rfl ?_
    intro T483 h483 X483 e483 W483
    have N483 := Fr.snoc X483 N459 g1
    have F483 := f500.same W483
    have k503 : Keep h0 h477 [a1] := k482.ext E477
    have k504 : Keep h0 h483 [a1] := k503.wr W483 (Or.inl (List.mem_of_getElem? (i := 0) rfl))
    have f505 := f502.wr W483
    have f506 := F104.other W107 (Or.inr (Jvm.RoadKit.slot_ne (Or.inr (word hw 12 rfl)) (Or.inr (word hw 14 rfl)) (by decide) (t := .int) (t' := .int) (by decide) (by decide)))
    have f507 := f506.ext E110
    have f508 := f507.other W116 (Or.inr (Jvm.RoadKit.slot_ne (Or.inr (word hw 12 rfl)) (Or.inl (word hw 16 rfl)) (by decide) (t := .int) (t' := (.array .double)) (by decide) (by decide)))
    have f509 := f508.ext E122
    have f510 := f509.keep K135 (ninS ne145 nin0)
    have f511 := f510.other W137 (Or.inr (Jvm.RoadKit.slot_ne (Or.inr (word hw 12 rfl)) (Or.inr (word hw 31 rfl)) (by decide) (t := .int) (t' := (.object "com/example/ratewright/ratewright/inference/GradientCorrection$NormalEquations")) (by decide) (by decide)))
    have f512 := f511.ext E148
    have f513 := f512.keep K162 (ninS ne175 nin0)
    have f514 := f513.other W164 (Or.inr (Jvm.RoadKit.slot_ne (Or.inr (word hw 12 rfl)) (Or.inr (word hw 33 rfl)) (by decide) (t := .int) (t' := (.object "com/example/ratewright/ratewright/inference/GradientCorrection$NormalEquations")) (by decide) (by decide)))
    have f515 := f514.ext E180
    have f516 := f515.other W187 (Or.inr (Jvm.RoadKit.slot_ne (Or.inr (word hw 12 rfl)) (Or.inr (word hw 37 rfl)) (by decide) (t := .int) (t' := (.array (.array .double))) (by decide) (by decide)))
    have f517 := f516.ext E204
    have f518 := f517.other W210 (Or.inr (Jvm.RoadKit.slot_ne (Or.inr (word hw 12 rfl)) (Or.inr (word hw 39 rfl)) (by decide) (t := .int) (t' := (.array .double)) (by decide) (by decide)))
    have f519 := f518.ext E453
    have f520 := f519.other W459 (Or.inr (Jvm.RoadKit.slot_ne (Or.inr (word hw 12 rfl)) (Or.inr (word hw 42 rfl)) (by decide) (t := .int) (t' := (.array (.array .double))) (by decide) (by decide)))
    have f521 := f520.ext E477
    have f522 := f521.other W483 (Or.inr (Jvm.RoadKit.slot_ne (Or.inr (word hw 12 rfl)) (Or.inr (word hw 44 rfl)) (by decide) (t := .int) (t' := (.array .double)) (by decide) (by decide)))
    have f523 := F116.ext E122
    have f524 := f523.keep K135 (ninS ne145 nin0)
    have f525 := f524.other W137 (Or.inr (Jvm.RoadKit.slot_ne (Or.inl (word hw 16 rfl)) (Or.inr (word hw 31 rfl)) (by decide) (t := (.array .double)) (t' := (.object "com/example/ratewright/ratewright/inference/GradientCorrection$NormalEquations")) (by decide) (by decide)))
    have f526 := f525.ext E148
    have f527 := f526.keep K162 (ninS ne175 nin0)
    have f528 := f527.other W164 (Or.inr (Jvm.RoadKit.slot_ne (Or.inl (word hw 16 rfl)) (Or.inr (word hw 33 rfl)) (by decide) (t := (.array .double)) (t' := (.object "com/example/ratewright/ratewright/inference/GradientCorrection$NormalEquations")) (by decide) (by decide)))
    have f529 := f528.ext E180
    have f530 := f529.other W187 (Or.inr (Jvm.RoadKit.slot_ne (Or.inl (word hw 16 rfl)) (Or.inr (word hw 37 rfl)) (by decide) (t := (.array .double)) (t' := (.array (.array .double))) (by decide) (by decide)))
    have f531 := f530.ext E204
    have f532 := f531.other W210 (Or.inr (Jvm.RoadKit.slot_ne (Or.inl (word hw 16 rfl)) (Or.inr (word hw 39 rfl)) (by decide) (t := (.array .double)) (t' := (.array .double)) (by decide) (by decide)))
    have f533 := f532.ext E453
    have f534 := f533.other W459 (Or.inr (Jvm.RoadKit.slot_ne (Or.inl (word hw 16 rfl)) (Or.inr (word hw 42 rfl)) (by decide) (t := (.array .double)) (t' := (.array (.array .double))) (by decide) (by decide)))
    have f535 := f534.ext E477
    have f536 := f535.other W483 (Or.inr (Jvm.RoadKit.slot_ne (Or.inl (word hw 16 rfl)) (Or.inr (word hw 44 rfl)) (by decide) (t := (.array .double)) (t' := (.array .double)) (by decide) (by decide)))
    have ne538 : a1 ≠ a110 := Nat.ne_of_lt (Nat.lt_of_lt_of_le f120.lt (Nat.le_of_eq g110.symm))
    have f537 := R110.other W116 (Ne.symm ne538)
    have f539 := f537.ext E122
    have ne541 : a110 ≠ a122 := Nat.ne_of_lt (Nat.lt_of_lt_of_le f537.lt (Nat.le_of_eq g122.symm))
    have f540 := f539.keep K135 (ninS ne541 nin0)
    have f542 := f540.other W137 (Ne.symm ne538)
    have f543 := f542.ext E148
    have ne545 : a110 ≠ a148 := Nat.ne_of_lt (Nat.lt_of_lt_of_le f542.lt (Nat.le_of_eq g148.symm))
    have f544 := f543.keep K162 (ninS ne545 nin0)
    have f546 := f544.other W164 (Ne.symm ne538)
    have f547 := f546.ext E180
    have f548 := f547.other W187 (Ne.symm ne538)
    have f549 := f548.ext E204
    have f550 := f549.other W210 (Ne.symm ne538)
    have f551 := f550.ext E453
    have f552 := f551.other W459 (Ne.symm ne538)
    have f553 := f552.ext E477
    have f554 := f553.other W483 (Ne.symm ne538)
    refine Go.retV X483 hx hret hlk (Jvm.hb hby d1_138) (by decide) (by decide) ?_
    rw [e483]
    exact ⟨a110, kk110, rfl, N483, k504, y113, f505, f522, f536, f554⟩
  · -- w2 = 3
    refine Go.iload X210.here hx (Jvm.hb hby d1_117) rfl (q := 119) rfl ?_
    refine Go.aloadN X210.here hx (Jvm.hb hby d1_119) rfl rfl (q := 120) rfl ?_
    have f556 := f161.keep K162 (ninS ne175 nin0)
    have f557 := f556.other W164 (Or.inr (Jvm.RoadKit.slot_ne (Or.inr (word hw 14 rfl)) (Or.inr (word hw 33 rfl)) (by decide) (t := .int) (t' := (.object "com/example/ratewright/ratewright/inference/GradientCorrection$NormalEquations")) (by decide) (by decide)))
    have f558 := f557.ext E180
    have f559 := f558.other W187 (Or.inr (Jvm.RoadKit.slot_ne (Or.inr (word hw 14 rfl)) (Or.inr (word hw 37 rfl)) (by decide) (t := .int) (t' := (.array (.array .double))) (by decide) (by decide)))
    have f560 := f559.ext E204
    have f561 := f560.other W210 (Or.inr (Jvm.RoadKit.slot_ne (Or.inr (word hw 14 rfl)) (Or.inr (word hw 39 rfl)) (by decide) (t := .int) (t' := (.array .double)) (by decide) (by decide)))
    refine Go.getf X210 hx hZ hown (word hw 13 rfl) e210 f561 (Jvm.hb hby d1_120) (q := 123) rfl ?_
    intro T555 X555 e555
    refine Go.grid X555 hx hZ hown (ty := .double) (C := "[D") (by decide) (by decide) (word hw 40 rfl) (word hw 35 rfl) (word hw 0 rfl) e555 (Jvm.hb hby d1_123) (by decide) (by decide) (N := 3) (by decide) (K := 0) (by decide) (by decide) (by decide) rfl rfl (by decide) (by decide) (q := 127) rfl ?_
    intro T562 h562 a562 g562 X562 e562 E562 A562
    have z563 : n0 ≤ h204.size := Nat.le_trans z206 E204.1
    have z564 : n0 ≤ h210.size := Nat.le_trans z563 (Nat.le_of_eq W210.size.symm)
    have r565 : n0 ≤ a562 := Nat.le_trans z564 (Nat.le_of_eq g562.symm)
    have k566 : Keep h0 h204 [a1] := k209.ext E204
    have k567 : Keep h0 h210 [a1] := k566.wr W210 (Or.inl (List.mem_of_getElem? (i := 0) rfl))
    have y565 : h0.size ≤ a562 := Nat.le_trans k567.1 (Nat.le_of_eq g562.symm)
    have f569 := F8.other W104 (Or.inr (Jvm.RoadKit.slot_ne (Or.inr (word hw 42 rfl)) (Or.inr (word hw 12 rfl)) (by decide) (t := (.array (.array .double))) (t' := .int) (by decide) (by decide)))
    have f570 := f569.other W107 (Or.inr (Jvm.RoadKit.slot_ne (Or.inr (word hw 42 rfl)) (Or.inr (word hw 14 rfl)) (by decide) (t := (.array (.array .double))) (t' := .int) (by decide) (by decide)))
    have f571 := f570.ext E110
    have f572 := f571.other W116 (Or.inr (Jvm.RoadKit.slot_ne (Or.inr (word hw 42 rfl)) (Or.inl (word hw 16 rfl)) (by decide) (t := (.array (.array .double))) (t' := (.array .double)) (by decide) (by decide)))
    have f573 := f572.ext E122
    have f574 := f573.keep K135 (ninS ne145 nin0)
    have f575 := f574.other W137 (Or.inr (Jvm.RoadKit.slot_ne (Or.inr (word hw 42 rfl)) (Or.inr (word hw 31 rfl)) (by decide) (t := (.array (.array .double))) (t' := (.object "com/example/ratewright/ratewright/inference/GradientCorrection$NormalEquations")) (by decide) (by decide)))
    have f576 := f575.ext E148
    have f577 := f576.keep K162 (ninS ne175 nin0)
    have f578 := f577.other W164 (Or.inr (Jvm.RoadKit.slot_ne (Or.inr (word hw 42 rfl)) (Or.inr (word hw 33 rfl)) (by decide) (t := (.array (.array .double))) (t' := (.object "com/example/ratewright/ratewright/inference/GradientCorrection$NormalEquations")) (by decide) (by decide)))
    have f579 := f578.ext E180
    have f580 := f579.other W187 (Or.inr (Jvm.RoadKit.slot_ne (Or.inr (word hw 42 rfl)) (Or.inr (word hw 37 rfl)) (by decide) (t := (.array (.array .double))) (t' := (.array (.array .double))) (by decide) (by decide)))
    have f581 := f580.ext E204
    have f582 := f581.other W210 (Or.inr (Jvm.RoadKit.slot_ne (Or.inr (word hw 42 rfl)) (Or.inr (word hw 39 rfl)) (by decide) (t := (.array (.array .double))) (t' := (.array .double)) (by decide) (by decide)))
    have f583 := f582.ext E562
    have f584 := f225.wr W210
    have f585 := f584.ext E562
    refine Go.putf X562 hx hZ hown (word hw 41 rfl) e562 f583 f585 (Or.inr ⟨(word hw 42 rfl), rfl, hnm⟩) (word hw 3 rfl) (ty := (.array (.array .double))) (by decide) rfl rfl (Jvm.hb hby d1_127) (q := 130) rfl ?_
    intro T568 h568 X568 e568 W568
    have N568 := Fr.snoc X568 N210 g1
    have F568 := f583.same W568
    refine Go.aloadN X568.here hx (Jvm.hb hby d1_130) rfl rfl (q := 131) rfl ?_
    refine Go.iload X568.here hx (Jvm.hb hby d1_131) rfl (q := 133) rfl ?_
    refine Go.newarr X568 hx hZ (aty := .double) (word hw 0 rfl) e568 (Jvm.hb hby d1_133) (by decide) (k := 3) (by decide) (by decide) (by decide) (by decide) (ad := "[D") (by decide) (q := 135) rfl ?_
    intro T586 h586 a586 kk586 g586 X586 e586 E586 R586 A586
    have z587 : n0 ≤ h562.size := Nat.le_trans z564 E562.1
    have z588 : n0 ≤ h568.size := Nat.le_trans z587 (Nat.le_of_eq W568.size.symm)
    have r589 : n0 ≤ a586 := Nat.le_trans z588 (Nat.le_of_eq g586.symm)
    have k590 : Keep h0 h562 [a1] := k567.ext E562
    have k591 : Keep h0 h568 [a1] := k590.wr W568 (Or.inl (List.mem_of_getElem? (i := 0) rfl))
    have y589 : h0.size ≤ a586 := Nat.le_trans k591.1 (Nat.le_of_eq g586.symm)
    have R586 : Row Z h586 a586 .double kk586 [(.double (0 : UInt64)), (.double (0 : UInt64)), (.double (0 : UInt64))] := R586
    have f593 := F9.other W104 (Or.inr (Jvm.RoadKit.slot_ne (Or.inr (word hw 44 rfl)) (Or.inr (word hw 12 rfl)) (by decide) (t := (.array .double)) (t' := .int) (by decide) (by decide)))
    have f594 := f593.other W107 (Or.inr (Jvm.RoadKit.slot_ne (Or.inr (word hw 44 rfl)) (Or.inr (word hw 14 rfl)) (by decide) (t := (.array .double)) (t' := .int) (by decide) (by decide)))
    have f595 := f594.ext E110
    have f596 := f595.other W116 (Or.inr (Jvm.RoadKit.slot_ne (Or.inr (word hw 44 rfl)) (Or.inl (word hw 16 rfl)) (by decide) (t := (.array .double)) (t' := (.array .double)) (by decide) (by decide)))
    have f597 := f596.ext E122
    have f598 := f597.keep K135 (ninS ne145 nin0)
    have f599 := f598.other W137 (Or.inr (Jvm.RoadKit.slot_ne (Or.inr (word hw 44 rfl)) (Or.inr (word hw 31 rfl)) (by decide) (t := (.array .double)) (t' := (.object "com/example/ratewright/ratewright/inference/GradientCorrection$NormalEquations")) (by decide) (by decide)))
    have f600 := f599.ext E148
    have f601 := f600.keep K162 (ninS ne175 nin0)
    have f602 := f601.other W164 (Or.inr (Jvm.RoadKit.slot_ne (Or.inr (word hw 44 rfl)) (Or.inr (word hw 33 rfl)) (by decide) (t := (.array .double)) (t' := (.object "com/example/ratewright/ratewright/inference/GradientCorrection$NormalEquations")) (by decide) (by decide)))
    have f603 := f602.ext E180
    have f604 := f603.other W187 (Or.inr (Jvm.RoadKit.slot_ne (Or.inr (word hw 44 rfl)) (Or.inr (word hw 37 rfl)) (by decide) (t := (.array .double)) (t' := (.array (.array .double))) (by decide) (by decide)))
    have f605 := f604.ext E204
    have f606 := f605.other W210 (Or.inr (Jvm.RoadKit.slot_ne (Or.inr (word hw 44 rfl)) (Or.inr (word hw 39 rfl)) (by decide) (t := (.array .double)) (t' := (.array .double)) (by decide) (by decide)))
    have f607 := f606.ext E562
    have f608 := f607.other W568 (Or.inr (Jvm.RoadKit.slot_ne (Or.inr (word hw 44 rfl)) (Or.inr (word hw 42 rfl)) (by decide) (t := (.array .double)) (t' := (.array (.array .double))) (by decide) (by decide)))
    have f609 := f608.ext E586
    have f610 := f585.wr W568
    have f611 := f610.ext E586
    refine Go.putf X586 hx hZ hown (word hw 43 rfl) e586 f609 f611 (Or.inr ⟨(word hw 44 rfl), rfl, hnm⟩) (word hw 3 rfl) (ty := (.array .double)) (by decide) rfl rfl (Jvm.hb hby d1_135) (q := 138) rfl ?_
    intro T592 h592 X592 e592 W592
    have N592 := Fr.snoc X592 N568 g1
    have F592 := f609.same W592
    have k612 : Keep h0 h586 [a1] := k591.ext E586
    have k613 : Keep h0 h592 [a1] := k612.wr W592 (Or.inl (List.mem_of_getElem? (i := 0) rfl))
    have f614 := f611.wr W592
    have f615 := F104.other W107 (Or.inr (Jvm.RoadKit.slot_ne (Or.inr (word hw 12 rfl)) (Or.inr (word hw 14 rfl)) (by decide) (t := .int) (t' := .int) (by decide) (by decide)))
    have f616 := f615.ext E110
    have f617 := f616.other W116 (Or.inr (Jvm.RoadKit.slot_ne (Or.inr (word hw 12 rfl)) (Or.inl (word hw 16 rfl)) (by decide) (t := .int) (t' := (.array .double)) (by decide) (by decide)))
    have f618 := f617.ext E122
    have f619 := f618.keep K135 (ninS ne145 nin0)
    have f620 := f619.other W137 (Or.inr (Jvm.RoadKit.slot_ne (Or.inr (word hw 12 rfl)) (Or.inr (word hw 31 rfl)) (by decide) (t := .int) (t' := (.object "com/example/ratewright/ratewright/inference/GradientCorrection$NormalEquations")) (by decide) (by decide)))
    have f621 := f620.ext E148
    have f622 := f621.keep K162 (ninS ne175 nin0)
    have f623 := f622.other W164 (Or.inr (Jvm.RoadKit.slot_ne (Or.inr (word hw 12 rfl)) (Or.inr (word hw 33 rfl)) (by decide) (t := .int) (t' := (.object "com/example/ratewright/ratewright/inference/GradientCorrection$NormalEquations")) (by decide) (by decide)))
    have f624 := f623.ext E180
    have f625 := f624.other W187 (Or.inr (Jvm.RoadKit.slot_ne (Or.inr (word hw 12 rfl)) (Or.inr (word hw 37 rfl)) (by decide) (t := .int) (t' := (.array (.array .double))) (by decide) (by decide)))
    have f626 := f625.ext E204
    have f627 := f626.other W210 (Or.inr (Jvm.RoadKit.slot_ne (Or.inr (word hw 12 rfl)) (Or.inr (word hw 39 rfl)) (by decide) (t := .int) (t' := (.array .double)) (by decide) (by decide)))
    have f628 := f627.ext E562
    have f629 := f628.other W568 (Or.inr (Jvm.RoadKit.slot_ne (Or.inr (word hw 12 rfl)) (Or.inr (word hw 42 rfl)) (by decide) (t := .int) (t' := (.array (.array .double))) (by decide) (by decide)))
    have f630 := f629.ext E586
    have f631 := f630.other W592 (Or.inr (Jvm.RoadKit.slot_ne (Or.inr (word hw 12 rfl)) (Or.inr (word hw 44 rfl)) (by decide) (t := .int) (t' := (.array .double)) (by decide) (by decide)))
    have f632 := F116.ext E122
    have f633 := f632.keep K135 (ninS ne145 nin0)
    have f634 := f633.other W137 (Or.inr (Jvm.RoadKit.slot_ne (Or.inl (word hw 16 rfl)) (Or.inr (word hw 31 rfl)) (by decide) (t := (.array .double)) (t' := (.object "com/example/ratewright/ratewright/inference/GradientCorrection$NormalEquations")) (by decide) (by decide)))
    have f635 := f634.ext E148
    have f636 := f635.keep K162 (ninS ne175 nin0)
    have f637 := f636.other W164 (Or.inr (Jvm.RoadKit.slot_ne (Or.inl (word hw 16 rfl)) (Or.inr (word hw 33 rfl)) (by decide) (t := (.array .double)) (t' := (.object "com/example/ratewright/ratewright/inference/GradientCorrection$NormalEquations")) (by decide) (by decide)))
    have f638 := f637.ext E180
    have f639 := f638.other W187 (Or.inr (Jvm.RoadKit.slot_ne (Or.inl (word hw 16 rfl)) (Or.inr (word hw 37 rfl)) (by decide) (t := (.array .double)) (t' := (.array (.array .double))) (by decide) (by decide)))
    have f640 := f639.ext E204
    have f641 := f640.other W210 (Or.inr (Jvm.RoadKit.slot_ne (Or.inl (word hw 16 rfl)) (Or.inr (word hw 39 rfl)) (by decide) (t := (.array .double)) (t' := (.array .double)) (by decide) (by decide)))
    have f642 := f641.ext E562
    have f643 := f642.other W568 (Or.inr (Jvm.RoadKit.slot_ne (Or.inl (word hw 16 rfl)) (Or.inr (word hw 42 rfl)) (by decide) (t := (.array .double)) (t' := (.array (.array .double))) (by decide) (by decide)))
    have f644 := f643.ext E586
    have f645 := f644.other W592 (Or.inr (Jvm.RoadKit.slot_ne (Or.inl (word hw 16 rfl)) (Or.inr (word hw 44 rfl)) (by decide) (t := (.array .double)) (t' := (.array .double)) (by decide) (by decide)))
    have ne647 : a1 ≠ a110 := Nat.ne_of_lt (Nat.lt_of_lt_of_le f120.lt (Nat.le_of_eq g110.symm))
    have f646 := R110.other W116 (Ne.symm ne647)
    have f648 := f646.ext E122
    have ne650 : a110 ≠ a122 := Nat.ne_of_lt (Nat.lt_of_lt_of_le f646.lt (Nat.le_of_eq g122.symm))
    have f649 := f648.keep K135 (ninS ne650 nin0)
    have f651 := f649.other W137 (Ne.symm ne647)
    have f652 := f651.ext E148
    have ne654 : a110 ≠ a148 := Nat.ne_of_lt (Nat.lt_of_lt_of_le f651.lt (Nat.le_of_eq g148.symm))
    have f653 := f652.keep K162 (ninS ne654 nin0)
    have f655 := f653.other W164 (Ne.symm ne647)
    have f656 := f655.ext E180
    have f657 := f656.other W187 (Ne.symm ne647)
    have f658 := f657.ext E204
    have f659 := f658.other W210 (Ne.symm ne647)
    have f660 := f659.ext E562
    have f661 := f660.other W568 (Ne.symm ne647)
    have f662 := f661.ext E586
    have f663 := f662.other W592 (Ne.symm ne647)
    refine Go.retV X592 hx hret hlk (Jvm.hb hby d1_138) (by decide) (by decide) ?_
    rw [e592]
    exact ⟨a110, kk110, rfl, N592, k613, y113, f614, f631, f645, f663⟩
theorem d4_0 : decode prog_4_method_2_code 0 = .ok (.iconst 0, 1) := by decide +kernel
theorem d4_1 : decode prog_4_method_2_code 1 = .ok (.istore 4, 2) := by decide +kernel
theorem d4_3 : decode prog_4_method_2_code 3 = .ok (.iload 4, 2) := by decide +kernel
theorem d4_5 : decode prog_4_method_2_code 5 = .ok (.aload_n 0, 1) := by decide +kernel
theorem d4_6 : decode prog_4_method_2_code 6 = .ok (.getfield 9, 3) := by decide +kernel
theorem d4_9 : decode prog_4_method_2_code 9 = .ok (.if_icmp .ge 90, 3) := by decide +kernel
theorem d4_12 : decode prog_4_method_2_code 12 = .ok (.aload_n 2, 1) := by decide +kernel
theorem d4_13 : decode prog_4_method_2_code 13 = .ok (.iload 4, 2) := by decide +kernel
theorem d4_15 : decode prog_4_method_2_code 15 = .ok (.daload, 1) := by decide +kernel
theorem d4_16 : decode prog_4_method_2_code 16 = .ok (.dstore 5, 2) := by decide +kernel
theorem d4_18 : decode prog_4_method_2_code 18 = .ok (.aload_n 1, 1) := by decide +kernel
theorem d4_19 : decode prog_4_method_2_code 19 = .ok (.iload 4, 2) := by decide +kernel
theorem d4_21 : decode prog_4_method_2_code 21 = .ok (.daload, 1) := by decide +kernel
theorem d4_22 : decode prog_4_method_2_code 22 = .ok (.dstore 7, 2) := by decide +kernel
theorem d4_24 : decode prog_4_method_2_code 24 = .ok (.aload_n 3, 1) := by decide +kernel
theorem d4_25 : decode prog_4_method_2_code 25 = .ok (.iload 4, 2) := by decide +kernel
theorem d4_27 : decode prog_4_method_2_code 27 = .ok (.dload 5, 2) := by decide +kernel
theorem d4_29 : decode prog_4_method_2_code 29 = .ok (.aload_n 0, 1) := by decide +kernel
theorem d4_30 : decode prog_4_method_2_code 30 = .ok (.getfield 16, 3) := by decide +kernel
theorem d4_33 : decode prog_4_method_2_code 33 = .ok (.iload 4, 2) := by decide +kernel
theorem d4_35 : decode prog_4_method_2_code 35 = .ok (.daload, 1) := by decide +kernel
theorem d4_36 : decode prog_4_method_2_code 36 = .ok (.dadd, 1) := by decide +kernel
theorem d4_37 : decode prog_4_method_2_code 37 = .ok (.aload_n 0, 1) := by decide +kernel
theorem d4_38 : decode prog_4_method_2_code 38 = .ok (.getfield 16, 3) := by decide +kernel
theorem d4_41 : decode prog_4_method_2_code 41 = .ok (.aload_n 0, 1) := by decide +kernel
theorem d4_42 : decode prog_4_method_2_code 42 = .ok (.getfield 9, 3) := by decide +kernel
theorem d4_45 : decode prog_4_method_2_code 45 = .ok (.iload 4, 2) := by decide +kernel
theorem d4_47 : decode prog_4_method_2_code 47 = .ok (.iadd, 1) := by decide +kernel
theorem d4_48 : decode prog_4_method_2_code 48 = .ok (.daload, 1) := by decide +kernel
theorem d4_49 : decode prog_4_method_2_code 49 = .ok (.dload 7, 2) := by decide +kernel
theorem d4_51 : decode prog_4_method_2_code 51 = .ok (.dmul, 1) := by decide +kernel
theorem d4_52 : decode prog_4_method_2_code 52 = .ok (.dadd, 1) := by decide +kernel
theorem d4_53 : decode prog_4_method_2_code 53 = .ok (.aload_n 0, 1) := by decide +kernel
theorem d4_54 : decode prog_4_method_2_code 54 = .ok (.getfield 16, 3) := by decide +kernel
theorem d4_57 : decode prog_4_method_2_code 57 = .ok (.iconst 2, 1) := by decide +kernel
theorem d4_58 : decode prog_4_method_2_code 58 = .ok (.aload_n 0, 1) := by decide +kernel
theorem d4_59 : decode prog_4_method_2_code 59 = .ok (.getfield 9, 3) := by decide +kernel
theorem d4_62 : decode prog_4_method_2_code 62 = .ok (.imul, 1) := by decide +kernel
theorem d4_63 : decode prog_4_method_2_code 63 = .ok (.iload 4, 2) := by decide +kernel
theorem d4_65 : decode prog_4_method_2_code 65 = .ok (.iadd, 1) := by decide +kernel
theorem d4_66 : decode prog_4_method_2_code 66 = .ok (.daload, 1) := by decide +kernel
theorem d4_67 : decode prog_4_method_2_code 67 = .ok (.dload 5, 2) := by decide +kernel
theorem d4_69 : decode prog_4_method_2_code 69 = .ok (.dmul, 1) := by decide +kernel
theorem d4_70 : decode prog_4_method_2_code 70 = .ok (.dadd, 1) := by decide +kernel
theorem d4_71 : decode prog_4_method_2_code 71 = .ok (.aload_n 0, 1) := by decide +kernel
theorem d4_72 : decode prog_4_method_2_code 72 = .ok (.getfield 16, 3) := by decide +kernel
theorem d4_75 : decode prog_4_method_2_code 75 = .ok (.iconst 3, 1) := by decide +kernel
theorem d4_76 : decode prog_4_method_2_code 76 = .ok (.aload_n 0, 1) := by decide +kernel
theorem d4_77 : decode prog_4_method_2_code 77 = .ok (.getfield 9, 3) := by decide +kernel
theorem d4_80 : decode prog_4_method_2_code 80 = .ok (.imul, 1) := by decide +kernel
theorem d4_81 : decode prog_4_method_2_code 81 = .ok (.iload 4, 2) := by decide +kernel
theorem d4_83 : decode prog_4_method_2_code 83 = .ok (.iadd, 1) := by decide +kernel
theorem d4_84 : decode prog_4_method_2_code 84 = .ok (.daload, 1) := by decide +kernel
theorem d4_85 : decode prog_4_method_2_code 85 = .ok (.dload 7, 2) := by decide +kernel
theorem d4_87 : decode prog_4_method_2_code 87 = .ok (.dmul, 1) := by decide +kernel
theorem d4_88 : decode prog_4_method_2_code 88 = .ok (.dload 5, 2) := by decide +kernel
theorem d4_90 : decode prog_4_method_2_code 90 = .ok (.dmul, 1) := by decide +kernel
theorem d4_91 : decode prog_4_method_2_code 91 = .ok (.dadd, 1) := by decide +kernel
theorem d4_92 : decode prog_4_method_2_code 92 = .ok (.dastore, 1) := by decide +kernel
theorem d4_93 : decode prog_4_method_2_code 93 = .ok (.iinc 4 1, 3) := by decide +kernel
theorem d4_96 : decode prog_4_method_2_code 96 = .ok (.goto (-93), 3) := by decide +kernel
theorem d4_99 : decode prog_4_method_2_code 99 = .ok (.return_, 1) := by decide +kernel
set_option maxRecDepth 65536 in
set_option maxHeartbeats 40000000 in
theorem rm_app0 (l : Launch) (Z : State) (a0 : Array Value) (hw : ∀ d ∈ tables_1, d.before a0 Z = true) (a1 : Addr) (ax : Addr) (ag : Addr) (ak : Addr) (ac : Addr) (kx : ClassId) (kg : ClassId) (kk : ClassId) (kc : ClassId) (g0 : UInt64) (g1 : UInt64) (g2 : UInt64) (g3 : UInt64) (g4 : UInt64) (x0 : UInt64) (x1 : UInt64) (x2 : UInt64) (x3 : UInt64) (x4 : UInt64) (c0 : UInt64) (c1 : UInt64) (c2 : UInt64) (c3 : UInt64) (c4 : UInt64) (h0 : Heap) (n0 : Nat) (Z0 : n0 ≤ h0.size) (F1 : Fld Z h0 a1 "com/example/ratewright/ratewright/inference/GradientCorrection" "dimension" "I" (.int (0 : Int32))) (F2 : Fld Z h0 a1 "com/example/ratewright/ratewright/inference/GradientCorrection" "coefficients" "[D" (.ref ac)) (R1 : Row Z h0 ax .double kx [(.double x0), (.double x1), (.double x2), (.double x3), (.double x4)]) (R2 : Row Z h0 ag .double kg [(.double g0), (.double g1), (.double g2), (.double g3), (.double g4)]) (R3 : Row Z h0 ak .double kk [(.double c0), (.double c1), (.double c2), (.double c3), (.double c4)]) (R4 : Row Z h0 ac .double kc []) (i1 : ak ≠ ax) (i2 : ak ≠ ag) (i3 : ak ≠ ac) (i4 : ak ≠ a1) (fr1 : n0 ≤ ak) (hn : True) :
    Con l Z (⟨"com/example/ratewright/ratewright/inference/GradientCorrection", "apply", "([D[D[D)V"⟩ : MethodName) prog_4_method_2_code 9 none ({ frames := 0, cells := 0, slots := 0, locals := 0 } : Room) #[(.ref a1), (.ref ax), (.ref ag), (.ref ak)] h0 (fun vR hR LR => vR = none ∧ Fr n0 LR ∧ Keep h0 hR [ak] ∧ Row Z hR ak .double kk [(.double c0), (.double c1), (.double c2), (.double c3), (.double c4)]) := by
  refine enter (l := l) (Z := Z) (y := (⟨"com/example/ratewright/ratewright/inference/GradientCorrection", "apply", "([D[D[D)V"⟩ : MethodName)) (bytes := prog_4_method_2_code) (maxL := 9) (ret := none) (ws := []) (rm := ({ frames := 0, cells := 0, slots := 0, locals := 0 } : Room)) (as' := #[(.ref a1), (.ref ax), (.ref ag), (.ref ak)]) (h0 := h0) (Qv := (fun vR hR LR => vR = none ∧ Fr n0 LR ∧ Keep h0 hR [ak] ∧ Row Z hR ak .double kk [(.double c0), (.double c1), (.double c2), (.double c3), (.double c4)])) (kc := 0) (ks := 0) (by first | exact plainFor_of_name (by first | (simp [plainName, overriddenIn]; done) | decide +kernel) | decide +kernel) (Ls := #[.val (.ref a1), .val (.ref ax), .val (.ref ag), .val (.ref ak), .unset, .unset, .unset, .unset, .unset]) (fun m => by first | (simp [entryFrame, mkF, argsToLocals, Value.category]; done) | rfl) ?_
  intro p e s m below meth c s₁ hx hby hml hown hnm hret hlk hZ X0 e0
  have hown : s.vm.findClass "com/example/ratewright/ratewright/inference/GradientCorrection" = some m.cls := hown
  have hml : c.maxLocals = 9 := hml
  have N0 := Fr.nil n0
  refine Go.iconst X0.here hx (Jvm.hb hby d4_0) (v := (0 : Int32)) rfl (q := 1) rfl ?_
  refine Go.istore X0.here hx (Jvm.hb hby d4_1) (l2 := #[.val (.ref a1), .val (.ref ax), .val (.ref ag), .val (.ref ak), .val (.int (0 : Int32)), .unset, .unset, .unset, .unset]) rfl (q := 3) rfl ?_
  refine Go.iload X0.here hx (Jvm.hb hby d4_3) rfl (q := 5) rfl ?_
  refine Go.aloadN X0.here hx (Jvm.hb hby d4_5) rfl rfl (q := 6) rfl ?_
  refine Go.getf X0 hx hZ hown (word hw 11 rfl) e0 F1 (Jvm.hb hby d4_6) (q := 9) rfl ?_
  intro T101 X101 e101
  have hc9_103 : ¬ ((0 : Int32) < (0 : Int32)) := by decide
  refine Go.icmpY X101.here hx (Jvm.hb hby d4_9) (flt hc9_103).2.1 (by decide) (q := 99) rfl ?_
  refine Go.retV X101 hx hret hlk (Jvm.hb hby d4_99) (by decide) (by decide) ?_
  rw [e101]
  exact ⟨rfl, N0, (Keep.refl h0 [ak]), R3⟩
set_option maxRecDepth 65536 in
set_option maxHeartbeats 40000000 in
theorem rm_ne1 (l : Launch) (Z : State) (a0 : Array Value) (hw : ∀ d ∈ tables_1, d.before a0 Z = true) (a1 : Addr) (o1 : Value) (o2 : Value) (o3 : Value) (h0 : Heap) (n0 : Nat) (Z0 : n0 ≤ h0.size) (E1 : Exa Z h0 a1 "com/example/ratewright/ratewright/inference/GradientCorrection$NormalEquations") (F1 : Fld Z h0 a1 "com/example/ratewright/ratewright/inference/GradientCorrection$NormalEquations" "size" "I" o1) (F2 : Fld Z h0 a1 "com/example/ratewright/ratewright/inference/GradientCorrection$NormalEquations" "products" "[D" o2) (F3 : Fld Z h0 a1 "com/example/ratewright/ratewright/inference/GradientCorrection$NormalEquations" "right" "[D" o3) (g1 : n0 ≤ a1) :
    Con l Z (⟨"com/example/ratewright/ratewright/inference/GradientCorrection$NormalEquations", "<init>", "(I)V"⟩ : MethodName) prog_5_method_1_code 2 none ({ frames := 1, cells := 2, slots := 14, locals := 12 } : Room) #[(.ref a1), (.int (4 : Int32))] h0 (fun vR hR LR => vR = none ∧ Fr n0 LR ∧ Keep h0 hR [a1] ∧ Exa Z hR a1 "com/example/ratewright/ratewright/inference/GradientCorrection$NormalEquations") := by
  refine enter (l := l) (Z := Z) (y := (⟨"com/example/ratewright/ratewright/inference/GradientCorrection$NormalEquations", "<init>", "(I)V"⟩ : MethodName)) (bytes := prog_5_method_1_code) (maxL := 2) (ret := none) (ws := []) (rm := ({ frames := 1, cells := 2, slots := 14, locals := 12 } : Room)) (as' := #[(.ref a1), (.int (4 : Int32))]) (h0 := h0) (Qv := (fun vR hR LR => vR = none ∧ Fr n0 LR ∧ Keep h0 hR [a1] ∧ Exa Z hR a1 "com/example/ratewright/ratewright/inference/GradientCorrection$NormalEquations")) (kc := 2) (ks := 14) (by first | exact plainFor_of_name (by first | (simp [plainName, overriddenIn]; done) | decide +kernel) | decide +kernel) (Ls := #[.val (.ref a1), .val (.int (4 : Int32))]) (fun m => by first | (simp [entryFrame, mkF, argsToLocals, Value.category]; done) | rfl) ?_
  intro p e s m below meth c s₁ hx hby hml hown hnm hret hlk hZ X0 e0
  have hown : s.vm.findClass "com/example/ratewright/ratewright/inference/GradientCorrection$NormalEquations" = some m.cls := hown
  have hml : c.maxLocals = 2 := hml
  have N0 := Fr.nil n0
  refine Go.aloadN X0.here hx (Jvm.hb hby d3_0) rfl rfl (q := 1) rfl ?_
  refine Go.init X0 hx hZ hown (word hw 23 rfl) (word hw 9 rfl) (word hw 10 rfl) e0 (Jvm.hb hby d3_1) (by rw [hml]; rfl) (by decide) (W := 0) (Nat.le_of_eq rfl) (by decide) (q := 4) rfl ?_
  intro T101 X101 e101
  refine Go.aloadN X101.here hx (Jvm.hb hby d3_4) rfl rfl (q := 5) rfl ?_
  refine Go.iloadN X101.here hx (Jvm.hb hby d3_5) rfl (q := 6) rfl ?_
  refine Go.putf X101 hx hZ hown (word hw 24 rfl) e101 F1 E1 (Or.inr ⟨(word hw 25 rfl), rfl, hnm⟩) (word hw 18 rfl) (ty := .int) (by decide) rfl rfl (Jvm.hb hby d3_6) (q := 9) rfl ?_
  intro T102 h102 X102 e102 W102
  have N102 := Fr.snoc X102 N0 g1
  have F102 := F1.same W102
  refine Go.aloadN X102.here hx (Jvm.hb hby d3_9) rfl rfl (q := 10) rfl ?_
  refine Go.iloadN X102.here hx (Jvm.hb hby d3_10) rfl (q := 11) rfl ?_
  refine Go.iloadN X102.here hx (Jvm.hb hby d3_11) rfl (q := 12) rfl ?_
  refine Go.iconst X102.here hx (Jvm.hb hby d3_12) (v := (1 : Int32)) rfl (q := 13) rfl ?_
  refine Go.iadd X102.here hx (Jvm.hb hby d3_13) (v := (5 : Int32)) (by decide) (q := 14) rfl ?_
  refine Go.imul X102.here hx (Jvm.hb hby d3_14) (v := (20 : Int32)) (by decide) (q := 15) rfl ?_
  refine Go.iconst X102.here hx (Jvm.hb hby d3_15) (v := (2 : Int32)) rfl (q := 16) rfl ?_
  refine Go.idiv X102.here hx (Jvm.hb hby d3_16) (by decide) (v := (10 : Int32)) (by decide) (q := 17) rfl ?_
  refine Go.newarr X102 hx hZ (aty := .double) (word hw 0 rfl) e102 (Jvm.hb hby d3_17) (by decide) (k := 10) (by decide) (by decide) (by decide) (by decide) (ad := "[D") (by decide) (q := 19) rfl ?_
  intro T103 h103 a103 kk103 g103 X103 e103 E103 R103 A103
  have z104 : n0 ≤ h102.size := Nat.le_trans Z0 (Nat.le_of_eq W102.size.symm)
  have r105 : n0 ≤ a103 := Nat.le_trans z104 (Nat.le_of_eq g103.symm)
  have k106 : Keep h0 h102 [a1] := (Keep.refl h0 [a1]).wr W102 (Or.inl (List.mem_of_getElem? (i := 0) rfl))
  have y105 : h0.size ≤ a103 := Nat.le_trans k106.1 (Nat.le_of_eq g103.symm)
  have R103 : Row Z h103 a103 .double kk103 [(.double (0 : UInt64)), (.double (0 : UInt64)), (.double (0 : UInt64)), (.double (0 : UInt64)), (.double (0 : UInt64)), (.double (0 : UInt64)), (.double (0 : UInt64)), (.double (0 : UInt64)), (.double (0 : UInt64)), (.double (0 : UInt64))] := R103
  have f108 := F2.other W102 (Or.inr (Jvm.RoadKit.slot_ne (Or.inr (word hw 27 rfl)) (Or.inr (word hw 25 rfl)) (by decide) (t := (.array .double)) (t' := .int) (by decide) (by decide)))
  have f109 := f108.ext E103
  have f110 := E1.wr W102
  have f111 := f110.ext E103
  refine Go.putf X103 hx hZ hown (word hw 26 rfl) e103 f109 f111 (Or.inr ⟨(word hw 27 rfl), rfl, hnm⟩) (word hw 18 rfl) (ty := (.array .double)) (by decide) rfl rfl (Jvm.hb hby d3_19) (q := 22) rfl ?_
  intro T107 h107 X107 e107 W107
  have N107 := Fr.snoc X107 N102 g1
  have F107 := f109.same W107
  refine Go.aloadN X107.here hx (Jvm.hb hby d3_22) rfl rfl (q := 23) rfl ?_
  refine Go.iloadN X107.here hx (Jvm.hb hby d3_23) rfl (q := 24) rfl ?_
  refine Go.newarr X107 hx hZ (aty := .double) (word hw 0 rfl) e107 (Jvm.hb hby d3_24) (by decide) (k := 4) (by decide) (by decide) (by decide) (by decide) (ad := "[D") (by decide) (q := 26) rfl ?_
  intro T112 h112 a112 kk112 g112 X112 e112 E112 R112 A112
  have z113 : n0 ≤ h103.size := Nat.le_trans z104 E103.1
  have z114 : n0 ≤ h107.size := Nat.le_trans z113 (Nat.le_of_eq W107.size.symm)
  have r115 : n0 ≤ a112 := Nat.le_trans z114 (Nat.le_of_eq g112.symm)
  have k116 : Keep h0 h103 [a1] := k106.ext E103
  have k117 : Keep h0 h107 [a1] := k116.wr W107 (Or.inl (List.mem_of_getElem? (i := 0) rfl))
  have y115 : h0.size ≤ a112 := Nat.le_trans k117.1 (Nat.le_of_eq g112.symm)
  have R112 : Row Z h112 a112 .double kk112 [(.double (0 : UInt64)), (.double (0 : UInt64)), (.double (0 : UInt64)), (.double (0 : UInt64))] := R112
  have f119 := F3.other W102 (Or.inr (Jvm.RoadKit.slot_ne (Or.inr (word hw 29 rfl)) (Or.inr (word hw 25 rfl)) (by decide) (t := (.array .double)) (t' := .int) (by decide) (by decide)))
  have f120 := f119.ext E103
  have f121 := f120.other W107 (Or.inr (Jvm.RoadKit.slot_ne (Or.inr (word hw 29 rfl)) (Or.inr (word hw 27 rfl)) (by decide) (t := (.array .double)) (t' := (.array .double)) (by decide) (by decide)))
  have f122 := f121.ext E112
  have f123 := f111.wr W107
  have f124 := f123.ext E112
  refine Go.putf X112 hx hZ hown (word hw 28 rfl) e112 f122 f124 (Or.inr ⟨(word hw 29 rfl), rfl, hnm⟩) (word hw 18 rfl) (ty := (.array .double)) (by decide) rfl rfl (Jvm.hb hby d3_26) (q := 29) rfl ?_
  intro T118 h118 X118 e118 W118
  have N118 := Fr.snoc X118 N107 g1
  have F118 := f122.same W118
  have k125 : Keep h0 h112 [a1] := k117.ext E112
  have k126 : Keep h0 h118 [a1] := k125.wr W118 (Or.inl (List.mem_of_getElem? (i := 0) rfl))
  have f127 := f124.wr W118
  refine Go.retV X118 hx hret hlk (Jvm.hb hby d3_29) (by decide) (by decide) ?_
  rw [e118]
  exact ⟨rfl, N118, k126, f127⟩
set_option maxRecDepth 65536 in
set_option maxHeartbeats 40000000 in
theorem rm_init1 (l : Launch) (Z : State) (a0 : Array Value) (hw : ∀ d ∈ tables_1, d.before a0 Z = true) (a1 : Addr) (w2 : Int32) (o1 : Value) (o2 : Value) (o3 : Value) (o4 : Value) (o5 : Value) (o6 : Value) (o7 : Value) (o8 : Value) (o9 : Value) (h0 : Heap) (n0 : Nat) (Z0 : n0 ≤ h0.size) (E1 : Exa Z h0 a1 "com/example/ratewright/ratewright/inference/GradientCorrection") (F1 : Fld Z h0 a1 "com/example/ratewright/ratewright/inference/GradientCorrection" "dimension" "I" o1) (F2 : Fld Z h0 a1 "com/example/ratewright/ratewright/inference/GradientCorrection" "unknowns" "I" o2) (F3 : Fld Z h0 a1 "com/example/ratewright/ratewright/inference/GradientCorrection" "coefficients" "[D" o3) (F4 : Fld Z h0 a1 "com/example/ratewright/ratewright/inference/GradientCorrection" "fitted" "Lcom/example/ratewright/ratewright/inference/GradientCorrection$NormalEquations;" o4) (F5 : Fld Z h0 a1 "com/example/ratewright/ratewright/inference/GradientCorrection" "heldOut" "Lcom/example/ratewright/ratewright/inference/GradientCorrection$NormalEquations;" o5) (F6 : Fld Z h0 a1 "com/example/ratewright/ratewright/inference/GradientCorrection" "heldOutTerms" "[[D" o6) (F7 : Fld Z h0 a1 "com/example/ratewright/ratewright/inference/GradientCorrection" "heldOutMisses" "[D" o7) (F8 : Fld Z h0 a1 "com/example/ratewright/ratewright/inference/GradientCorrection" "pendingTerms" "[[D" o8) (F9 : Fld Z h0 a1 "com/example/ratewright/ratewright/inference/GradientCorrection" "pendingMisses" "[D" o9) (g1 : n0 ≤ a1) (hm : w2 = 0 ∨ w2 = 1 ∨ w2 = 2 ∨ w2 = 3) :
    Con l Z (⟨"com/example/ratewright/ratewright/inference/GradientCorrection", "<init>", "(II)V"⟩ : MethodName) prog_4_method_1_code 5 none ({ frames := 3, cells := 20, slots := 2500, locals := 60 } : Room) #[(.ref a1), (.int (1 : Int32)), (.int w2)] h0 (fun vR hR LR => ∃ (ac : Addr) (kc : ClassId), vR = none ∧ Fr n0 LR ∧ Keep h0 hR [a1] ∧ h0.size ≤ ac ∧ Exa Z hR a1 "com/example/ratewright/ratewright/inference/GradientCorrection" ∧ Fld Z hR a1 "com/example/ratewright/ratewright/inference/GradientCorrection" "dimension" "I" (.int (1 : Int32)) ∧ Fld Z hR a1 "com/example/ratewright/ratewright/inference/GradientCorrection" "coefficients" "[D" (.ref ac) ∧ Row Z hR ac .double kc [(.double (0 : UInt64)), (.double (0 : UInt64)), (.double (0 : UInt64)), (.double (0 : UInt64))]) := by
  refine enter (l := l) (Z := Z) (y := (⟨"com/example/ratewright/ratewright/inference/GradientCorrection", "<init>", "(II)V"⟩ : MethodName)) (bytes := prog_4_method_1_code) (maxL := 5) (ret := none) (ws := []) (rm := ({ frames := 3, cells := 20, slots := 2500, locals := 60 } : Room)) (as' := #[(.ref a1), (.int (1 : Int32)), (.int w2)]) (h0 := h0) (Qv := (fun vR hR LR => ∃ (ac : Addr) (kc : ClassId), vR = none ∧ Fr n0 LR ∧ Keep h0 hR [a1] ∧ h0.size ≤ ac ∧ Exa Z hR a1 "com/example/ratewright/ratewright/inference/GradientCorrection" ∧ Fld Z hR a1 "com/example/ratewright/ratewright/inference/GradientCorrection" "dimension" "I" (.int (1 : Int32)) ∧ Fld Z hR a1 "com/example/ratewright/ratewright/inference/GradientCorrection" "coefficients" "[D" (.ref ac) ∧ Row Z hR ac .double kc [(.double (0 : UInt64)), (.double (0 : UInt64)), (.double (0 : UInt64)), (.double (0 : UInt64))])) (kc := 20) (ks := 2500) (by first | exact plainFor_of_name (by first | (simp [plainName, overriddenIn]; done) | decide +kernel) | decide +kernel) (Ls := #[.val (.ref a1), .val (.int (1 : Int32)), .val (.int w2), .unset, .unset]) (fun m => by first | (simp [entryFrame, mkF, argsToLocals, Value.category]; done) | rfl) ?_
  intro p e s m below meth c s₁ hx hby hml hown hnm hret hlk hZ X0 e0
  have hown : s.vm.findClass "com/example/ratewright/ratewright/inference/GradientCorrection" = some m.cls := hown
  have hml : c.maxLocals = 5 := hml
  have N0 := Fr.nil n0
  refine Go.aloadN X0.here hx (Jvm.hb hby d1_0) rfl rfl (q := 1) rfl ?_
  refine Go.init X0 hx hZ hown (word hw 8 rfl) (word hw 9 rfl) (word hw 10 rfl) e0 (Jvm.hb hby d1_1) (by rw [hml]; rfl) (by decide) (W := 0) (Nat.le_of_eq rfl) (by decide) (q := 4) rfl ?_
  intro T101 X101 e101
  refine Go.iloadN X101.here hx (Jvm.hb hby d1_4) rfl (q := 5) rfl ?_
  refine Go.sipush X101.here hx (Jvm.hb hby d1_5) (v := (512 : Int32)) rfl (q := 8) rfl ?_
  have hc8_103 : ¬ ((512 : Int32) < (1 : Int32)) := by decide
  refine Go.icmpN X101.here hx (Jvm.hb hby d1_8) (flt hc8_103).2.2.1 (q := 11) rfl ?_
  refine Go.iconst X101.here hx (Jvm.hb hby d1_11) (v := (1 : Int32)) rfl (q := 12) rfl ?_
  refine Go.goto X101.here hx (Jvm.hb hby d1_12) (by decide) (q := 16) rfl ?_
  refine Go.istoreN X101.here hx (Jvm.hb hby d1_16) (l2 := #[.val (.ref a1), .val (.int (1 : Int32)), .val (.int w2), .val (.int (1 : Int32)), .unset]) rfl (q := 17) rfl ?_
  refine Go.aloadN X101.here hx (Jvm.hb hby d1_17) rfl rfl (q := 18) rfl ?_
  refine Go.iloadN X101.here hx (Jvm.hb hby d1_18) rfl (q := 19) rfl ?_
  refine Go.putf X101 hx hZ hown (word hw 11 rfl) e101 F1 E1 (Or.inr ⟨(word hw 12 rfl), rfl, hnm⟩) (word hw 3 rfl) (ty := .int) (by decide) rfl rfl (Jvm.hb hby d1_19) (q := 22) rfl ?_
  intro T104 h104 X104 e104 W104
  have N104 := Fr.snoc X104 N0 g1
  have F104 := F1.same W104
  refine Go.aloadN X104.here hx (Jvm.hb hby d1_22) rfl rfl (q := 23) rfl ?_
  refine Go.iloadN X104.here hx (Jvm.hb hby d1_23) rfl (q := 24) rfl ?_
  have hc24_106 : ¬ ((1 : Int32) = (0 : Int32)) := by decide
  refine Go.ifN X104.here hx (Jvm.hb hby d1_24) ((if0 _ _).trans (feq hc24_106).1) (q := 27) rfl ?_
  refine Go.iconst X104.here hx (Jvm.hb hby d1_27) (v := (4 : Int32)) rfl (q := 28) rfl ?_
  refine Go.iloadN X104.here hx (Jvm.hb hby d1_28) rfl (q := 29) rfl ?_
  refine Go.imul X104.here hx (Jvm.hb hby d1_29) (v := (4 : Int32)) (by decide) (q := 30) rfl ?_
  refine Go.goto X104.here hx (Jvm.hb hby d1_30) (by decide) (q := 34) rfl ?_
  have f108 := F2.other W104 (Or.inr (Jvm.RoadKit.slot_ne (Or.inr (word hw 14 rfl)) (Or.inr (word hw 12 rfl)) (by decide) (t := .int) (t' := .int) (by decide) (by decide)))
  have f109 := E1.wr W104
  refine Go.putf X104 hx hZ hown (word hw 13 rfl) e104 f108 f109 (Or.inr ⟨(word hw 14 rfl), rfl, hnm⟩) (word hw 3 rfl) (ty := .int) (by decide) rfl rfl (Jvm.hb hby d1_34) (q := 37) rfl ?_
  intro T107 h107 X107 e107 W107
  have N107 := Fr.snoc X107 N104 g1
  have F107 := f108.same W107
  refine Go.aloadN X107.here hx (Jvm.hb hby d1_37) rfl rfl (q := 38) rfl ?_
  refine Go.iconst X107.here hx (Jvm.hb hby d1_38) (v := (4 : Int32)) rfl (q := 39) rfl ?_
  refine Go.iloadN X107.here hx (Jvm.hb hby d1_39) rfl (q := 40) rfl ?_
  refine Go.imul X107.here hx (Jvm.hb hby d1_40) (v := (4 : Int32)) (by decide) (q := 41) rfl ?_
  refine Go.newarr X107 hx hZ (aty := .double) (word hw 0 rfl) e107 (Jvm.hb hby d1_41) (by decide) (k := 4) (by decide) (by decide) (by decide) (by decide) (ad := "[D") (by decide) (q := 43) rfl ?_
  intro T110 h110 a110 kk110 g110 X110 e110 E110 R110 A110
  have z111 : n0 ≤ h104.size := Nat.le_trans Z0 (Nat.le_of_eq W104.size.symm)
  have z112 : n0 ≤ h107.size := Nat.le_trans z111 (Nat.le_of_eq W107.size.symm)
  have r113 : n0 ≤ a110 := Nat.le_trans z112 (Nat.le_of_eq g110.symm)
  have k114 : Keep h0 h104 [a1] := (Keep.refl h0 [a1]).wr W104 (Or.inl (List.mem_of_getElem? (i := 0) rfl))
  have k115 : Keep h0 h107 [a1] := k114.wr W107 (Or.inl (List.mem_of_getElem? (i := 0) rfl))
  have y113 : h0.size ≤ a110 := Nat.le_trans k115.1 (Nat.le_of_eq g110.symm)
  have R110 : Row Z h110 a110 .double kk110 [(.double (0 : UInt64)), (.double (0 : UInt64)), (.double (0 : UInt64)), (.double (0 : UInt64))] := R110
  have f117 := F3.other W104 (Or.inr (Jvm.RoadKit.slot_ne (Or.inl (word hw 16 rfl)) (Or.inr (word hw 12 rfl)) (by decide) (t := (.array .double)) (t' := .int) (by decide) (by decide)))
  have f118 := f117.other W107 (Or.inr (Jvm.RoadKit.slot_ne (Or.inl (word hw 16 rfl)) (Or.inr (word hw 14 rfl)) (by decide) (t := (.array .double)) (t' := .int) (by decide) (by decide)))
  have f119 := f118.ext E110
  have f120 := f109.wr W107
  have f121 := f120.ext E110
  refine Go.putf X110 hx hZ hown (word hw 15 rfl) e110 f119 f121 (Or.inl (word hw 16 rfl)) (word hw 3 rfl) (ty := (.array .double)) (by decide) rfl rfl (Jvm.hb hby d1_43) (q := 46) rfl ?_
  intro T116 h116 X116 e116 W116
  have N116 := Fr.snoc X116 N107 g1
  have F116 := f119.same W116
  refine Go.aloadN X116.here hx (Jvm.hb hby d1_46) rfl rfl (q := 47) rfl ?_
  refine Go.new X116 hx hZ hown (word hw 17 rfl) (word hw 18 rfl) (word hw 19 rfl) e116 (Jvm.hb hby d1_47) (by decide) (by decide) (q := 50) rfl ?_
  intro T122 h122 a122 g122 X122 e122 E122 A122 D122
  have z123 : n0 ≤ h110.size := Nat.le_trans z112 E110.1
  have z124 : n0 ≤ h116.size := Nat.le_trans z123 (Nat.le_of_eq W116.size.symm)
  have r125 : n0 ≤ a122 := Nat.le_trans z124 (Nat.le_of_eq g122.symm)
  have k126 : Keep h0 h110 [a1] := k115.ext E110
  have k127 : Keep h0 h116 [a1] := k126.wr W116 (Or.inl (List.mem_of_getElem? (i := 0) rfl))
  have y125 : h0.size ≤ a122 := Nat.le_trans k127.1 (Nat.le_of_eq g122.symm)
  have F128 : Fld Z h122 a122 "com/example/ratewright/ratewright/inference/GradientCorrection$NormalEquations" "size" "I" (.int (0 : Int32)) := D122 (Or.inr (word hw 25 rfl)) (ty := .int) (by decide)
  have F129 : Fld Z h122 a122 "com/example/ratewright/ratewright/inference/GradientCorrection$NormalEquations" "products" "[D" .null := D122 (Or.inr (word hw 27 rfl)) (ty := (.array .double)) (by decide)
  have F130 : Fld Z h122 a122 "com/example/ratewright/ratewright/inference/GradientCorrection$NormalEquations" "right" "[D" .null := D122 (Or.inr (word hw 29 rfl)) (ty := (.array .double)) (by decide)
  refine Go.dup X122.here hx (Jvm.hb hby d1_50) rfl (q := 51) rfl ?_
  refine Go.aloadN X122.here hx (Jvm.hb hby d1_51) rfl rfl (q := 52) rfl ?_
  have f132 := F107.ext E110
  have f133 := f132.other W116 (Or.inr (Jvm.RoadKit.slot_ne (Or.inr (word hw 14 rfl)) (Or.inl (word hw 16 rfl)) (by decide) (t := .int) (t' := (.array .double)) (by decide) (by decide)))
  have f134 := f133.ext E122
  refine Go.getf X122 hx hZ hown (word hw 13 rfl) e122 f134 (Jvm.hb hby d1_52) (q := 55) rfl ?_
  intro T131 X131 e131
  have z136 : n0 ≤ h122.size := Nat.le_trans z124 E122.1
  refine Go.special X131 hx hZ (y := (⟨"com/example/ratewright/ratewright/inference/GradientCorrection$NormalEquations", "<init>", "(I)V"⟩ : MethodName)) rfl hown (word hw 20 rfl) (word hw 21 rfl) (word hw 22 rfl) (word hw 19 rfl) (by decide) (rm_ne1 l Z a0 hw a122 (.int (0 : Int32)) .null .null h122 n0 z136 A122 F128 F129 F130 r125) e131 (a := a122) (argsL := [(.int (4 : Int32))]) (rest := [(.ref a122), (.ref a1)]) (W := 2) (Jvm.hb hby d1_55) rfl rfl (lenOf (pd0) rfl) (by rw [hml]; rfl) (Nat.le_of_eq rfl) (by decide) (by decide) (by decide) (by decide) (q := 58) rfl ?_
  intro T135 L135 w135 X135 hQ135
  obtain ⟨rfl, M135, K135, P135_0⟩ := hQ135
  have N135 := Fr.app N116 M135
  show Go p e below _ (T135.setTop (mkF m 58 #[.val (.ref a1), .val (.int (1 : Int32)), .val (.int w2), .val (.int (1 : Int32)), .unset] [(.ref a122), (.ref a1)]))
  have f138 := F4.other W104 (Or.inr (Jvm.RoadKit.slot_ne (Or.inr (word hw 31 rfl)) (Or.inr (word hw 12 rfl)) (by decide) (t := (.object "com/example/ratewright/ratewright/inference/GradientCorrection$NormalEquations")) (t' := .int) (by decide) (by decide)))
  have f139 := f138.other W107 (Or.inr (Jvm.RoadKit.slot_ne (Or.inr (word hw 31 rfl)) (Or.inr (word hw 14 rfl)) (by decide) (t := (.object "com/example/ratewright/ratewright/inference/GradientCorrection$NormalEquations")) (t' := .int) (by decide) (by decide)))
  have f140 := f139.ext E110
  have f141 := f140.other W116 (Or.inr (Jvm.RoadKit.slot_ne (Or.inr (word hw 31 rfl)) (Or.inl (word hw 16 rfl)) (by decide) (t := (.object "com/example/ratewright/ratewright/inference/GradientCorrection$NormalEquations")) (t' := (.array .double)) (by decide) (by decide)))
  have f142 := f141.ext E122
  have f144 := f121.wr W116
  have ne145 : a1 ≠ a122 := Nat.ne_of_lt (Nat.lt_of_lt_of_le f144.lt (Nat.le_of_eq g122.symm))
  have f143 := f142.keep K135 (ninS ne145 nin0)
  have f146 := f144.ext E122
  have f147 := f146.keep K135
  refine Go.putf X135 hx hZ hown (word hw 30 rfl) rfl f143 f147 (Or.inr ⟨(word hw 31 rfl), rfl, hnm⟩) (word hw 3 rfl) (ty := (.object "com/example/ratewright/ratewright/inference/GradientCorrection$NormalEquations")) (by decide) rfl rfl (Jvm.hb hby d1_58) (q := 61) rfl ?_
  intro T137 h137 X137 e137 W137
  have N137 := Fr.snoc X137 N135 g1
  have F137 := f143.same W137
  refine Go.aloadN X137.here hx (Jvm.hb hby d1_61) rfl rfl (q := 62) rfl ?_
  refine Go.new X137 hx hZ hown (word hw 17 rfl) (word hw 18 rfl) (word hw 19 rfl) e137 (Jvm.hb hby d1_62) (by decide) (by decide) (q := 65) rfl ?_
  intro T148 h148 a148 g148 X148 e148 E148 A148 D148
  have z149 : n0 ≤ T135.heap.size := Nat.le_trans z136 K135.1
  have z150 : n0 ≤ h137.size := Nat.le_trans z149 (Nat.le_of_eq W137.size.symm)
  have r151 : n0 ≤ a148 := Nat.le_trans z150 (Nat.le_of_eq g148.symm)
  have k152 : Keep h0 h122 [a1] := k127.ext E122
  have k153 : Keep h0 T135.heap [a1] := k152.trans K135 (allS (Or.inr y125) all0)
  have k154 : Keep h0 h137 [a1] := k153.wr W137 (Or.inl (List.mem_of_getElem? (i := 0) rfl))
  have y151 : h0.size ≤ a148 := Nat.le_trans k154.1 (Nat.le_of_eq g148.symm)
  have F155 : Fld Z h148 a148 "com/example/ratewright/ratewright/inference/GradientCorrection$NormalEquations" "size" "I" (.int (0 : Int32)) := D148 (Or.inr (word hw 25 rfl)) (ty := .int) (by decide)
  have F156 : Fld Z h148 a148 "com/example/ratewright/ratewright/inference/GradientCorrection$NormalEquations" "products" "[D" .null := D148 (Or.inr (word hw 27 rfl)) (ty := (.array .double)) (by decide)
  have F157 : Fld Z h148 a148 "com/example/ratewright/ratewright/inference/GradientCorrection$NormalEquations" "right" "[D" .null := D148 (Or.inr (word hw 29 rfl)) (ty := (.array .double)) (by decide)
  refine Go.dup X148.here hx (Jvm.hb hby d1_65) rfl (q := 66) rfl ?_
  refine Go.aloadN X148.here hx (Jvm.hb hby d1_66) rfl rfl (q := 67) rfl ?_
  have f159 := f134.keep K135 (ninS ne145 nin0)
  have f160 := f159.other W137 (Or.inr (Jvm.RoadKit.slot_ne (Or.inr (word hw 14 rfl)) (Or.inr (word hw 31 rfl)) (by decide) (t := .int) (t' := (.object "com/example/ratewright/ratewright/inference/GradientCorrection$NormalEquations")) (by decide) (by decide)))
  have f161 := f160.ext E148
  refine Go.getf X148 hx hZ hown (word hw 13 rfl) e148 f161 (Jvm.hb hby d1_67) (q := 70) rfl ?_
  intro T158 X158 e158
  have z163 : n0 ≤ h148.size := Nat.le_trans z150 E148.1
  refine Go.special X158 hx hZ (y := (⟨"com/example/ratewright/ratewright/inference/GradientCorrection$NormalEquations", "<init>", "(I)V"⟩ : MethodName)) rfl hown (word hw 20 rfl) (word hw 21 rfl) (word hw 22 rfl) (word hw 19 rfl) (by decide) (rm_ne1 l Z a0 hw a148 (.int (0 : Int32)) .null .null h148 n0 z163 A148 F155 F156 F157 r151) e158 (a := a148) (argsL := [(.int (4 : Int32))]) (rest := [(.ref a148), (.ref a1)]) (W := 2) (Jvm.hb hby d1_70) rfl rfl (lenOf (pd0) rfl) (by rw [hml]; rfl) (Nat.le_of_eq rfl) (by decide) (by decide) (by decide) (by decide) (q := 73) rfl ?_
  intro T162 L162 w162 X162 hQ162
  obtain ⟨rfl, M162, K162, P162_0⟩ := hQ162
  have N162 := Fr.app N137 M162
  show Go p e below _ (T162.setTop (mkF m 73 #[.val (.ref a1), .val (.int (1 : Int32)), .val (.int w2), .val (.int (1 : Int32)), .unset] [(.ref a148), (.ref a1)]))
  have f165 := F5.other W104 (Or.inr (Jvm.RoadKit.slot_ne (Or.inr (word hw 33 rfl)) (Or.inr (word hw 12 rfl)) (by decide) (t := (.object "com/example/ratewright/ratewright/inference/GradientCorrection$NormalEquations")) (t' := .int) (by decide) (by decide)))
  have f166 := f165.other W107 (Or.inr (Jvm.RoadKit.slot_ne (Or.inr (word hw 33 rfl)) (Or.inr (word hw 14 rfl)) (by decide) (t := (.object "com/example/ratewright/ratewright/inference/GradientCorrection$NormalEquations")) (t' := .int) (by decide) (by decide)))
  have f167 := f166.ext E110
  have f168 := f167.other W116 (Or.inr (Jvm.RoadKit.slot_ne (Or.inr (word hw 33 rfl)) (Or.inl (word hw 16 rfl)) (by decide) (t := (.object "com/example/ratewright/ratewright/inference/GradientCorrection$NormalEquations")) (t' := (.array .double)) (by decide) (by decide)))
  have f169 := f168.ext E122
  have f170 := f169.keep K135 (ninS ne145 nin0)
  have f171 := f170.other W137 (Or.inr (Jvm.RoadKit.slot_ne (Or.inr (word hw 33 rfl)) (Or.inr (word hw 31 rfl)) (by decide) (t := (.object "com/example/ratewright/ratewright/inference/GradientCorrection$NormalEquations")) (t' := (.object "com/example/ratewright/ratewright/inference/GradientCorrection$NormalEquations")) (by decide) (by decide)))
  have f172 := f171.ext E148
  have f174 := f147.wr W137
  have ne175 : a1 ≠ a148 := Nat.ne_of_lt (Nat.lt_of_lt_of_le f174.lt (Nat.le_of_eq g148.symm))
  have f173 := f172.keep K162 (ninS ne175 nin0)
  have f176 := f174.ext E148
  have f177 := f176.keep K162
  refine Go.putf X162 hx hZ hown (word hw 32 rfl) rfl f173 f177 (Or.inr ⟨(word hw 33 rfl), rfl, hnm⟩) (word hw 3 rfl) (ty := (.object "com/example/ratewright/ratewright/inference/GradientCorrection$NormalEquations")) (by decide) rfl rfl (Jvm.hb hby d1_73) (q := 76) rfl ?_
  intro T164 h164 X164 e164 W164
  have N164 := Fr.snoc X164 N162 g1
  have F164 := f173.same W164
  refine Go.aloadN X164.here hx (Jvm.hb hby d1_76) rfl rfl (q := 77) rfl ?_
  refine Go.iloadN X164.here hx (Jvm.hb hby d1_77) rfl (q := 78) rfl ?_
  have hc78_179 : ¬ ((1 : Int32) = (0 : Int32)) := by decide
  refine Go.ifN X164.here hx (Jvm.hb hby d1_78) ((if0 _ _).trans (feq hc78_179).1) (q := 81) rfl ?_
  refine Go.sipush X164.here hx (Jvm.hb hby d1_81) (v := (1000 : Int32)) rfl (q := 84) rfl ?_
  refine Go.goto X164.here hx (Jvm.hb hby d1_84) (by decide) (q := 88) rfl ?_
  refine Go.newarrs X164 hx hZ hown (ty := .double) (C := "[D") (by decide) (word hw 34 rfl) (word hw 35 rfl) e164 (Jvm.hb hby d1_88) (by decide) (k := 1000) (by decide) (by decide) (by decide) (by decide) (ad := "[[D") (by decide) (q := 91) rfl ?_
  intro T180 h180 a180 kk180 g180 X180 e180 E180 R180 A180
  have z181 : n0 ≤ T162.heap.size := Nat.le_trans z163 K162.1
  have z182 : n0 ≤ h164.size := Nat.le_trans z181 (Nat.le_of_eq W164.size.symm)
  have r183 : n0 ≤ a180 := Nat.le_trans z182 (Nat.le_of_eq g180.symm)
  have k184 : Keep h0 h148 [a1] := k154.ext E148
  have k185 : Keep h0 T162.heap [a1] := k184.trans K162 (allS (Or.inr y151) all0)
  have k186 : Keep h0 h164 [a1] := k185.wr W164 (Or.inl (List.mem_of_getElem? (i := 0) rfl))
  have y183 : h0.size ≤ a180 := Nat.le_trans k186.1 (Nat.le_of_eq g180.symm)
  have f188 := F6.other W104 (Or.inr (Jvm.RoadKit.slot_ne (Or.inr (word hw 37 rfl)) (Or.inr (word hw 12 rfl)) (by decide) (t := (.array (.array .double))) (t' := .int) (by decide) (by decide)))
  have f189 := f188.other W107 (Or.inr (Jvm.RoadKit.slot_ne (Or.inr (word hw 37 rfl)) (Or.inr (word hw 14 rfl)) (by decide) (t := (.array (.array .double))) (t' := .int) (by decide) (by decide)))
  have f190 := f189.ext E110
  have f191 := f190.other W116 (Or.inr (Jvm.RoadKit.slot_ne (Or.inr (word hw 37 rfl)) (Or.inl (word hw 16 rfl)) (by decide) (t := (.array (.array .double))) (t' := (.array .double)) (by decide) (by decide)))
  have f192 := f191.ext E122
  have f193 := f192.keep K135 (ninS ne145 nin0)
  have f194 := f193.other W137 (Or.inr (Jvm.RoadKit.slot_ne (Or.inr (word hw 37 rfl)) (Or.inr (word hw 31 rfl)) (by decide) (t := (.array (.array .double))) (t' := (.object "com/example/ratewright/ratewright/inference/GradientCorrection$NormalEquations")) (by decide) (by decide)))
  have f195 := f194.ext E148
  have f196 := f195.keep K162 (ninS ne175 nin0)
  have f197 := f196.other W164 (Or.inr (Jvm.RoadKit.slot_ne (Or.inr (word hw 37 rfl)) (Or.inr (word hw 33 rfl)) (by decide) (t := (.array (.array .double))) (t' := (.object "com/example/ratewright/ratewright/inference/GradientCorrection$NormalEquations")) (by decide) (by decide)))
  have f198 := f197.ext E180
  have f199 := f177.wr W164
  have f200 := f199.ext E180
  refine Go.putf X180 hx hZ hown (word hw 36 rfl) e180 f198 f200 (Or.inr ⟨(word hw 37 rfl), rfl, hnm⟩) (word hw 3 rfl) (ty := (.array (.array .double))) (by decide) rfl rfl (Jvm.hb hby d1_91) (q := 94) rfl ?_
  intro T187 h187 X187 e187 W187
  have N187 := Fr.snoc X187 N164 g1
  have F187 := f198.same W187
  refine Go.aloadN X187.here hx (Jvm.hb hby d1_94) rfl rfl (q := 95) rfl ?_
  refine Go.aloadN X187.here hx (Jvm.hb hby d1_95) rfl rfl (q := 96) rfl ?_
  refine Go.getf X187 hx hZ hown (word hw 36 rfl) e187 F187 (Jvm.hb hby d1_96) (q := 99) rfl ?_
  intro T201 X201 e201
  have ne203 : a1 ≠ a180 := Nat.ne_of_lt (Nat.lt_of_lt_of_le f199.lt (Nat.le_of_eq g180.symm))
  have f202 := R180.other W187 (Ne.symm ne203)
  refine Go.alen X201 hx hZ e201 f202 (Jvm.hb hby d1_99) (n := (1000 : Int32)) (by rw [List.length_replicate]; decide) (q := 100) rfl ?_
  refine Go.newarr X201 hx hZ (aty := .double) (word hw 0 rfl) e201 (Jvm.hb hby d1_100) (by decide) (k := 1000) (by decide) (by decide) (by decide) (by decide) (ad := "[D") (by decide) (q := 102) rfl ?_
  intro T204 h204 a204 kk204 g204 X204 e204 E204 R204 A204
  have z205 : n0 ≤ h180.size := Nat.le_trans z182 E180.1
  have z206 : n0 ≤ h187.size := Nat.le_trans z205 (Nat.le_of_eq W187.size.symm)
  have r207 : n0 ≤ a204 := Nat.le_trans z206 (Nat.le_of_eq g204.symm)
  have k208 : Keep h0 h180 [a1] := k186.ext E180
  have k209 : Keep h0 h187 [a1] := k208.wr W187 (Or.inl (List.mem_of_getElem? (i := 0) rfl))
  have y207 : h0.size ≤ a204 := Nat.le_trans k209.1 (Nat.le_of_eq g204.symm)
  have f211 := F7.other W104 (Or.inr (Jvm.RoadKit.slot_ne (Or.inr (word hw 39 rfl)) (Or.inr (word hw 12 rfl)) (by decide) (t := (.array .double)) (t' := .int) (by decide) (by decide)))
  have f212 := f211.other W107 (Or.inr (Jvm.RoadKit.slot_ne (Or.inr (word hw 39 rfl)) (Or.inr (word hw 14 rfl)) (by decide) (t := (.array .double)) (t' := .int) (by decide) (by decide)))
  have f213 := f212.ext E110
  have f214 := f213.other W116 (Or.inr (Jvm.RoadKit.slot_ne (Or.inr (word hw 39 rfl)) (Or.inl (word hw 16 rfl)) (by decide) (t := (.array .double)) (t' := (.array .double)) (by decide) (by decide)))
  have f215 := f214.ext E122
  have f216 := f215.keep K135 (ninS ne145 nin0)
  have f217 := f216.other W137 (Or.inr (Jvm.RoadKit.slot_ne (Or.inr (word hw 39 rfl)) (Or.inr (word hw 31 rfl)) (by decide) (t := (.array .double)) (t' := (.object "com/example/ratewright/ratewright/inference/GradientCorrection$NormalEquations")) (by decide) (by decide)))
  have f218 := f217.ext E148
  have f219 := f218.keep K162 (ninS ne175 nin0)
  have f220 := f219.other W164 (Or.inr (Jvm.RoadKit.slot_ne (Or.inr (word hw 39 rfl)) (Or.inr (word hw 33 rfl)) (by decide) (t := (.array .double)) (t' := (.object "com/example/ratewright/ratewright/inference/GradientCorrection$NormalEquations")) (by decide) (by decide)))
  have f221 := f220.ext E180
  have f222 := f221.other W187 (Or.inr (Jvm.RoadKit.slot_ne (Or.inr (word hw 39 rfl)) (Or.inr (word hw 37 rfl)) (by decide) (t := (.array .double)) (t' := (.array (.array .double))) (by decide) (by decide)))
  have f223 := f222.ext E204
  have f224 := f200.wr W187
  have f225 := f224.ext E204
  refine Go.putf X204 hx hZ hown (word hw 38 rfl) e204 f223 f225 (Or.inr ⟨(word hw 39 rfl), rfl, hnm⟩) (word hw 3 rfl) (ty := (.array .double)) (by decide) rfl rfl (Jvm.hb hby d1_102) (q := 105) rfl ?_
  intro T210 h210 X210 e210 W210
  have N210 := Fr.snoc X210 N187 g1
  have F210 := f223.same W210
  refine Go.iloadN X210.here hx (Jvm.hb hby d1_105) rfl (q := 106) rfl ?_
  have hc106_227 : ¬ ((1 : Int32) = (0 : Int32)) := by decide
  refine Go.ifN X210.here hx (Jvm.hb hby d1_106) ((if0 _ _).trans (feq hc106_227).1) (q := 109) rfl ?_
  refine Go.iloadN X210.here hx (Jvm.hb hby d1_109) rfl (q := 110) rfl ?_
  refine Go.goto X210.here hx (Jvm.hb hby d1_110) (by decide) (q := 114) rfl ?_
  refine Go.istore X210.here hx (Jvm.hb hby d1_114) (l2 := #[.val (.ref a1), .val (.int (1 : Int32)), .val (.int w2), .val (.int (1 : Int32)), .val (.int w2)]) rfl (q := 116) rfl ?_
  refine Go.aloadN X210.here hx (Jvm.hb hby d1_116) rfl rfl (q := 117) rfl ?_
  rcases hm with rfl | rfl | rfl | rfl
  · -- w2 = 0
    refine Go.iload X210.here hx (Jvm.hb hby d1_117) rfl (q := 119) rfl ?_
    refine Go.aloadN X210.here hx (Jvm.hb hby d1_119) rfl rfl (q := 120) rfl ?_
    have f229 := f161.keep K162 (ninS ne175 nin0)
    have f230 := f229.other W164 (Or.inr (Jvm.RoadKit.slot_ne (Or.inr (word hw 14 rfl)) (Or.inr (word hw 33 rfl)) (by decide) (t := .int) (t' := (.object "com/example/ratewright/ratewright/inference/GradientCorrection$NormalEquations")) (by decide) (by decide)))
    have f231 := f230.ext E180
    have f232 := f231.other W187 (Or.inr (Jvm.RoadKit.slot_ne (Or.inr (word hw 14 rfl)) (Or.inr (word hw 37 rfl)) (by decide) (t := .int) (t' := (.array (.array .double))) (by decide) (by decide)))
    have f233 := f232.ext E204
    have f234 := f233.other W210 (Or.inr (Jvm.RoadKit.slot_ne (Or.inr (word hw 14 rfl)) (Or.inr (word hw 39 rfl)) (by decide) (t := .int) (t' := (.array .double)) (by decide) (by decide)))
    refine Go.getf X210 hx hZ hown (word hw 13 rfl) e210 f234 (Jvm.hb hby d1_120) (q := 123) rfl ?_
    intro T228 X228 e228
    refine Go.grid X228 hx hZ hown (ty := .double) (C := "[D") (by decide) (by decide) (word hw 40 rfl) (word hw 35 rfl) (word hw 0 rfl) e228 (Jvm.hb hby d1_123) (by decide) (by decide) (N := 0) (by decide) (K := 4) (by decide) (by decide) (by decide) rfl rfl (by decide) (by decide) (q := 127) rfl ?_
    intro T235 h235 a235 g235 X235 e235 E235 A235
    have z236 : n0 ≤ h204.size := Nat.le_trans z206 E204.1
    have z237 : n0 ≤ h210.size := Nat.le_trans z236 (Nat.le_of_eq W210.size.symm)
    have r238 : n0 ≤ a235 := Nat.le_trans z237 (Nat.le_of_eq g235.symm)
    have k239 : Keep h0 h204 [a1] := k209.ext E204
    have k240 : Keep h0 h210 [a1] := k239.wr W210 (Or.inl (List.mem_of_getElem? (i := 0) rfl))
    have y238 : h0.size ≤ a235 := Nat.le_trans k240.1 (Nat.le_of_eq g235.symm)
    have f242 := F8.other W104 (Or.inr (Jvm.RoadKit.slot_ne (Or.inr (word hw 42 rfl)) (Or.inr (word hw 12 rfl)) (by decide) (t := (.array (.array .double))) (t' := .int) (by decide) (by decide)))
    have f243 := f242.other W107 (Or.inr (Jvm.RoadKit.slot_ne (Or.inr (word hw 42 rfl)) (Or.inr (word hw 14 rfl)) (by decide) (t := (.array (.array .double))) (t' := .int) (by decide) (by decide)))
    have f244 := f243.ext E110
    have f245 := f244.other W116 (Or.inr (Jvm.RoadKit.slot_ne (Or.inr (word hw 42 rfl)) (Or.inl (word hw 16 rfl)) (by decide) (t := (.array (.array .double))) (t' := (.array .double)) (by decide) (by decide)))
    have f246 := f245.ext E122
    have f247 := f246.keep K135 (ninS ne145 nin0)
    have f248 := f247.other W137 (Or.inr (Jvm.RoadKit.slot_ne (Or.inr (word hw 42 rfl)) (Or.inr (word hw 31 rfl)) (by decide) (t := (.array (.array .double))) (t' := (.object "com/example/ratewright/ratewright/inference/GradientCorrection$NormalEquations")) (by decide) (by decide)))
    have f249 := f248.ext E148
    have f250 := f249.keep K162 (ninS ne175 nin0)
    have f251 := f250.other W164 (Or.inr (Jvm.RoadKit.slot_ne (Or.inr (word hw 42 rfl)) (Or.inr (word hw 33 rfl)) (by decide) (t := (.array (.array .double))) (t' := (.object "com/example/ratewright/ratewright/inference/GradientCorrection$NormalEquations")) (by decide) (by decide)))
    have f252 := f251.ext E180
    have f253 := f252.other W187 (Or.inr (Jvm.RoadKit.slot_ne (Or.inr (word hw 42 rfl)) (Or.inr (word hw 37 rfl)) (by decide) (t := (.array (.array .double))) (t' := (.array (.array .double))) (by decide) (by decide)))
    have f254 := f253.ext E204
    have f255 := f254.other W210 (Or.inr (Jvm.RoadKit.slot_ne (Or.inr (word hw 42 rfl)) (Or.inr (word hw 39 rfl)) (by decide) (t := (.array (.array .double))) (t' := (.array .double)) (by decide) (by decide)))
    have f256 := f255.ext E235
    have f257 := f225.wr W210
    have f258 := f257.ext E235
    refine Go.putf X235 hx hZ hown (word hw 41 rfl) e235 f256 f258 (Or.inr ⟨(word hw 42 rfl), rfl, hnm⟩) (word hw 3 rfl) (ty := (.array (.array .double))) (by decide) rfl rfl (Jvm.hb hby d1_127) (q := 130) rfl ?_
    intro T241 h241 X241 e241 W241
    have N241 := Fr.snoc X241 N210 g1
    have F241 := f256.same W241
    refine Go.aloadN X241.here hx (Jvm.hb hby d1_130) rfl rfl (q := 131) rfl ?_
    refine Go.iload X241.here hx (Jvm.hb hby d1_131) rfl (q := 133) rfl ?_
    refine Go.newarr X241 hx hZ (aty := .double) (word hw 0 rfl) e241 (Jvm.hb hby d1_133) (by decide) (k := 0) (by decide) (by decide) (by decide) (by decide) (ad := "[D") (by decide) (q := 135) rfl ?_
    intro T259 h259 a259 kk259 g259 X259 e259 E259 R259 A259
    have z260 : n0 ≤ h235.size := Nat.le_trans z237 E235.1
    have z261 : n0 ≤ h241.size := Nat.le_trans z260 (Nat.le_of_eq W241.size.symm)
    have r262 : n0 ≤ a259 := Nat.le_trans z261 (Nat.le_of_eq g259.symm)
    have k263 : Keep h0 h235 [a1] := k240.ext E235
    have k264 : Keep h0 h241 [a1] := k263.wr W241 (Or.inl (List.mem_of_getElem? (i := 0) rfl))
    have y262 : h0.size ≤ a259 := Nat.le_trans k264.1 (Nat.le_of_eq g259.symm)
    have R259 : Row Z h259 a259 .double kk259 [] := R259
    have f266 := F9.other W104 (Or.inr (Jvm.RoadKit.slot_ne (Or.inr (word hw 44 rfl)) (Or.inr (word hw 12 rfl)) (by decide) (t := (.array .double)) (t' := .int) (by decide) (by decide)))
    have f267 := f266.other W107 (Or.inr (Jvm.RoadKit.slot_ne (Or.inr (word hw 44 rfl)) (Or.inr (word hw 14 rfl)) (by decide) (t := (.array .double)) (t' := .int) (by decide) (by decide)))
    have f268 := f267.ext E110
    have f269 := f268.other W116 (Or.inr (Jvm.RoadKit.slot_ne (Or.inr (word hw 44 rfl)) (Or.inl (word hw 16 rfl)) (by decide) (t := (.array .double)) (t' := (.array .double)) (by decide) (by decide)))
    have f270 := f269.ext E122
    have f271 := f270.keep K135 (ninS ne145 nin0)
    have f272 := f271.other W137 (Or.inr (Jvm.RoadKit.slot_ne (Or.inr (word hw 44 rfl)) (Or.inr (word hw 31 rfl)) (by decide) (t := (.array .double)) (t' := (.object "com/example/ratewright/ratewright/inference/GradientCorrection$NormalEquations")) (by decide) (by decide)))
    have f273 := f272.ext E148
    have f274 := f273.keep K162 (ninS ne175 nin0)
    have f275 := f274.other W164 (Or.inr (Jvm.RoadKit.slot_ne (Or.inr (word hw 44 rfl)) (Or.inr (word hw 33 rfl)) (by decide) (t := (.array .double)) (t' := (.object "com/example/ratewright/ratewright/inference/GradientCorrection$NormalEquations")) (by decide) (by decide)))
    have f276 := f275.ext E180
    have f277 := f276.other W187 (Or.inr (Jvm.RoadKit.slot_ne (Or.inr (word hw 44 rfl)) (Or.inr (word hw 37 rfl)) (by decide) (t := (.array .double)) (t' := (.array (.array .double))) (by decide) (by decide)))
    have f278 := f277.ext E204
    have f279 := f278.other W210 (Or.inr (Jvm.RoadKit.slot_ne (Or.inr (word hw 44 rfl)) (Or.inr (word hw 39 rfl)) (by decide) (t := (.array .double)) (t' := (.array .double)) (by decide) (by decide)))
    have f280 := f279.ext E235
    have f281 := f280.other W241 (Or.inr (Jvm.RoadKit.slot_ne (Or.inr (word hw 44 rfl)) (Or.inr (word hw 42 rfl)) (by decide) (t := (.array .double)) (t' := (.array (.array .double))) (by decide) (by decide)))
    have f282 := f281.ext E259
    have f283 := f258.wr W241
    have f284 := f283.ext E259
    refine Go.putf X259 hx hZ hown (word hw 43 rfl) e259 f282 f284 (Or.inr ⟨(word hw 44 rfl), rfl, hnm⟩) (word hw 3 rfl) (ty := (.array .double)) (by decide) rfl rfl (Jvm.hb hby d1_135) (q := 138) rfl ?_
    intro T265 h265 X265 e265 W265
    have N265 := Fr.snoc X265 N241 g1
    have F265 := f282.same W265
    have k285 : Keep h0 h259 [a1] := k264.ext E259
    have k286 : Keep h0 h265 [a1] := k285.wr W265 (Or.inl (List.mem_of_getElem? (i := 0) rfl))
    have f287 := f284.wr W265
    have f288 := F104.other W107 (Or.inr (Jvm.RoadKit.slot_ne (Or.inr (word hw 12 rfl)) (Or.inr (word hw 14 rfl)) (by decide) (t := .int) (t' := .int) (by decide) (by decide)))
    have f289 := f288.ext E110
    have f290 := f289.other W116 (Or.inr (Jvm.RoadKit.slot_ne (Or.inr (word hw 12 rfl)) (Or.inl (word hw 16 rfl)) (by decide) (t := .int) (t' := (.array .double)) (by decide) (by decide)))
    have f291 := f290.ext E122
    have f292 := f291.keep K135 (ninS ne145 nin0)
    have f293 := f292.other W137 (Or.inr (Jvm.RoadKit.slot_ne (Or.inr (word hw 12 rfl)) (Or.inr (word hw 31 rfl)) (by decide) (t := .int) (t' := (.object "com/example/ratewright/ratewright/inference/GradientCorrection$NormalEquations")) (by decide) (by decide)))
    have f294 := f293.ext E148
    have f295 := f294.keep K162 (ninS ne175 nin0)
    have f296 := f295.other W164 (Or.inr (Jvm.RoadKit.slot_ne (Or.inr (word hw 12 rfl)) (Or.inr (word hw 33 rfl)) (by decide) (t := .int) (t' := (.object "com/example/ratewright/ratewright/inference/GradientCorrection$NormalEquations")) (by decide) (by decide)))
    have f297 := f296.ext E180
    have f298 := f297.other W187 (Or.inr (Jvm.RoadKit.slot_ne (Or.inr (word hw 12 rfl)) (Or.inr (word hw 37 rfl)) (by decide) (t := .int) (t' := (.array (.array .double))) (by decide) (by decide)))
    have f299 := f298.ext E204
    have f300 := f299.other W210 (Or.inr (Jvm.RoadKit.slot_ne (Or.inr (word hw 12 rfl)) (Or.inr (word hw 39 rfl)) (by decide) (t := .int) (t' := (.array .double)) (by decide) (by decide)))
    have f301 := f300.ext E235
    have f302 := f301.other W241 (Or.inr (Jvm.RoadKit.slot_ne (Or.inr (word hw 12 rfl)) (Or.inr (word hw 42 rfl)) (by decide) (t := .int) (t' := (.array (.array .double))) (by decide) (by decide)))
    have f303 := f302.ext E259
    have f304 := f303.other W265 (Or.inr (Jvm.RoadKit.slot_ne (Or.inr (word hw 12 rfl)) (Or.inr (word hw 44 rfl)) (by decide) (t := .int) (t' := (.array .double)) (by decide) (by decide)))
    have f305 := F116.ext E122
    have f306 := f305.keep K135 (ninS ne145 nin0)
    have f307 := f306.other W137 (Or.inr (Jvm.RoadKit.slot_ne (Or.inl (word hw 16 rfl)) (Or.inr (word hw 31 rfl)) (by decide) (t := (.array .double)) (t' := (.object "com/example/ratewright/ratewright/inference/GradientCorrection$NormalEquations")) (by decide) (by decide)))
    have f308 := f307.ext E148
    have f309 := f308.keep K162 (ninS ne175 nin0)
    have f310 := f309.other W164 (Or.inr (Jvm.RoadKit.slot_ne (Or.inl (word hw 16 rfl)) (Or.inr (word hw 33 rfl)) (by decide) (t := (.array .double)) (t' := (.object "com/example/ratewright/ratewright/inference/GradientCorrection$NormalEquations")) (by decide) (by decide)))
    have f311 := f310.ext E180
    have f312 := f311.other W187 (Or.inr (Jvm.RoadKit.slot_ne (Or.inl (word hw 16 rfl)) (Or.inr (word hw 37 rfl)) (by decide) (t := (.array .double)) (t' := (.array (.array .double))) (by decide) (by decide)))
    have f313 := f312.ext E204
    have f314 := f313.other W210 (Or.inr (Jvm.RoadKit.slot_ne (Or.inl (word hw 16 rfl)) (Or.inr (word hw 39 rfl)) (by decide) (t := (.array .double)) (t' := (.array .double)) (by decide) (by decide)))
    have f315 := f314.ext E235
    have f316 := f315.other W241 (Or.inr (Jvm.RoadKit.slot_ne (Or.inl (word hw 16 rfl)) (Or.inr (word hw 42 rfl)) (by decide) (t := (.array .double)) (t' := (.array (.array .double))) (by decide) (by decide)))
    have f317 := f316.ext E259
    have f318 := f317.other W265 (Or.inr (Jvm.RoadKit.slot_ne (Or.inl (word hw 16 rfl)) (Or.inr (word hw 44 rfl)) (by decide) (t := (.array .double)) (t' := (.array .double)) (by decide) (by decide)))
    have ne320 : a1 ≠ a110 := Nat.ne_of_lt (Nat.lt_of_lt_of_le f120.lt (Nat.le_of_eq g110.symm))
    have f319 := R110.other W116 (Ne.symm ne320)
    have f321 := f319.ext E122
    have ne323 : a110 ≠ a122 := Nat.ne_of_lt (Nat.lt_of_lt_of_le f319.lt (Nat.le_of_eq g122.symm))
    have f322 := f321.keep K135 (ninS ne323 nin0)
    have f324 := f322.other W137 (Ne.symm ne320)
    have f325 := f324.ext E148
    have ne327 : a110 ≠ a148 := Nat.ne_of_lt (Nat.lt_of_lt_of_le f324.lt (Nat.le_of_eq g148.symm))
    have f326 := f325.keep K162 (ninS ne327 nin0)
    have f328 := f326.other W164 (Ne.symm ne320)
    have f329 := f328.ext E180
    have f330 := f329.other W187 (Ne.symm ne320)
    have f331 := f330.ext E204
    have f332 := f331.other W210 (Ne.symm ne320)
    have f333 := f332.ext E235
    have f334 := f333.other W241 (Ne.symm ne320)
    have f335 := f334.ext E259
    have f336 := f335.other W265 (Ne.symm ne320)
    refine Go.retV X265 hx hret hlk (Jvm.hb hby d1_138) (by decide) (by decide) ?_
    rw [e265]
    exact ⟨a110, kk110, rfl, N265, k286, y113, f287, f304, f318, f336⟩
  · -- w2 = 1
    refine Go.iload X210.here hx (Jvm.hb hby d1_117) rfl (q := 119) rfl ?_
    refine Go.aloadN X210.here hx (Jvm.hb hby d1_119) rfl rfl (q := 120) rfl ?_
    have f338 := f161.keep K162 (ninS ne175 nin0)
    have f339 := f338.other W164 (Or.inr (Jvm.RoadKit.slot_ne (Or.inr (word hw 14 rfl)) (Or.inr (word hw 33 rfl)) (by decide) (t := .int) (t' := (.object "com/example/ratewright/ratewright/inference/GradientCorrection$NormalEquations")) (by decide) (by decide)))
    have f340 := f339.ext E180
    have f341 := f340.other W187 (Or.inr (Jvm.RoadKit.slot_ne (Or.inr (word hw 14 rfl)) (Or.inr (word hw 37 rfl)) (by decide) (t := .int) (t' := (.array (.array .double))) (by decide) (by decide)))
    have f342 := f341.ext E204
    have f343 := f342.other W210 (Or.inr (Jvm.RoadKit.slot_ne (Or.inr (word hw 14 rfl)) (Or.inr (word hw 39 rfl)) (by decide) (t := .int) (t' := (.array .double)) (by decide) (by decide)))
    refine Go.getf X210 hx hZ hown (word hw 13 rfl) e210 f343 (Jvm.hb hby d1_120) (q := 123) rfl ?_
    intro T337 X337 e337
    refine Go.grid X337 hx hZ hown (ty := .double) (C := "[D") (by decide) (by decide) (word hw 40 rfl) (word hw 35 rfl) (word hw 0 rfl) e337 (Jvm.hb hby d1_123) (by decide) (by decide) (N := 1) (by decide) (K := 4) (by decide) (by decide) (by decide) rfl rfl (by decide) (by decide) (q := 127) rfl ?_
    intro T344 h344 a344 g344 X344 e344 E344 A344
    have z345 : n0 ≤ h204.size := Nat.le_trans z206 E204.1
    have z346 : n0 ≤ h210.size := Nat.le_trans z345 (Nat.le_of_eq W210.size.symm)
    have r347 : n0 ≤ a344 := Nat.le_trans z346 (Nat.le_of_eq g344.symm)
    have k348 : Keep h0 h204 [a1] := k209.ext E204
    have k349 : Keep h0 h210 [a1] := k348.wr W210 (Or.inl (List.mem_of_getElem? (i := 0) rfl))
    have y347 : h0.size ≤ a344 := Nat.le_trans k349.1 (Nat.le_of_eq g344.symm)
    have f351 := F8.other W104 (Or.inr (Jvm.RoadKit.slot_ne (Or.inr (word hw 42 rfl)) (Or.inr (word hw 12 rfl)) (by decide) (t := (.array (.array .double))) (t' := .int) (by decide) (by decide)))
    have f352 := f351.other W107 (Or.inr (Jvm.RoadKit.slot_ne (Or.inr (word hw 42 rfl)) (Or.inr (word hw 14 rfl)) (by decide) (t := (.array (.array .double))) (t' := .int) (by decide) (by decide)))
    have f353 := f352.ext E110
    have f354 := f353.other W116 (Or.inr (Jvm.RoadKit.slot_ne (Or.inr (word hw 42 rfl)) (Or.inl (word hw 16 rfl)) (by decide) (t := (.array (.array .double))) (t' := (.array .double)) (by decide) (by decide)))
    have f355 := f354.ext E122
    have f356 := f355.keep K135 (ninS ne145 nin0)
    have f357 := f356.other W137 (Or.inr (Jvm.RoadKit.slot_ne (Or.inr (word hw 42 rfl)) (Or.inr (word hw 31 rfl)) (by decide) (t := (.array (.array .double))) (t' := (.object "com/example/ratewright/ratewright/inference/GradientCorrection$NormalEquations")) (by decide) (by decide)))
    have f358 := f357.ext E148
    have f359 := f358.keep K162 (ninS ne175 nin0)
    have f360 := f359.other W164 (Or.inr (Jvm.RoadKit.slot_ne (Or.inr (word hw 42 rfl)) (Or.inr (word hw 33 rfl)) (by decide) (t := (.array (.array .double))) (t' := (.object "com/example/ratewright/ratewright/inference/GradientCorrection$NormalEquations")) (by decide) (by decide)))
    have f361 := f360.ext E180
    have f362 := f361.other W187 (Or.inr (Jvm.RoadKit.slot_ne (Or.inr (word hw 42 rfl)) (Or.inr (word hw 37 rfl)) (by decide) (t := (.array (.array .double))) (t' := (.array (.array .double))) (by decide) (by decide)))
    have f363 := f362.ext E204
    have f364 := f363.other W210 (Or.inr (Jvm.RoadKit.slot_ne (Or.inr (word hw 42 rfl)) (Or.inr (word hw 39 rfl)) (by decide) (t := (.array (.array .double))) (t' := (.array .double)) (by decide) (by decide)))
    have f365 := f364.ext E344
    have f366 := f225.wr W210
    have f367 := f366.ext E344
    refine Go.putf X344 hx hZ hown (word hw 41 rfl) e344 f365 f367 (Or.inr ⟨(word hw 42 rfl), rfl, hnm⟩) (word hw 3 rfl) (ty := (.array (.array .double))) (by decide) rfl rfl (Jvm.hb hby d1_127) (q := 130) rfl ?_
    intro T350 h350 X350 e350 W350
    have N350 := Fr.snoc X350 N210 g1
    have F350 := f365.same W350
    refine Go.aloadN X350.here hx (Jvm.hb hby d1_130) rfl rfl (q := 131) rfl ?_
    refine Go.iload X350.here hx (Jvm.hb hby d1_131) rfl (q := 133) rfl ?_
    refine Go.newarr X350 hx hZ (aty := .double) (word hw 0 rfl) e350 (Jvm.hb hby d1_133) (by decide) (k := 1) (by decide) (by decide) (by decide) (by decide) (ad := "[D") (by decide) (q := 135) rfl ?_
    intro T368 h368 a368 kk368 g368 X368 e368 E368 R368 A368
    have z369 : n0 ≤ h344.size := Nat.le_trans z346 E344.1
    have z370 : n0 ≤ h350.size := Nat.le_trans z369 (Nat.le_of_eq W350.size.symm)
    have r371 : n0 ≤ a368 := Nat.le_trans z370 (Nat.le_of_eq g368.symm)
    have k372 : Keep h0 h344 [a1] := k349.ext E344
    have k373 : Keep h0 h350 [a1] := k372.wr W350 (Or.inl (List.mem_of_getElem? (i := 0) rfl))
    have y371 : h0.size ≤ a368 := Nat.le_trans k373.1 (Nat.le_of_eq g368.symm)
    have R368 : Row Z h368 a368 .double kk368 [(.double (0 : UInt64))] := R368
    have f375 := F9.other W104 (Or.inr (Jvm.RoadKit.slot_ne (Or.inr (word hw 44 rfl)) (Or.inr (word hw 12 rfl)) (by decide) (t := (.array .double)) (t' := .int) (by decide) (by decide)))
    have f376 := f375.other W107 (Or.inr (Jvm.RoadKit.slot_ne (Or.inr (word hw 44 rfl)) (Or.inr (word hw 14 rfl)) (by decide) (t := (.array .double)) (t' := .int) (by decide) (by decide)))
    have f377 := f376.ext E110
    have f378 := f377.other W116 (Or.inr (Jvm.RoadKit.slot_ne (Or.inr (word hw 44 rfl)) (Or.inl (word hw 16 rfl)) (by decide) (t := (.array .double)) (t' := (.array .double)) (by decide) (by decide)))
    have f379 := f378.ext E122
    have f380 := f379.keep K135 (ninS ne145 nin0)
    have f381 := f380.other W137 (Or.inr (Jvm.RoadKit.slot_ne (Or.inr (word hw 44 rfl)) (Or.inr (word hw 31 rfl)) (by decide) (t := (.array .double)) (t' := (.object "com/example/ratewright/ratewright/inference/GradientCorrection$NormalEquations")) (by decide) (by decide)))
    have f382 := f381.ext E148
    have f383 := f382.keep K162 (ninS ne175 nin0)
    have f384 := f383.other W164 (Or.inr (Jvm.RoadKit.slot_ne (Or.inr (word hw 44 rfl)) (Or.inr (word hw 33 rfl)) (by decide) (t := (.array .double)) (t' := (.object "com/example/ratewright/ratewright/inference/GradientCorrection$NormalEquations")) (by decide) (by decide)))
    have f385 := f384.ext E180
    have f386 := f385.other W187 (Or.inr (Jvm.RoadKit.slot_ne (Or.inr (word hw 44 rfl)) (Or.inr (word hw 37 rfl)) (by decide) (t := (.array .double)) (t' := (.array (.array .double))) (by decide) (by decide)))
    have f387 := f386.ext E204
    have f388 := f387.other W210 (Or.inr (Jvm.RoadKit.slot_ne (Or.inr (word hw 44 rfl)) (Or.inr (word hw 39 rfl)) (by decide) (t := (.array .double)) (t' := (.array .double)) (by decide) (by decide)))
    have f389 := f388.ext E344
    have f390 := f389.other W350 (Or.inr (Jvm.RoadKit.slot_ne (Or.inr (word hw 44 rfl)) (Or.inr (word hw 42 rfl)) (by decide) (t := (.array .double)) (t' := (.array (.array .double))) (by decide) (by decide)))
    have f391 := f390.ext E368
    have f392 := f367.wr W350
    have f393 := f392.ext E368
    refine Go.putf X368 hx hZ hown (word hw 43 rfl) e368 f391 f393 (Or.inr ⟨(word hw 44 rfl), rfl, hnm⟩) (word hw 3 rfl) (ty := (.array .double)) (by decide) rfl rfl (Jvm.hb hby d1_135) (q := 138) rfl ?_
    intro T374 h374 X374 e374 W374
    have N374 := Fr.snoc X374 N350 g1
    have F374 := f391.same W374
    have k394 : Keep h0 h368 [a1] := k373.ext E368
    have k395 : Keep h0 h374 [a1] := k394.wr W374 (Or.inl (List.mem_of_getElem? (i := 0) rfl))
    have f396 := f393.wr W374
    have f397 := F104.other W107 (Or.inr (Jvm.RoadKit.slot_ne (Or.inr (word hw 12 rfl)) (Or.inr (word hw 14 rfl)) (by decide) (t := .int) (t' := .int) (by decide) (by decide)))
    have f398 := f397.ext E110
    have f399 := f398.other W116 (Or.inr (Jvm.RoadKit.slot_ne (Or.inr (word hw 12 rfl)) (Or.inl (word hw 16 rfl)) (by decide) (t := .int) (t' := (.array .double)) (by decide) (by decide)))
    have f400 := f399.ext E122
    have f401 := f400.keep K135 (ninS ne145 nin0)
    have f402 := f401.other W137 (Or.inr (Jvm.RoadKit.slot_ne (Or.inr (word hw 12 rfl)) (Or.inr (word hw 31 rfl)) (by decide) (t := .int) (t' := (.object "com/example/ratewright/ratewright/inference/GradientCorrection$NormalEquations")) (by decide) (by decide)))
    have f403 := f402.ext E148
    have f404 := f403.keep K162 (ninS ne175 nin0)
    have f405 := f404.other W164 (Or.inr (Jvm.RoadKit.slot_ne (Or.inr (word hw 12 rfl)) (Or.inr (word hw 33 rfl)) (by decide) (t := .int) (t' := (.object "com/example/ratewright/ratewright/inference/GradientCorrection$NormalEquations")) (by decide) (by decide)))
    have f406 := f405.ext E180
    have f407 := f406.other W187 (Or.inr (Jvm.RoadKit.slot_ne (Or.inr (word hw 12 rfl)) (Or.inr (word hw 37 rfl)) (by decide) (t := .int) (t' := (.array (.array .double))) (by decide) (by decide)))
    have f408 := f407.ext E204
    have f409 := f408.other W210 (Or.inr (Jvm.RoadKit.slot_ne (Or.inr (word hw 12 rfl)) (Or.inr (word hw 39 rfl)) (by decide) (t := .int) (t' := (.array .double)) (by decide) (by decide)))
    have f410 := f409.ext E344
    have f411 := f410.other W350 (Or.inr (Jvm.RoadKit.slot_ne (Or.inr (word hw 12 rfl)) (Or.inr (word hw 42 rfl)) (by decide) (t := .int) (t' := (.array (.array .double))) (by decide) (by decide)))
    have f412 := f411.ext E368
    have f413 := f412.other W374 (Or.inr (Jvm.RoadKit.slot_ne (Or.inr (word hw 12 rfl)) (Or.inr (word hw 44 rfl)) (by decide) (t := .int) (t' := (.array .double)) (by decide) (by decide)))
    have f414 := F116.ext E122
    have f415 := f414.keep K135 (ninS ne145 nin0)
    have f416 := f415.other W137 (Or.inr (Jvm.RoadKit.slot_ne (Or.inl (word hw 16 rfl)) (Or.inr (word hw 31 rfl)) (by decide) (t := (.array .double)) (t' := (.object "com/example/ratewright/ratewright/inference/GradientCorrection$NormalEquations")) (by decide) (by decide)))
    have f417 := f416.ext E148
    have f418 := f417.keep K162 (ninS ne175 nin0)
    have f419 := f418.other W164 (Or.inr (Jvm.RoadKit.slot_ne (Or.inl (word hw 16 rfl)) (Or.inr (word hw 33 rfl)) (by decide) (t := (.array .double)) (t' := (.object "com/example/ratewright/ratewright/inference/GradientCorrection$NormalEquations")) (by decide) (by decide)))
    have f420 := f419.ext E180
    have f421 := f420.other W187 (Or.inr (Jvm.RoadKit.slot_ne (Or.inl (word hw 16 rfl)) (Or.inr (word hw 37 rfl)) (by decide) (t := (.array .double)) (t' := (.array (.array .double))) (by decide) (by decide)))
    have f422 := f421.ext E204
    have f423 := f422.other W210 (Or.inr (Jvm.RoadKit.slot_ne (Or.inl (word hw 16 rfl)) (Or.inr (word hw 39 rfl)) (by decide) (t := (.array .double)) (t' := (.array .double)) (by decide) (by decide)))
    have f424 := f423.ext E344
    have f425 := f424.other W350 (Or.inr (Jvm.RoadKit.slot_ne (Or.inl (word hw 16 rfl)) (Or.inr (word hw 42 rfl)) (by decide) (t := (.array .double)) (t' := (.array (.array .double))) (by decide) (by decide)))
    have f426 := f425.ext E368
    have f427 := f426.other W374 (Or.inr (Jvm.RoadKit.slot_ne (Or.inl (word hw 16 rfl)) (Or.inr (word hw 44 rfl)) (by decide) (t := (.array .double)) (t' := (.array .double)) (by decide) (by decide)))
    have ne429 : a1 ≠ a110 := Nat.ne_of_lt (Nat.lt_of_lt_of_le f120.lt (Nat.le_of_eq g110.symm))
    have f428 := R110.other W116 (Ne.symm ne429)
    have f430 := f428.ext E122
    have ne432 : a110 ≠ a122 := Nat.ne_of_lt (Nat.lt_of_lt_of_le f428.lt (Nat.le_of_eq g122.symm))
    have f431 := f430.keep K135 (ninS ne432 nin0)
    have f433 := f431.other W137 (Ne.symm ne429)
    have f434 := f433.ext E148
    have ne436 : a110 ≠ a148 := Nat.ne_of_lt (Nat.lt_of_lt_of_le f433.lt (Nat.le_of_eq g148.symm))
    have f435 := f434.keep K162 (ninS ne436 nin0)
    have f437 := f435.other W164 (Ne.symm ne429)
    have f438 := f437.ext E180
    have f439 := f438.other W187 (Ne.symm ne429)
    have f440 := f439.ext E204
    have f441 := f440.other W210 (Ne.symm ne429)
    have f442 := f441.ext E344
    have f443 := f442.other W350 (Ne.symm ne429)
    have f444 := f443.ext E368
    have f445 := f444.other W374 (Ne.symm ne429)
    refine Go.retV X374 hx hret hlk (Jvm.hb hby d1_138) (by decide) (by decide) ?_
    rw [e374]
    exact ⟨a110, kk110, rfl, N374, k395, y113, f396, f413, f427, f445⟩
  · -- w2 = 2
    refine Go.iload X210.here hx (Jvm.hb hby d1_117) rfl (q := 119) rfl ?_
    refine Go.aloadN X210.here hx (Jvm.hb hby d1_119) rfl rfl (q := 120) rfl ?_
    have f447 := f161.keep K162 (ninS ne175 nin0)
    have f448 := f447.other W164 (Or.inr (Jvm.RoadKit.slot_ne (Or.inr (word hw 14 rfl)) (Or.inr (word hw 33 rfl)) (by decide) (t := .int) (t' := (.object "com/example/ratewright/ratewright/inference/GradientCorrection$NormalEquations")) (by decide) (by decide)))
    have f449 := f448.ext E180
    have f450 := f449.other W187 (Or.inr (Jvm.RoadKit.slot_ne (Or.inr (word hw 14 rfl)) (Or.inr (word hw 37 rfl)) (by decide) (t := .int) (t' := (.array (.array .double))) (by decide) (by decide)))
    have f451 := f450.ext E204
    have f452 := f451.other W210 (Or.inr (Jvm.RoadKit.slot_ne (Or.inr (word hw 14 rfl)) (Or.inr (word hw 39 rfl)) (by decide) (t := .int) (t' := (.array .double)) (by decide) (by decide)))
    refine Go.getf X210 hx hZ hown (word hw 13 rfl) e210 f452 (Jvm.hb hby d1_120) (q := 123) rfl ?_
    intro T446 X446 e446
    refine Go.grid X446 hx hZ hown (ty := .double) (C := "[D") (by decide) (by decide) (word hw 40 rfl) (word hw 35 rfl) (word hw 0 rfl) e446 (Jvm.hb hby d1_123) (by decide) (by decide) (N := 2) (by decide) (K := 4) (by decide) (by decide) (by decide) rfl rfl (by decide) (by decide) (q := 127) rfl ?_
    intro T453 h453 a453 g453 X453 e453 E453 A453
    have z454 : n0 ≤ h204.size := Nat.le_trans z206 E204.1
    have z455 : n0 ≤ h210.size := Nat.le_trans z454 (Nat.le_of_eq W210.size.symm)
    have r456 : n0 ≤ a453 := Nat.le_trans z455 (Nat.le_of_eq g453.symm)
    have k457 : Keep h0 h204 [a1] := k209.ext E204
    have k458 : Keep h0 h210 [a1] := k457.wr W210 (Or.inl (List.mem_of_getElem? (i := 0) rfl))
    have y456 : h0.size ≤ a453 := Nat.le_trans k458.1 (Nat.le_of_eq g453.symm)
    have f460 := F8.other W104 (Or.inr (Jvm.RoadKit.slot_ne (Or.inr (word hw 42 rfl)) (Or.inr (word hw 12 rfl)) (by decide) (t := (.array (.array .double))) (t' := .int) (by decide) (by decide)))
    have f461 := f460.other W107 (Or.inr (Jvm.RoadKit.slot_ne (Or.inr (word hw 42 rfl)) (Or.inr (word hw 14 rfl)) (by decide) (t := (.array (.array .double))) (t' := .int) (by decide) (by decide)))
    have f462 := f461.ext E110
    have f463 := f462.other W116 (Or.inr (Jvm.RoadKit.slot_ne (Or.inr (word hw 42 rfl)) (Or.inl (word hw 16 rfl)) (by decide) (t := (.array (.array .double))) (t' := (.array .double)) (by decide) (by decide)))
    have f464 := f463.ext E122
    have f465 := f464.keep K135 (ninS ne145 nin0)
    have f466 := f465.other W137 (Or.inr (Jvm.RoadKit.slot_ne (Or.inr (word hw 42 rfl)) (Or.inr (word hw 31 rfl)) (by decide) (t := (.array (.array .double))) (t' := (.object "com/example/ratewright/ratewright/inference/GradientCorrection$NormalEquations")) (by decide) (by decide)))
    have f467 := f466.ext E148
    have f468 := f467.keep K162 (ninS ne175 nin0)
    have f469 := f468.other W164 (Or.inr (Jvm.RoadKit.slot_ne (Or.inr (word hw 42 rfl)) (Or.inr (word hw 33 rfl)) (by decide) (t := (.array (.array .double))) (t' := (.object "com/example/ratewright/ratewright/inference/GradientCorrection$NormalEquations")) (by decide) (by decide)))
    have f470 := f469.ext E180
    have f471 := f470.other W187 (Or.inr (Jvm.RoadKit.slot_ne (Or.inr (word hw 42 rfl)) (Or.inr (word hw 37 rfl)) (by decide) (t := (.array (.array .double))) (t' := (.array (.array .double))) (by decide) (by decide)))
    have f472 := f471.ext E204
    have f473 := f472.other W210 (Or.inr (Jvm.RoadKit.slot_ne (Or.inr (word hw 42 rfl)) (Or.inr (word hw 39 rfl)) (by decide) (t := (.array (.array .double))) (t' := (.array .double)) (by decide) (by decide)))
    have f474 := f473.ext E453
    have f475 := f225.wr W210
    have f476 := f475.ext E453
    refine Go.putf X453 hx hZ hown (word hw 41 rfl) e453 f474 f476 (Or.inr ⟨(word hw 42 rfl), rfl, hnm⟩) (word hw 3 rfl) (ty := (.array (.array .double))) (by decide) rfl rfl (Jvm.hb hby d1_127) (q := 130) rfl ?_
    intro T459 h459 X459 e459 W459
    have N459 := Fr.snoc X459 N210 g1
    have F459 := f474.same W459
    refine Go.aloadN X459.here hx (Jvm.hb hby d1_130) rfl rfl (q := 131) rfl ?_
    refine Go.iload X459.here hx (Jvm.hb hby d1_131) rfl (q := 133) rfl ?_
    refine Go.newarr X459 hx hZ (aty := .double) (word hw 0 rfl) e459 (Jvm.hb hby d1_133) (by decide) (k := 2) (by decide) (by decide) (by decide) (by decide) (ad := "[D") (by decide) (q := 135) rfl ?_
    intro T477 h477 a477 kk477 g477 X477 e477 E477 R477 A477
    have z478 : n0 ≤ h453.size := Nat.le_trans z455 E453.1
    have z479 : n0 ≤ h459.size := Nat.le_trans z478 (Nat.le_of_eq W459.size.symm)
    have r480 : n0 ≤ a477 := Nat.le_trans z479 (Nat.le_of_eq g477.symm)
    have k481 : Keep h0 h453 [a1] := k458.ext E453
    have k482 : Keep h0 h459 [a1] := k481.wr W459 (Or.inl (List.mem_of_getElem? (i := 0) rfl))
    have y480 : h0.size ≤ a477 := Nat.le_trans k482.1 (Nat.le_of_eq g477.symm)
    have R477 : Row Z h477 a477 .double kk477 [(.double (0 : UInt64)), (.double (0 : UInt64))] := R477
    have f484 := F9.other W104 (Or.inr (Jvm.RoadKit.slot_ne (Or.inr (word hw 44 rfl)) (Or.inr (word hw 12 rfl)) (by decide) (t := (.array .double)) (t' := .int) (by decide) (by decide)))
    have f485 := f484.other W107 (Or.inr (Jvm.RoadKit.slot_ne (Or.inr (word hw 44 rfl)) (Or.inr (word hw 14 rfl)) (by decide) (t := (.array .double)) (t' := .int) (by decide) (by decide)))
    have f486 := f485.ext E110
    have f487 := f486.other W116 (Or.inr (Jvm.RoadKit.slot_ne (Or.inr (word hw 44 rfl)) (Or.inl (word hw 16 rfl)) (by decide) (t := (.array .double)) (t' := (.array .double)) (by decide) (by decide)))
    have f488 := f487.ext E122
    have f489 := f488.keep K135 (ninS ne145 nin0)
    have f490 := f489.other W137 (Or.inr (Jvm.RoadKit.slot_ne (Or.inr (word hw 44 rfl)) (Or.inr (word hw 31 rfl)) (by decide) (t := (.array .double)) (t' := (.object "com/example/ratewright/ratewright/inference/GradientCorrection$NormalEquations")) (by decide) (by decide)))
    have f491 := f490.ext E148
    have f492 := f491.keep K162 (ninS ne175 nin0)
    have f493 := f492.other W164 (Or.inr (Jvm.RoadKit.slot_ne (Or.inr (word hw 44 rfl)) (Or.inr (word hw 33 rfl)) (by decide) (t := (.array .double)) (t' := (.object "com/example/ratewright/ratewright/inference/GradientCorrection$NormalEquations")) (by decide) (by decide)))
    have f494 := f493.ext E180
    have f495 := f494.other W187 (Or.inr (Jvm.RoadKit.slot_ne (Or.inr (word hw 44 rfl)) (Or.inr (word hw 37 rfl)) (by decide) (t := (.array .double)) (t' := (.array (.array .double))) (by decide) (by decide)))
    have f496 := f495.ext E204
    have f497 := f496.other W210 (Or.inr (Jvm.RoadKit.slot_ne (Or.inr (word hw 44 rfl)) (Or.inr (word hw 39 rfl)) (by decide) (t := (.array .double)) (t' := (.array .double)) (by decide) (by decide)))
    have f498 := f497.ext E453
    have f499 := f498.other W459 (Or.inr (Jvm.RoadKit.slot_ne (Or.inr (word hw 44 rfl)) (Or.inr (word hw 42 rfl)) (by decide) (t := (.array .double)) (t' := (.array (.array .double))) (by decide) (by decide)))
    have f500 := f499.ext E477
    have f501 := f476.wr W459
    have f502 := f501.ext E477
    refine Go.putf X477 hx hZ hown (word hw 43 rfl) e477 f500 f502 (Or.inr ⟨(word hw 44 rfl), rfl, hnm⟩) (word hw 3 rfl) (ty := (.array .double)) (by decide) rfl rfl (Jvm.hb hby d1_135) (q := 138) rfl ?_
    intro T483 h483 X483 e483 W483
    have N483 := Fr.snoc X483 N459 g1
    have F483 := f500.same W483
    have k503 : Keep h0 h477 [a1] := k482.ext E477
    have k504 : Keep h0 h483 [a1] := k503.wr W483 (Or.inl (List.mem_of_getElem? (i := 0) rfl))
    have f505 := f502.wr W483
    have f506 := F104.other W107 (Or.inr (Jvm.RoadKit.slot_ne (Or.inr (word hw 12 rfl)) (Or.inr (word hw 14 rfl)) (by decide) (t := .int) (t' := .int) (by decide) (by decide)))
    have f507 := f506.ext E110
    have f508 := f507.other W116 (Or.inr (Jvm.RoadKit.slot_ne (Or.inr (word hw 12 rfl)) (Or.inl (word hw 16 rfl)) (by decide) (t := .int) (t' := (.array .double)) (by decide) (by decide)))
    have f509 := f508.ext E122
    have f510 := f509.keep K135 (ninS ne145 nin0)
    have f511 := f510.other W137 (Or.inr (Jvm.RoadKit.slot_ne (Or.inr (word hw 12 rfl)) (Or.inr (word hw 31 rfl)) (by decide) (t := .int) (t' := (.object "com/example/ratewright/ratewright/inference/GradientCorrection$NormalEquations")) (by decide) (by decide)))
    have f512 := f511.ext E148
    have f513 := f512.keep K162 (ninS ne175 nin0)
    have f514 := f513.other W164 (Or.inr (Jvm.RoadKit.slot_ne (Or.inr (word hw 12 rfl)) (Or.inr (word hw 33 rfl)) (by decide) (t := .int) (t' := (.object "com/example/ratewright/ratewright/inference/GradientCorrection$NormalEquations")) (by decide) (by decide)))
    have f515 := f514.ext E180
    have f516 := f515.other W187 (Or.inr (Jvm.RoadKit.slot_ne (Or.inr (word hw 12 rfl)) (Or.inr (word hw 37 rfl)) (by decide) (t := .int) (t' := (.array (.array .double))) (by decide) (by decide)))
    have f517 := f516.ext E204
    have f518 := f517.other W210 (Or.inr (Jvm.RoadKit.slot_ne (Or.inr (word hw 12 rfl)) (Or.inr (word hw 39 rfl)) (by decide) (t := .int) (t' := (.array .double)) (by decide) (by decide)))
    have f519 := f518.ext E453
    have f520 := f519.other W459 (Or.inr (Jvm.RoadKit.slot_ne (Or.inr (word hw 12 rfl)) (Or.inr (word hw 42 rfl)) (by decide) (t := .int) (t' := (.array (.array .double))) (by decide) (by decide)))
    have f521 := f520.ext E477
    have f522 := f521.other W483 (Or.inr (Jvm.RoadKit.slot_ne (Or.inr (word hw 12 rfl)) (Or.inr (word hw 44 rfl)) (by decide) (t := .int) (t' := (.array .double)) (by decide) (by decide)))
    have f523 := F116.ext E122
    have f524 := f523.keep K135 (ninS ne145 nin0)
    have f525 := f524.other W137 (Or.inr (Jvm.RoadKit.slot_ne (Or.inl (word hw 16 rfl)) (Or.inr (word hw 31 rfl)) (by decide) (t := (.array .double)) (t' := (.object "com/example/ratewright/ratewright/inference/GradientCorrection$NormalEquations")) (by decide) (by decide)))
    have f526 := f525.ext E148
    have f527 := f526.keep K162 (ninS ne175 nin0)
    have f528 := f527.other W164 (Or.inr (Jvm.RoadKit.slot_ne (Or.inl (word hw 16 rfl)) (Or.inr (word hw 33 rfl)) (by decide) (t := (.array .double)) (t' := (.object "com/example/ratewright/ratewright/inference/GradientCorrection$NormalEquations")) (by decide) (by decide)))
    have f529 := f528.ext E180
    have f530 := f529.other W187 (Or.inr (Jvm.RoadKit.slot_ne (Or.inl (word hw 16 rfl)) (Or.inr (word hw 37 rfl)) (by decide) (t := (.array .double)) (t' := (.array (.array .double))) (by decide) (by decide)))
    have f531 := f530.ext E204
    have f532 := f531.other W210 (Or.inr (Jvm.RoadKit.slot_ne (Or.inl (word hw 16 rfl)) (Or.inr (word hw 39 rfl)) (by decide) (t := (.array .double)) (t' := (.array .double)) (by decide) (by decide)))
    have f533 := f532.ext E453
    have f534 := f533.other W459 (Or.inr (Jvm.RoadKit.slot_ne (Or.inl (word hw 16 rfl)) (Or.inr (word hw 42 rfl)) (by decide) (t := (.array .double)) (t' := (.array (.array .double))) (by decide) (by decide)))
    have f535 := f534.ext E477
    have f536 := f535.other W483 (Or.inr (Jvm.RoadKit.slot_ne (Or.inl (word hw 16 rfl)) (Or.inr (word hw 44 rfl)) (by decide) (t := (.array .double)) (t' := (.array .double)) (by decide) (by decide)))
    have ne538 : a1 ≠ a110 := Nat.ne_of_lt (Nat.lt_of_lt_of_le f120.lt (Nat.le_of_eq g110.symm))
    have f537 := R110.other W116 (Ne.symm ne538)
    have f539 := f537.ext E122
    have ne541 : a110 ≠ a122 := Nat.ne_of_lt (Nat.lt_of_lt_of_le f537.lt (Nat.le_of_eq g122.symm))
    have f540 := f539.keep K135 (ninS ne541 nin0)
    have f542 := f540.other W137 (Ne.symm ne538)
    have f543 := f542.ext E148
    have ne545 : a110 ≠ a148 := Nat.ne_of_lt (Nat.lt_of_lt_of_le f542.lt (Nat.le_of_eq g148.symm))
    have f544 := f543.keep K162 (ninS ne545 nin0)
    have f546 := f544.other W164 (Ne.symm ne538)
    have f547 := f546.ext E180
    have f548 := f547.other W187 (Ne.symm ne538)
    have f549 := f548.ext E204
    have f550 := f549.other W210 (Ne.symm ne538)
    have f551 := f550.ext E453
    have f552 := f551.other W459 (Ne.symm ne538)
    have f553 := f552.ext E477
    have f554 := f553.other W483 (Ne.symm ne538)
    refine Go.retV X483 hx hret hlk (Jvm.hb hby d1_138) (by decide) (by decide) ?_
    rw [e483]
    exact ⟨a110, kk110, rfl, N483, k504, y113, f505, f522, f536, f554⟩
  · -- w2 = 3
    refine Go.iload X210.here hx (Jvm.hb hby d1_117) rfl (q := 119) rfl ?_
    refine Go.aloadN X210.here hx (Jvm.hb hby d1_119) rfl rfl (q := 120) rfl ?_
    have f556 := f161.keep K162 (ninS ne175 nin0)
    have f557 := f556.other W164 (Or.inr (Jvm.RoadKit.slot_ne (Or.inr (word hw 14 rfl)) (Or.inr (word hw 33 rfl)) (by decide) (t := .int) (t' := (.object "com/example/ratewright/ratewright/inference/GradientCorrection$NormalEquations")) (by decide) (by decide)))
    have f558 := f557.ext E180
    have f559 := f558.other W187 (Or.inr (Jvm.RoadKit.slot_ne (Or.inr (word hw 14 rfl)) (Or.inr (word hw 37 rfl)) (by decide) (t := .int) (t' := (.array (.array .double))) (by decide) (by decide)))
    have f560 := f559.ext E204
    have f561 := f560.other W210 (Or.inr (Jvm.RoadKit.slot_ne (Or.inr (word hw 14 rfl)) (Or.inr (word hw 39 rfl)) (by decide) (t := .int) (t' := (.array .double)) (by decide) (by decide)))
    refine Go.getf X210 hx hZ hown (word hw 13 rfl) e210 f561 (Jvm.hb hby d1_120) (q := 123) rfl ?_
    intro T555 X555 e555
    refine Go.grid X555 hx hZ hown (ty := .double) (C := "[D") (by decide) (by decide) (word hw 40 rfl) (word hw 35 rfl) (word hw 0 rfl) e555 (Jvm.hb hby d1_123) (by decide) (by decide) (N := 3) (by decide) (K := 4) (by decide) (by decide) (by decide) rfl rfl (by decide) (by decide) (q := 127) rfl ?_
    intro T562 h562 a562 g562 X562 e562 E562 A562
    have z563 : n0 ≤ h204.size := Nat.le_trans z206 E204.1
    have z564 : n0 ≤ h210.size := Nat.le_trans z563 (Nat.le_of_eq W210.size.symm)
    have r565 : n0 ≤ a562 := Nat.le_trans z564 (Nat.le_of_eq g562.symm)
    have k566 : Keep h0 h204 [a1] := k209.ext E204
    have k567 : Keep h0 h210 [a1] := k566.wr W210 (Or.inl (List.mem_of_getElem? (i := 0) rfl))
    have y565 : h0.size ≤ a562 := Nat.le_trans k567.1 (Nat.le_of_eq g562.symm)
    have f569 := F8.other W104 (Or.inr (Jvm.RoadKit.slot_ne (Or.inr (word hw 42 rfl)) (Or.inr (word hw 12 rfl)) (by decide) (t := (.array (.array .double))) (t' := .int) (by decide) (by decide)))
    have f570 := f569.other W107 (Or.inr (Jvm.RoadKit.slot_ne (Or.inr (word hw 42 rfl)) (Or.inr (word hw 14 rfl)) (by decide) (t := (.array (.array .double))) (t' := .int) (by decide) (by decide)))
    have f571 := f570.ext E110
    have f572 := f571.other W116 (Or.inr (Jvm.RoadKit.slot_ne (Or.inr (word hw 42 rfl)) (Or.inl (word hw 16 rfl)) (by decide) (t := (.array (.array .double))) (t' := (.array .double)) (by decide) (by decide)))
    have f573 := f572.ext E122
    have f574 := f573.keep K135 (ninS ne145 nin0)
    have f575 := f574.other W137 (Or.inr (Jvm.RoadKit.slot_ne (Or.inr (word hw 42 rfl)) (Or.inr (word hw 31 rfl)) (by decide) (t := (.array (.array .double))) (t' := (.object "com/example/ratewright/ratewright/inference/GradientCorrection$NormalEquations")) (by decide) (by decide)))
    have f576 := f575.ext E148
    have f577 := f576.keep K162 (ninS ne175 nin0)
    have f578 := f577.other W164 (Or.inr (Jvm.RoadKit.slot_ne (Or.inr (word hw 42 rfl)) (Or.inr (word hw 33 rfl)) (by decide) (t := (.array (.array .double))) (t' := (.object "com/example/ratewright/ratewright/inference/GradientCorrection$NormalEquations")) (by decide) (by decide)))
    have f579 := f578.ext E180
    have f580 := f579.other W187 (Or.inr (Jvm.RoadKit.slot_ne (Or.inr (word hw 42 rfl)) (Or.inr (word hw 37 rfl)) (by decide) (t := (.array (.array .double))) (t' := (.array (.array .double))) (by decide) (by decide)))
    have f581 := f580.ext E204
    have f582 := f581.other W210 (Or.inr (Jvm.RoadKit.slot_ne (Or.inr (word hw 42 rfl)) (Or.inr (word hw 39 rfl)) (by decide) (t := (.array (.array .double))) (t' := (.array .double)) (by decide) (by decide)))
    have f583 := f582.ext E562
    have f584 := f225.wr W210
    have f585 := f584.ext E562
    refine Go.putf X562 hx hZ hown (word hw 41 rfl) e562 f583 f585 (Or.inr ⟨(word hw 42 rfl), rfl, hnm⟩) (word hw 3 rfl) (ty := (.array (.array .double))) (by decide) rfl rfl (Jvm.hb hby d1_127) (q := 130) rfl ?_
    intro T568 h568 X568 e568 W568
    have N568 := Fr.snoc X568 N210 g1
    have F568 := f583.same W568
    refine Go.aloadN X568.here hx (Jvm.hb hby d1_130) rfl rfl (q := 131) rfl ?_
    refine Go.iload X568.here hx (Jvm.hb hby d1_131) rfl (q := 133) rfl ?_
    refine Go.newarr X568 hx hZ (aty := .double) (word hw 0 rfl) e568 (Jvm.hb hby d1_133) (by decide) (k := 3) (by decide) (by decide) (by decide) (by decide) (ad := "[D") (by decide) (q := 135) rfl ?_
    intro T586 h586 a586 kk586 g586 X586 e586 E586 R586 A586
    have z587 : n0 ≤ h562.size := Nat.le_trans z564 E562.1
    have z588 : n0 ≤ h568.size := Nat.le_trans z587 (Nat.le_of_eq W568.size.symm)
    have r589 : n0 ≤ a586 := Nat.le_trans z588 (Nat.le_of_eq g586.symm)
    have k590 : Keep h0 h562 [a1] := k567.ext E562
    have k591 : Keep h0 h568 [a1] := k590.wr W568 (Or.inl (List.mem_of_getElem? (i := 0) rfl))
    have y589 : h0.size ≤ a586 := Nat.le_trans k591.1 (Nat.le_of_eq g586.symm)
    have R586 : Row Z h586 a586 .double kk586 [(.double (0 : UInt64)), (.double (0 : UInt64)), (.double (0 : UInt64))] := R586
    have f593 := F9.other W104 (Or.inr (Jvm.RoadKit.slot_ne (Or.inr (word hw 44 rfl)) (Or.inr (word hw 12 rfl)) (by decide) (t := (.array .double)) (t' := .int) (by decide) (by decide)))
    have f594 := f593.other W107 (Or.inr (Jvm.RoadKit.slot_ne (Or.inr (word hw 44 rfl)) (Or.inr (word hw 14 rfl)) (by decide) (t := (.array .double)) (t' := .int) (by decide) (by decide)))
    have f595 := f594.ext E110
    have f596 := f595.other W116 (Or.inr (Jvm.RoadKit.slot_ne (Or.inr (word hw 44 rfl)) (Or.inl (word hw 16 rfl)) (by decide) (t := (.array .double)) (t' := (.array .double)) (by decide) (by decide)))
    have f597 := f596.ext E122
    have f598 := f597.keep K135 (ninS ne145 nin0)
    have f599 := f598.other W137 (Or.inr (Jvm.RoadKit.slot_ne (Or.inr (word hw 44 rfl)) (Or.inr (word hw 31 rfl)) (by decide) (t := (.array .double)) (t' := (.object "com/example/ratewright/ratewright/inference/GradientCorrection$NormalEquations")) (by decide) (by decide)))
    have f600 := f599.ext E148
    have f601 := f600.keep K162 (ninS ne175 nin0)
    have f602 := f601.other W164 (Or.inr (Jvm.RoadKit.slot_ne (Or.inr (word hw 44 rfl)) (Or.inr (word hw 33 rfl)) (by decide) (t := (.array .double)) (t' := (.object "com/example/ratewright/ratewright/inference/GradientCorrection$NormalEquations")) (by decide) (by decide)))
    have f603 := f602.ext E180
    have f604 := f603.other W187 (Or.inr (Jvm.RoadKit.slot_ne (Or.inr (word hw 44 rfl)) (Or.inr (word hw 37 rfl)) (by decide) (t := (.array .double)) (t' := (.array (.array .double))) (by decide) (by decide)))
    have f605 := f604.ext E204
    have f606 := f605.other W210 (Or.inr (Jvm.RoadKit.slot_ne (Or.inr (word hw 44 rfl)) (Or.inr (word hw 39 rfl)) (by decide) (t := (.array .double)) (t' := (.array .double)) (by decide) (by decide)))
    have f607 := f606.ext E562
    have f608 := f607.other W568 (Or.inr (Jvm.RoadKit.slot_ne (Or.inr (word hw 44 rfl)) (Or.inr (word hw 42 rfl)) (by decide) (t := (.array .double)) (t' := (.array (.array .double))) (by decide) (by decide)))
    have f609 := f608.ext E586
    have f610 := f585.wr W568
    have f611 := f610.ext E586
    refine Go.putf X586 hx hZ hown (word hw 43 rfl) e586 f609 f611 (Or.inr ⟨(word hw 44 rfl), rfl, hnm⟩) (word hw 3 rfl) (ty := (.array .double)) (by decide) rfl rfl (Jvm.hb hby d1_135) (q := 138) rfl ?_
    intro T592 h592 X592 e592 W592
    have N592 := Fr.snoc X592 N568 g1
    have F592 := f609.same W592
    have k612 : Keep h0 h586 [a1] := k591.ext E586
    have k613 : Keep h0 h592 [a1] := k612.wr W592 (Or.inl (List.mem_of_getElem? (i := 0) rfl))
    have f614 := f611.wr W592
    have f615 := F104.other W107 (Or.inr (Jvm.RoadKit.slot_ne (Or.inr (word hw 12 rfl)) (Or.inr (word hw 14 rfl)) (by decide) (t := .int) (t' := .int) (by decide) (by decide)))
    have f616 := f615.ext E110
    have f617 := f616.other W116 (Or.inr (Jvm.RoadKit.slot_ne (Or.inr (word hw 12 rfl)) (Or.inl (word hw 16 rfl)) (by decide) (t := .int) (t' := (.array .double)) (by decide) (by decide)))
    have f618 := f617.ext E122
    have f619 := f618.keep K135 (ninS ne145 nin0)
    have f620 := f619.other W137 (Or.inr (Jvm.RoadKit.slot_ne (Or.inr (word hw 12 rfl)) (Or.inr (word hw 31 rfl)) (by decide) (t := .int) (t' := (.object "com/example/ratewright/ratewright/inference/GradientCorrection$NormalEquations")) (by decide) (by decide)))
    have f621 := f620.ext E148
    have f622 := f621.keep K162 (ninS ne175 nin0)
    have f623 := f622.other W164 (Or.inr (Jvm.RoadKit.slot_ne (Or.inr (word hw 12 rfl)) (Or.inr (word hw 33 rfl)) (by decide) (t := .int) (t' := (.object "com/example/ratewright/ratewright/inference/GradientCorrection$NormalEquations")) (by decide) (by decide)))
    have f624 := f623.ext E180
    have f625 := f624.other W187 (Or.inr (Jvm.RoadKit.slot_ne (Or.inr (word hw 12 rfl)) (Or.inr (word hw 37 rfl)) (by decide) (t := .int) (t' := (.array (.array .double))) (by decide) (by decide)))
    have f626 := f625.ext E204
    have f627 := f626.other W210 (Or.inr (Jvm.RoadKit.slot_ne (Or.inr (word hw 12 rfl)) (Or.inr (word hw 39 rfl)) (by decide) (t := .int) (t' := (.array .double)) (by decide) (by decide)))
    have f628 := f627.ext E562
    have f629 := f628.other W568 (Or.inr (Jvm.RoadKit.slot_ne (Or.inr (word hw 12 rfl)) (Or.inr (word hw 42 rfl)) (by decide) (t := .int) (t' := (.array (.array .double))) (by decide) (by decide)))
    have f630 := f629.ext E586
    have f631 := f630.other W592 (Or.inr (Jvm.RoadKit.slot_ne (Or.inr (word hw 12 rfl)) (Or.inr (word hw 44 rfl)) (by decide) (t := .int) (t' := (.array .double)) (by decide) (by decide)))
    have f632 := F116.ext E122
    have f633 := f632.keep K135 (ninS ne145 nin0)
    have f634 := f633.other W137 (Or.inr (Jvm.RoadKit.slot_ne (Or.inl (word hw 16 rfl)) (Or.inr (word hw 31 rfl)) (by decide) (t := (.array .double)) (t' := (.object "com/example/ratewright/ratewright/inference/GradientCorrection$NormalEquations")) (by decide) (by decide)))
    have f635 := f634.ext E148
    have f636 := f635.keep K162 (ninS ne175 nin0)
    have f637 := f636.other W164 (Or.inr (Jvm.RoadKit.slot_ne (Or.inl (word hw 16 rfl)) (Or.inr (word hw 33 rfl)) (by decide) (t := (.array .double)) (t' := (.object "com/example/ratewright/ratewright/inference/GradientCorrection$NormalEquations")) (by decide) (by decide)))
    have f638 := f637.ext E180
    have f639 := f638.other W187 (Or.inr (Jvm.RoadKit.slot_ne (Or.inl (word hw 16 rfl)) (Or.inr (word hw 37 rfl)) (by decide) (t := (.array .double)) (t' := (.array (.array .double))) (by decide) (by decide)))
    have f640 := f639.ext E204
    have f641 := f640.other W210 (Or.inr (Jvm.RoadKit.slot_ne (Or.inl (word hw 16 rfl)) (Or.inr (word hw 39 rfl)) (by decide) (t := (.array .double)) (t' := (.array .double)) (by decide) (by decide)))
    have f642 := f641.ext E562
    have f643 := f642.other W568 (Or.inr (Jvm.RoadKit.slot_ne (Or.inl (word hw 16 rfl)) (Or.inr (word hw 42 rfl)) (by decide) (t := (.array .double)) (t' := (.array (.array .double))) (by decide) (by decide)))
    have f644 := f643.ext E586
    have f645 := f644.other W592 (Or.inr (Jvm.RoadKit.slot_ne (Or.inl (word hw 16 rfl)) (Or.inr (word hw 44 rfl)) (by decide) (t := (.array .double)) (t' := (.array .double)) (by decide) (by decide)))
    have ne647 : a1 ≠ a110 := Nat.ne_of_lt (Nat.lt_of_lt_of_le f120.lt (Nat.le_of_eq g110.symm))
    have f646 := R110.other W116 (Ne.symm ne647)
    have f648 := f646.ext E122
    have ne650 : a110 ≠ a122 := Nat.ne_of_lt (Nat.lt_of_lt_of_le f646.lt (Nat.le_of_eq g122.symm))
    have f649 := f648.keep K135 (ninS ne650 nin0)
    have f651 := f649.other W137 (Ne.symm ne647)
    have f652 := f651.ext E148
    have ne654 : a110 ≠ a148 := Nat.ne_of_lt (Nat.lt_of_lt_of_le f651.lt (Nat.le_of_eq g148.symm))
    have f653 := f652.keep K162 (ninS ne654 nin0)
    have f655 := f653.other W164 (Ne.symm ne647)
    have f656 := f655.ext E180
    have f657 := f656.other W187 (Ne.symm ne647)
    have f658 := f657.ext E204
    have f659 := f658.other W210 (Ne.symm ne647)
    have f660 := f659.ext E562
    have f661 := f660.other W568 (Ne.symm ne647)
    have f662 := f661.ext E586
    have f663 := f662.other W592 (Ne.symm ne647)
    refine Go.retV X592 hx hret hlk (Jvm.hb hby d1_138) (by decide) (by decide) ?_
    rw [e592]
    exact ⟨a110, kk110, rfl, N592, k613, y113, f614, f631, f645, f663⟩
set_option maxRecDepth 65536 in
set_option maxHeartbeats 40000000 in
theorem rm_app1 (l : Launch) (Z : State) (a0 : Array Value) (hw : ∀ d ∈ tables_1, d.before a0 Z = true) (a1 : Addr) (ax : Addr) (ag : Addr) (ak : Addr) (ac : Addr) (kx : ClassId) (kg : ClassId) (kk : ClassId) (kc : ClassId) (g0 : UInt64) (g1 : UInt64) (g2 : UInt64) (g3 : UInt64) (g4 : UInt64) (x0 : UInt64) (x1 : UInt64) (x2 : UInt64) (x3 : UInt64) (x4 : UInt64) (c0 : UInt64) (c1 : UInt64) (c2 : UInt64) (c3 : UInt64) (c4 : UInt64) (h0 : Heap) (n0 : Nat) (Z0 : n0 ≤ h0.size) (F1 : Fld Z h0 a1 "com/example/ratewright/ratewright/inference/GradientCorrection" "dimension" "I" (.int (1 : Int32))) (F2 : Fld Z h0 a1 "com/example/ratewright/ratewright/inference/GradientCorrection" "coefficients" "[D" (.ref ac)) (R1 : Row Z h0 ax .double kx [(.double x0), (.double x1), (.double x2), (.double x3), (.double x4)]) (R2 : Row Z h0 ag .double kg [(.double g0), (.double g1), (.double g2), (.double g3), (.double g4)]) (R3 : Row Z h0 ak .double kk [(.double c0), (.double c1), (.double c2), (.double c3), (.double c4)]) (R4 : Row Z h0 ac .double kc [(.double (0 : UInt64)), (.double (0 : UInt64)), (.double (0 : UInt64)), (.double (0 : UInt64))]) (i1 : ak ≠ ax) (i2 : ak ≠ ag) (i3 : ak ≠ ac) (i4 : ak ≠ a1) (fr1 : n0 ≤ ak) (hn : own_ok g0 x0 ∧ True) :
    Con l Z (⟨"com/example/ratewright/ratewright/inference/GradientCorrection", "apply", "([D[D[D)V"⟩ : MethodName) prog_4_method_2_code 9 none ({ frames := 0, cells := 0, slots := 0, locals := 0 } : Room) #[(.ref a1), (.ref ax), (.ref ag), (.ref ak)] h0 (fun vR hR LR => vR = none ∧ Fr n0 LR ∧ Keep h0 hR [ak] ∧ Row Z hR ak .double kk [(.double (own_r g0 x0)), (.double c1), (.double c2), (.double c3), (.double c4)]) := by
  refine enter (l := l) (Z := Z) (y := (⟨"com/example/ratewright/ratewright/inference/GradientCorrection", "apply", "([D[D[D)V"⟩ : MethodName)) (bytes := prog_4_method_2_code) (maxL := 9) (ret := none) (ws := []) (rm := ({ frames := 0, cells := 0, slots := 0, locals := 0 } : Room)) (as' := #[(.ref a1), (.ref ax), (.ref ag), (.ref ak)]) (h0 := h0) (Qv := (fun vR hR LR => vR = none ∧ Fr n0 LR ∧ Keep h0 hR [ak] ∧ Row Z hR ak .double kk [(.double (own_r g0 x0)), (.double c1), (.double c2), (.double c3), (.double c4)])) (kc := 0) (ks := 0) (by first | exact plainFor_of_name (by first | (simp [plainName, overriddenIn]; done) | decide +kernel) | decide +kernel) (Ls := #[.val (.ref a1), .val (.ref ax), .val (.ref ag), .val (.ref ak), .unset, .unset, .unset, .unset, .unset]) (fun m => by first | (simp [entryFrame, mkF, argsToLocals, Value.category]; done) | rfl) ?_
  intro p e s m below meth c s₁ hx hby hml hown hnm hret hlk hZ X0 e0
  have hown : s.vm.findClass "com/example/ratewright/ratewright/inference/GradientCorrection" = some m.cls := hown
  have hml : c.maxLocals = 9 := hml
  have N0 := Fr.nil n0
  refine Go.iconst X0.here hx (Jvm.hb hby d4_0) (v := (0 : Int32)) rfl (q := 1) rfl ?_
  refine Go.istore X0.here hx (Jvm.hb hby d4_1) (l2 := #[.val (.ref a1), .val (.ref ax), .val (.ref ag), .val (.ref ak), .val (.int (0 : Int32)), .unset, .unset, .unset, .unset]) rfl (q := 3) rfl ?_
  refine Go.iload X0.here hx (Jvm.hb hby d4_3) rfl (q := 5) rfl ?_
  refine Go.aloadN X0.here hx (Jvm.hb hby d4_5) rfl rfl (q := 6) rfl ?_
  refine Go.getf X0 hx hZ hown (word hw 11 rfl) e0 F1 (Jvm.hb hby d4_6) (q := 9) rfl ?_
  intro T101 X101 e101
  have hc9_103 : (0 : Int32) < (1 : Int32) := by decide
  refine Go.icmpN X101.here hx (Jvm.hb hby d4_9) (tlt hc9_103).2.1 (q := 12) rfl ?_
  refine Go.aloadN X101.here hx (Jvm.hb hby d4_12) rfl rfl (q := 13) rfl ?_
  refine Go.iload X101.here hx (Jvm.hb hby d4_13) rfl (q := 15) rfl ?_
  refine Go.daload X101 hx hZ e101 R2 (Jvm.hb hby d4_15) (i := 0) (by decide) (by decide) rfl (q := 16) rfl ?_
  refine Go.dstore X101.here hx (Jvm.hb hby d4_16) (l2 := #[.val (.ref a1), .val (.ref ax), .val (.ref ag), .val (.ref ak), .val (.int (0 : Int32)), .val (.double g0), .second, .unset, .unset]) rfl (q := 18) rfl ?_
  refine Go.aloadN X101.here hx (Jvm.hb hby d4_18) rfl rfl (q := 19) rfl ?_
  refine Go.iload X101.here hx (Jvm.hb hby d4_19) rfl (q := 21) rfl ?_
  refine Go.daload X101 hx hZ e101 R1 (Jvm.hb hby d4_21) (i := 0) (by decide) (by decide) rfl (q := 22) rfl ?_
  refine Go.dstore X101.here hx (Jvm.hb hby d4_22) (l2 := #[.val (.ref a1), .val (.ref ax), .val (.ref ag), .val (.ref ak), .val (.int (0 : Int32)), .val (.double g0), .second, .val (.double x0), .second]) rfl (q := 24) rfl ?_
  refine Go.aloadN X101.here hx (Jvm.hb hby d4_24) rfl rfl (q := 25) rfl ?_
  refine Go.iload X101.here hx (Jvm.hb hby d4_25) rfl (q := 27) rfl ?_
  refine Go.dload X101.here hx (Jvm.hb hby d4_27) rfl (q := 29) rfl ?_
  refine Go.aloadN X101.here hx (Jvm.hb hby d4_29) rfl rfl (q := 30) rfl ?_
  refine Go.getf X101 hx hZ hown (word hw 15 rfl) e101 F2 (Jvm.hb hby d4_30) (q := 33) rfl ?_
  intro T104 X104 e104
  refine Go.iload X104.here hx (Jvm.hb hby d4_33) rfl (q := 35) rfl ?_
  refine Go.daload X104 hx hZ e104 R4 (Jvm.hb hby d4_35) (i := 0) (by decide) (by decide) rfl (q := 36) rfl ?_
  obtain ⟨u36, hu36⟩ : ∃ zq, FP.dadd g0 (0 : UInt64) = zq := ⟨_, rfl⟩
  refine Go.dadd X104.here hx (Jvm.hb hby d4_36) (by subst_vars; first | exact hn.1.1) hu36 (q := 37) rfl ?_
  refine Go.aloadN X104.here hx (Jvm.hb hby d4_37) rfl rfl (q := 38) rfl ?_
  refine Go.getf X104 hx hZ hown (word hw 15 rfl) e104 F2 (Jvm.hb hby d4_38) (q := 41) rfl ?_
  intro T105 X105 e105
  refine Go.aloadN X105.here hx (Jvm.hb hby d4_41) rfl rfl (q := 42) rfl ?_
  refine Go.getf X105 hx hZ hown (word hw 11 rfl) e105 F1 (Jvm.hb hby d4_42) (q := 45) rfl ?_
  intro T106 X106 e106
  refine Go.iload X106.here hx (Jvm.hb hby d4_45) rfl (q := 47) rfl ?_
  refine Go.iadd X106.here hx (Jvm.hb hby d4_47) (v := (1 : Int32)) (by decide) (q := 48) rfl ?_
  refine Go.daload X106 hx hZ e106 R4 (Jvm.hb hby d4_48) (i := 1) (by decide) (by decide) rfl (q := 49) rfl ?_
  refine Go.dload X106.here hx (Jvm.hb hby d4_49) rfl (q := 51) rfl ?_
  obtain ⟨u51, hu51⟩ : ∃ zq, FP.dmul (0 : UInt64) x0 = zq := ⟨_, rfl⟩
  refine Go.dmul X106.here hx (Jvm.hb hby d4_51) (by subst_vars; first | exact hn.1.2.1) hu51 (q := 52) rfl ?_
  obtain ⟨u52, hu52⟩ : ∃ zq, FP.dadd u36 u51 = zq := ⟨_, rfl⟩
  refine Go.dadd X106.here hx (Jvm.hb hby d4_52) (by subst_vars; first | exact hn.1.2.2.1) hu52 (q := 53) rfl ?_
  refine Go.aloadN X106.here hx (Jvm.hb hby d4_53) rfl rfl (q := 54) rfl ?_
  refine Go.getf X106 hx hZ hown (word hw 15 rfl) e106 F2 (Jvm.hb hby d4_54) (q := 57) rfl ?_
  intro T107 X107 e107
  refine Go.iconst X107.here hx (Jvm.hb hby d4_57) (v := (2 : Int32)) rfl (q := 58) rfl ?_
  refine Go.aloadN X107.here hx (Jvm.hb hby d4_58) rfl rfl (q := 59) rfl ?_
  refine Go.getf X107 hx hZ hown (word hw 11 rfl) e107 F1 (Jvm.hb hby d4_59) (q := 62) rfl ?_
  intro T108 X108 e108
  refine Go.imul X108.here hx (Jvm.hb hby d4_62) (v := (2 : Int32)) (by decide) (q := 63) rfl ?_
  refine Go.iload X108.here hx (Jvm.hb hby d4_63) rfl (q := 65) rfl ?_
  refine Go.iadd X108.here hx (Jvm.hb hby d4_65) (v := (2 : Int32)) (by decide) (q := 66) rfl ?_
  refine Go.daload X108 hx hZ e108 R4 (Jvm.hb hby d4_66) (i := 2) (by decide) (by decide) rfl (q := 67) rfl ?_
  refine Go.dload X108.here hx (Jvm.hb hby d4_67) rfl (q := 69) rfl ?_
  obtain ⟨u69, hu69⟩ : ∃ zq, FP.dmul (0 : UInt64) g0 = zq := ⟨_, rfl⟩
  refine Go.dmul X108.here hx (Jvm.hb hby d4_69) (by subst_vars; first | exact hn.1.2.2.2.1) hu69 (q := 70) rfl ?_
  obtain ⟨u70, hu70⟩ : ∃ zq, FP.dadd u52 u69 = zq := ⟨_, rfl⟩
  refine Go.dadd X108.here hx (Jvm.hb hby d4_70) (by subst_vars; first | exact hn.1.2.2.2.2.1) hu70 (q := 71) rfl ?_
  refine Go.aloadN X108.here hx (Jvm.hb hby d4_71) rfl rfl (q := 72) rfl ?_
  refine Go.getf X108 hx hZ hown (word hw 15 rfl) e108 F2 (Jvm.hb hby d4_72) (q := 75) rfl ?_
  intro T109 X109 e109
  refine Go.iconst X109.here hx (Jvm.hb hby d4_75) (v := (3 : Int32)) rfl (q := 76) rfl ?_
  refine Go.aloadN X109.here hx (Jvm.hb hby d4_76) rfl rfl (q := 77) rfl ?_
  refine Go.getf X109 hx hZ hown (word hw 11 rfl) e109 F1 (Jvm.hb hby d4_77) (q := 80) rfl ?_
  intro T110 X110 e110
  refine Go.imul X110.here hx (Jvm.hb hby d4_80) (v := (3 : Int32)) (by decide) (q := 81) rfl ?_
  refine Go.iload X110.here hx (Jvm.hb hby d4_81) rfl (q := 83) rfl ?_
  refine Go.iadd X110.here hx (Jvm.hb hby d4_83) (v := (3 : Int32)) (by decide) (q := 84) rfl ?_
  refine Go.daload X110 hx hZ e110 R4 (Jvm.hb hby d4_84) (i := 3) (by decide) (by decide) rfl (q := 85) rfl ?_
  refine Go.dload X110.here hx (Jvm.hb hby d4_85) rfl (q := 87) rfl ?_
  obtain ⟨u87, hu87⟩ : ∃ zq, FP.dmul (0 : UInt64) x0 = zq := ⟨_, rfl⟩
  refine Go.dmul X110.here hx (Jvm.hb hby d4_87) (by subst_vars; first | exact hn.1.2.1) hu87 (q := 88) rfl ?_
  refine Go.dload X110.here hx (Jvm.hb hby d4_88) rfl (q := 90) rfl ?_
  obtain ⟨u90, hu90⟩ : ∃ zq, FP.dmul u87 g0 = zq := ⟨_, rfl⟩
  refine Go.dmul X110.here hx (Jvm.hb hby d4_90) (by subst_vars; first | exact hn.1.2.2.2.2.2.1) hu90 (q := 91) rfl ?_
  obtain ⟨u91, hu91⟩ : ∃ zq, FP.dadd u70 u90 = zq := ⟨_, rfl⟩
  refine Go.dadd X110.here hx (Jvm.hb hby d4_91) (by subst_vars; first | exact hn.1.2.2.2.2.2.2) hu91 (q := 92) rfl ?_
  refine Go.dastore X110 hx hZ e110 R3 (Jvm.hb hby d4_92) (i := 0) (by decide) (by decide) rfl (q := 93) rfl ?_
  intro T111 h111 X111 e111 W111 R111
  have N111 := Fr.snoc X111 N0 fr1
  have R111 : Row Z h111 ak .double kk [(.double u91), (.double c1), (.double c2), (.double c3), (.double c4)] := R111
  refine Go.iinc X111.here hx (Jvm.hb hby d4_93) rfl (v := (1 : Int32)) (by decide) (l2 := #[.val (.ref a1), .val (.ref ax), .val (.ref ag), .val (.ref ak), .val (.int (1 : Int32)), .val (.double g0), .second, .val (.double x0), .second]) rfl (q := 96) rfl ?_
  refine Go.goto X111.here hx (Jvm.hb hby d4_96) (by decide) (q := 3) rfl ?_
  refine Go.iload X111.here hx (Jvm.hb hby d4_3) rfl (q := 5) rfl ?_
  refine Go.aloadN X111.here hx (Jvm.hb hby d4_5) rfl rfl (q := 6) rfl ?_
  have f113 := F1.other W111 (Or.inl (Ne.symm i4))
  refine Go.getf X111 hx hZ hown (word hw 11 rfl) e111 f113 (Jvm.hb hby d4_6) (q := 9) rfl ?_
  intro T112 X112 e112
  have hc9_115 : ¬ ((1 : Int32) < (1 : Int32)) := by decide
  refine Go.icmpY X112.here hx (Jvm.hb hby d4_9) (flt hc9_115).2.1 (by decide) (q := 99) rfl ?_
  subst hu36 hu51 hu52 hu69 hu70 hu87 hu90 hu91
  have k116 : Keep h0 h111 [ak] := (Keep.refl h0 [ak]).wr W111 (Or.inl (List.mem_of_getElem? (i := 0) rfl))
  refine Go.retV X112 hx hret hlk (Jvm.hb hby d4_99) (by decide) (by decide) ?_
  rw [e112]
  exact ⟨rfl, N111, k116, R111⟩
set_option maxRecDepth 65536 in
set_option maxHeartbeats 40000000 in
theorem rm_ne2 (l : Launch) (Z : State) (a0 : Array Value) (hw : ∀ d ∈ tables_1, d.before a0 Z = true) (a1 : Addr) (o1 : Value) (o2 : Value) (o3 : Value) (h0 : Heap) (n0 : Nat) (Z0 : n0 ≤ h0.size) (E1 : Exa Z h0 a1 "com/example/ratewright/ratewright/inference/GradientCorrection$NormalEquations") (F1 : Fld Z h0 a1 "com/example/ratewright/ratewright/inference/GradientCorrection$NormalEquations" "size" "I" o1) (F2 : Fld Z h0 a1 "com/example/ratewright/ratewright/inference/GradientCorrection$NormalEquations" "products" "[D" o2) (F3 : Fld Z h0 a1 "com/example/ratewright/ratewright/inference/GradientCorrection$NormalEquations" "right" "[D" o3) (g1 : n0 ≤ a1) :
    Con l Z (⟨"com/example/ratewright/ratewright/inference/GradientCorrection$NormalEquations", "<init>", "(I)V"⟩ : MethodName) prog_5_method_1_code 2 none ({ frames := 1, cells := 2, slots := 44, locals := 12 } : Room) #[(.ref a1), (.int (8 : Int32))] h0 (fun vR hR LR => vR = none ∧ Fr n0 LR ∧ Keep h0 hR [a1] ∧ Exa Z hR a1 "com/example/ratewright/ratewright/inference/GradientCorrection$NormalEquations") := by
  refine enter (l := l) (Z := Z) (y := (⟨"com/example/ratewright/ratewright/inference/GradientCorrection$NormalEquations", "<init>", "(I)V"⟩ : MethodName)) (bytes := prog_5_method_1_code) (maxL := 2) (ret := none) (ws := []) (rm := ({ frames := 1, cells := 2, slots := 44, locals := 12 } : Room)) (as' := #[(.ref a1), (.int (8 : Int32))]) (h0 := h0) (Qv := (fun vR hR LR => vR = none ∧ Fr n0 LR ∧ Keep h0 hR [a1] ∧ Exa Z hR a1 "com/example/ratewright/ratewright/inference/GradientCorrection$NormalEquations")) (kc := 2) (ks := 44) (by first | exact plainFor_of_name (by first | (simp [plainName, overriddenIn]; done) | decide +kernel) | decide +kernel) (Ls := #[.val (.ref a1), .val (.int (8 : Int32))]) (fun m => by first | (simp [entryFrame, mkF, argsToLocals, Value.category]; done) | rfl) ?_
  intro p e s m below meth c s₁ hx hby hml hown hnm hret hlk hZ X0 e0
  have hown : s.vm.findClass "com/example/ratewright/ratewright/inference/GradientCorrection$NormalEquations" = some m.cls := hown
  have hml : c.maxLocals = 2 := hml
  have N0 := Fr.nil n0
  refine Go.aloadN X0.here hx (Jvm.hb hby d3_0) rfl rfl (q := 1) rfl ?_
  refine Go.init X0 hx hZ hown (word hw 23 rfl) (word hw 9 rfl) (word hw 10 rfl) e0 (Jvm.hb hby d3_1) (by rw [hml]; rfl) (by decide) (W := 0) (Nat.le_of_eq rfl) (by decide) (q := 4) rfl ?_
  intro T101 X101 e101
  refine Go.aloadN X101.here hx (Jvm.hb hby d3_4) rfl rfl (q := 5) rfl ?_
  refine Go.iloadN X101.here hx (Jvm.hb hby d3_5) rfl (q := 6) rfl ?_
  refine Go.putf X101 hx hZ hown (word hw 24 rfl) e101 F1 E1 (Or.inr ⟨(word hw 25 rfl), rfl, hnm⟩) (word hw 18 rfl) (ty := .int) (by decide) rfl rfl (Jvm.hb hby d3_6) (q := 9) rfl ?_
  intro T102 h102 X102 e102 W102
  have N102 := Fr.snoc X102 N0 g1
  have F102 := F1.same W102
  refine Go.aloadN X102.here hx (Jvm.hb hby d3_9) rfl rfl (q := 10) rfl ?_
  refine Go.iloadN X102.here hx (Jvm.hb hby d3_10) rfl (q := 11) rfl ?_
  refine Go.iloadN X102.here hx (Jvm.hb hby d3_11) rfl (q := 12) rfl ?_
  refine Go.iconst X102.here hx (Jvm.hb hby d3_12) (v := (1 : Int32)) rfl (q := 13) rfl ?_
  refine Go.iadd X102.here hx (Jvm.hb hby d3_13) (v := (9 : Int32)) (by decide) (q := 14) rfl ?_
  refine Go.imul X102.here hx (Jvm.hb hby d3_14) (v := (72 : Int32)) (by decide) (q := 15) rfl ?_
  refine Go.iconst X102.here hx (Jvm.hb hby d3_15) (v := (2 : Int32)) rfl (q := 16) rfl ?_
  refine Go.idiv X102.here hx (Jvm.hb hby d3_16) (by decide) (v := (36 : Int32)) (by decide) (q := 17) rfl ?_
  refine Go.newarr X102 hx hZ (aty := .double) (word hw 0 rfl) e102 (Jvm.hb hby d3_17) (by decide) (k := 36) (by decide) (by decide) (by decide) (by decide) (ad := "[D") (by decide) (q := 19) rfl ?_
  intro T103 h103 a103 kk103 g103 X103 e103 E103 R103 A103
  have z104 : n0 ≤ h102.size := Nat.le_trans Z0 (Nat.le_of_eq W102.size.symm)
  have r105 : n0 ≤ a103 := Nat.le_trans z104 (Nat.le_of_eq g103.symm)
  have k106 : Keep h0 h102 [a1] := (Keep.refl h0 [a1]).wr W102 (Or.inl (List.mem_of_getElem? (i := 0) rfl))
  have y105 : h0.size ≤ a103 := Nat.le_trans k106.1 (Nat.le_of_eq g103.symm)
  have f108 := F2.other W102 (Or.inr (Jvm.RoadKit.slot_ne (Or.inr (word hw 27 rfl)) (Or.inr (word hw 25 rfl)) (by decide) (t := (.array .double)) (t' := .int) (by decide) (by decide)))
  have f109 := f108.ext E103
  have f110 := E1.wr W102
  have f111 := f110.ext E103
  refine Go.putf X103 hx hZ hown (word hw 26 rfl) e103 f109 f111 (Or.inr ⟨(word hw 27 rfl), rfl, hnm⟩) (word hw 18 rfl) (ty := (.array .double)) (by decide) rfl rfl (Jvm.hb hby d3_19) (q := 22) rfl ?_
  intro T107 h107 X107 e107 W107
  have N107 := Fr.snoc X107 N102 g1
  have F107 := f109.same W107
  refine Go.aloadN X107.here hx (Jvm.hb hby d3_22) rfl rfl (q := 23) rfl ?_
  refine Go.iloadN X107.here hx (Jvm.hb hby d3_23) rfl (q := 24) rfl ?_
  refine Go.newarr X107 hx hZ (aty := .double) (word hw 0 rfl) e107 (Jvm.hb hby d3_24) (by decide) (k := 8) (by decide) (by decide) (by decide) (by decide) (ad := "[D") (by decide) (q := 26) rfl ?_
  intro T112 h112 a112 kk112 g112 X112 e112 E112 R112 A112
  have z113 : n0 ≤ h103.size := Nat.le_trans z104 E103.1
  have z114 : n0 ≤ h107.size := Nat.le_trans z113 (Nat.le_of_eq W107.size.symm)
  have r115 : n0 ≤ a112 := Nat.le_trans z114 (Nat.le_of_eq g112.symm)
  have k116 : Keep h0 h103 [a1] := k106.ext E103
  have k117 : Keep h0 h107 [a1] := k116.wr W107 (Or.inl (List.mem_of_getElem? (i := 0) rfl))
  have y115 : h0.size ≤ a112 := Nat.le_trans k117.1 (Nat.le_of_eq g112.symm)
  have R112 : Row Z h112 a112 .double kk112 [(.double (0 : UInt64)), (.double (0 : UInt64)), (.double (0 : UInt64)), (.double (0 : UInt64)), (.double (0 : UInt64)), (.double (0 : UInt64)), (.double (0 : UInt64)), (.double (0 : UInt64))] := R112
  have f119 := F3.other W102 (Or.inr (Jvm.RoadKit.slot_ne (Or.inr (word hw 29 rfl)) (Or.inr (word hw 25 rfl)) (by decide) (t := (.array .double)) (t' := .int) (by decide) (by decide)))
  have f120 := f119.ext E103
  have f121 := f120.other W107 (Or.inr (Jvm.RoadKit.slot_ne (Or.inr (word hw 29 rfl)) (Or.inr (word hw 27 rfl)) (by decide) (t := (.array .double)) (t' := (.array .double)) (by decide) (by decide)))
  have f122 := f121.ext E112
  have f123 := f111.wr W107
  have f124 := f123.ext E112
  refine Go.putf X112 hx hZ hown (word hw 28 rfl) e112 f122 f124 (Or.inr ⟨(word hw 29 rfl), rfl, hnm⟩) (word hw 18 rfl) (ty := (.array .double)) (by decide) rfl rfl (Jvm.hb hby d3_26) (q := 29) rfl ?_
  intro T118 h118 X118 e118 W118
  have N118 := Fr.snoc X118 N107 g1
  have F118 := f122.same W118
  have k125 : Keep h0 h112 [a1] := k117.ext E112
  have k126 : Keep h0 h118 [a1] := k125.wr W118 (Or.inl (List.mem_of_getElem? (i := 0) rfl))
  have f127 := f124.wr W118
  refine Go.retV X118 hx hret hlk (Jvm.hb hby d3_29) (by decide) (by decide) ?_
  rw [e118]
  exact ⟨rfl, N118, k126, f127⟩
set_option maxRecDepth 65536 in
set_option maxHeartbeats 40000000 in
theorem rm_init2 (l : Launch) (Z : State) (a0 : Array Value) (hw : ∀ d ∈ tables_1, d.before a0 Z = true) (a1 : Addr) (w2 : Int32) (o1 : Value) (o2 : Value) (o3 : Value) (o4 : Value) (o5 : Value) (o6 : Value) (o7 : Value) (o8 : Value) (o9 : Value) (h0 : Heap) (n0 : Nat) (Z0 : n0 ≤ h0.size) (E1 : Exa Z h0 a1 "com/example/ratewright/ratewright/inference/GradientCorrection") (F1 : Fld Z h0 a1 "com/example/ratewright/ratewright/inference/GradientCorrection" "dimension" "I" o1) (F2 : Fld Z h0 a1 "com/example/ratewright/ratewright/inference/GradientCorrection" "unknowns" "I" o2) (F3 : Fld Z h0 a1 "com/example/ratewright/ratewright/inference/GradientCorrection" "coefficients" "[D" o3) (F4 : Fld Z h0 a1 "com/example/ratewright/ratewright/inference/GradientCorrection" "fitted" "Lcom/example/ratewright/ratewright/inference/GradientCorrection$NormalEquations;" o4) (F5 : Fld Z h0 a1 "com/example/ratewright/ratewright/inference/GradientCorrection" "heldOut" "Lcom/example/ratewright/ratewright/inference/GradientCorrection$NormalEquations;" o5) (F6 : Fld Z h0 a1 "com/example/ratewright/ratewright/inference/GradientCorrection" "heldOutTerms" "[[D" o6) (F7 : Fld Z h0 a1 "com/example/ratewright/ratewright/inference/GradientCorrection" "heldOutMisses" "[D" o7) (F8 : Fld Z h0 a1 "com/example/ratewright/ratewright/inference/GradientCorrection" "pendingTerms" "[[D" o8) (F9 : Fld Z h0 a1 "com/example/ratewright/ratewright/inference/GradientCorrection" "pendingMisses" "[D" o9) (g1 : n0 ≤ a1) (hm : w2 = 0 ∨ w2 = 1 ∨ w2 = 2 ∨ w2 = 3) :
    Con l Z (⟨"com/example/ratewright/ratewright/inference/GradientCorrection", "<init>", "(II)V"⟩ : MethodName) prog_4_method_1_code 5 none ({ frames := 3, cells := 20, slots := 2500, locals := 60 } : Room) #[(.ref a1), (.int (2 : Int32)), (.int w2)] h0 (fun vR hR LR => ∃ (ac : Addr) (kc : ClassId), vR = none ∧ Fr n0 LR ∧ Keep h0 hR [a1] ∧ h0.size ≤ ac ∧ Exa Z hR a1 "com/example/ratewright/ratewright/inference/GradientCorrection" ∧ Fld Z hR a1 "com/example/ratewright/ratewright/inference/GradientCorrection" "dimension" "I" (.int (2 : Int32)) ∧ Fld Z hR a1 "com/example/ratewright/ratewright/inference/GradientCorrection" "coefficients" "[D" (.ref ac) ∧ Row Z hR ac .double kc [(.double (0 : UInt64)), (.double (0 : UInt64)), (.double (0 : UInt64)), (.double (0 : UInt64)), (.double (0 : UInt64)), (.double (0 : UInt64)), (.double (0 : UInt64)), (.double (0 : UInt64))]) := by
  refine enter (l := l) (Z := Z) (y := (⟨"com/example/ratewright/ratewright/inference/GradientCorrection", "<init>", "(II)V"⟩ : MethodName)) (bytes := prog_4_method_1_code) (maxL := 5) (ret := none) (ws := []) (rm := ({ frames := 3, cells := 20, slots := 2500, locals := 60 } : Room)) (as' := #[(.ref a1), (.int (2 : Int32)), (.int w2)]) (h0 := h0) (Qv := (fun vR hR LR => ∃ (ac : Addr) (kc : ClassId), vR = none ∧ Fr n0 LR ∧ Keep h0 hR [a1] ∧ h0.size ≤ ac ∧ Exa Z hR a1 "com/example/ratewright/ratewright/inference/GradientCorrection" ∧ Fld Z hR a1 "com/example/ratewright/ratewright/inference/GradientCorrection" "dimension" "I" (.int (2 : Int32)) ∧ Fld Z hR a1 "com/example/ratewright/ratewright/inference/GradientCorrection" "coefficients" "[D" (.ref ac) ∧ Row Z hR ac .double kc [(.double (0 : UInt64)), (.double (0 : UInt64)), (.double (0 : UInt64)), (.double (0 : UInt64)), (.double (0 : UInt64)), (.double (0 : UInt64)), (.double (0 : UInt64)), (.double (0 : UInt64))])) (kc := 20) (ks := 2500) (by first | exact plainFor_of_name (by first | (simp [plainName, overriddenIn]; done) | decide +kernel) | decide +kernel) (Ls := #[.val (.ref a1), .val (.int (2 : Int32)), .val (.int w2), .unset, .unset]) (fun m => by first | (simp [entryFrame, mkF, argsToLocals, Value.category]; done) | rfl) ?_
  intro p e s m below meth c s₁ hx hby hml hown hnm hret hlk hZ X0 e0
  have hown : s.vm.findClass "com/example/ratewright/ratewright/inference/GradientCorrection" = some m.cls := hown
  have hml : c.maxLocals = 5 := hml
  have N0 := Fr.nil n0
  refine Go.aloadN X0.here hx (Jvm.hb hby d1_0) rfl rfl (q := 1) rfl ?_
  refine Go.init X0 hx hZ hown (word hw 8 rfl) (word hw 9 rfl) (word hw 10 rfl) e0 (Jvm.hb hby d1_1) (by rw [hml]; rfl) (by decide) (W := 0) (Nat.le_of_eq rfl) (by decide) (q := 4) rfl ?_
  intro T101 X101 e101
  refine Go.iloadN X101.here hx (Jvm.hb hby d1_4) rfl (q := 5) rfl ?_
  refine Go.sipush X101.here hx (Jvm.hb hby d1_5) (v := (512 : Int32)) rfl (q := 8) rfl ?_
  have hc8_103 : ¬ ((512 : Int32) < (2 : Int32)) := by decide
  refine Go.icmpN X101.here hx (Jvm.hb hby d1_8) (flt hc8_103).2.2.1 (q := 11) rfl ?_
  refine Go.iconst X101.here hx (Jvm.hb hby d1_11) (v := (1 : Int32)) rfl (q := 12) rfl ?_
  refine Go.goto X101.here hx (Jvm.hb hby d1_12) (by decide) (q := 16) rfl ?_
  refine Go.istoreN X101.here hx (Jvm.hb hby d1_16) (l2 := #[.val (.ref a1), .val (.int (2 : Int32)), .val (.int w2), .val (.int (1 : Int32)), .unset]) rfl (q := 17) rfl ?_
  refine Go.aloadN X101.here hx (Jvm.hb hby d1_17) rfl rfl (q := 18) rfl ?_
  refine Go.iloadN X101.here hx (Jvm.hb hby d1_18) rfl (q := 19) rfl ?_
  refine Go.putf X101 hx hZ hown (word hw 11 rfl) e101 F1 E1 (Or.inr ⟨(word hw 12 rfl), rfl, hnm⟩) (word hw 3 rfl) (ty := .int) (by decide) rfl rfl (Jvm.hb hby d1_19) (q := 22) rfl ?_
  intro T104 h104 X104 e104 W104
  have N104 := Fr.snoc X104 N0 g1
  have F104 := F1.same W104
  refine Go.aloadN X104.here hx (Jvm.hb hby d1_22) rfl rfl (q := 23) rfl ?_
  refine Go.iloadN X104.here hx (Jvm.hb hby d1_23) rfl (q := 24) rfl ?_
  have hc24_106 : ¬ ((1 : Int32) = (0 : Int32)) := by decide
  refine Go.ifN X104.here hx (Jvm.hb hby d1_24) ((if0 _ _).trans (feq hc24_106).1) (q := 27) rfl ?_
  refine Go.iconst X104.here hx (Jvm.hb hby d1_27) (v := (4 : Int32)) rfl (q := 28) rfl ?_
  refine Go.iloadN X104.here hx (Jvm.hb hby d1_28) rfl (q := 29) rfl ?_
  refine Go.imul X104.here hx (Jvm.hb hby d1_29) (v := (8 : Int32)) (by decide) (q := 30) rfl ?_
  refine Go.goto X104.here hx (Jvm.hb hby d1_30) (by decide) (q := 34) rfl ?_
  have f108 := F2.other W104 (Or.inr (Jvm.RoadKit.slot_ne (Or.inr (word hw 14 rfl)) (Or.inr (word hw 12 rfl)) (by decide) (t := .int) (t' := .int) (by decide) (by decide)))
  have f109 := E1.wr W104
  refine Go.putf X104 hx hZ hown (word hw 13 rfl) e104 f108 f109 (Or.inr ⟨(word hw 14 rfl), rfl, hnm⟩) (word hw 3 rfl) (ty := .int) (by decide) rfl rfl (Jvm.hb hby d1_34) (q := 37) rfl ?_
  intro T107 h107 X107 e107 W107
  have N107 := Fr.snoc X107 N104 g1
  have F107 := f108.same W107
  refine Go.aloadN X107.here hx (Jvm.hb hby d1_37) rfl rfl (q := 38) rfl ?_
  refine Go.iconst X107.here hx (Jvm.hb hby d1_38) (v := (4 : Int32)) rfl (q := 39) rfl ?_
  refine Go.iloadN X107.here hx (Jvm.hb hby d1_39) rfl (q := 40) rfl ?_
  refine Go.imul X107.here hx (Jvm.hb hby d1_40) (v := (8 : Int32)) (by decide) (q := 41) rfl ?_
  refine Go.newarr X107 hx hZ (aty := .double) (word hw 0 rfl) e107 (Jvm.hb hby d1_41) (by decide) (k := 8) (by decide) (by decide) (by decide) (by decide) (ad := "[D") (by decide) (q := 43) rfl ?_
  intro T110 h110 a110 kk110 g110 X110 e110 E110 R110 A110
  have z111 : n0 ≤ h104.size := Nat.le_trans Z0 (Nat.le_of_eq W104.size.symm)
  have z112 : n0 ≤ h107.size := Nat.le_trans z111 (Nat.le_of_eq W107.size.symm)
  have r113 : n0 ≤ a110 := Nat.le_trans z112 (Nat.le_of_eq g110.symm)
  have k114 : Keep h0 h104 [a1] := (Keep.refl h0 [a1]).wr W104 (Or.inl (List.mem_of_getElem? (i := 0) rfl))
  have k115 : Keep h0 h107 [a1] := k114.wr W107 (Or.inl (List.mem_of_getElem? (i := 0) rfl))
  have y113 : h0.size ≤ a110 := Nat.le_trans k115.1 (Nat.le_of_eq g110.symm)
  have R110 : Row Z h110 a110 .double kk110 [(.double (0 : UInt64)), (.double (0 : UInt64)), (.double (0 : UInt64)), (.double (0 : UInt64)), (.double (0 : UInt64)), (.double (0 : UInt64)), (.double (0 : UInt64)), (.double (0 : UInt64))] := R110
  have f117 := F3.other W104 (Or.inr (Jvm.RoadKit.slot_ne (Or.inl (word hw 16 rfl)) (Or.inr (word hw 12 rfl)) (by decide) (t := (.array .double)) (t' := .int) (by decide) (by decide)))
  have f118 := f117.other W107 (Or.inr (Jvm.RoadKit.slot_ne (Or.inl (word hw 16 rfl)) (Or.inr (word hw 14 rfl)) (by decide) (t := (.array .double)) (t' := .int) (by decide) (by decide)))
  have f119 := f118.ext E110
  have f120 := f109.wr W107
  have f121 := f120.ext E110
  refine Go.putf X110 hx hZ hown (word hw 15 rfl) e110 f119 f121 (Or.inl (word hw 16 rfl)) (word hw 3 rfl) (ty := (.array .double)) (by decide) rfl rfl (Jvm.hb hby d1_43) (q := 46) rfl ?_
  intro T116 h116 X116 e116 W116
  have N116 := Fr.snoc X116 N107 g1
  have F116 := f119.same W116
  refine Go.aloadN X116.here hx (Jvm.hb hby d1_46) rfl rfl (q := 47) rfl ?_
  refine Go.new X116 hx hZ hown (word hw 17 rfl) (word hw 18 rfl) (word hw 19 rfl) e116 (Jvm.hb hby d1_47) (by decide) (by decide) (q := 50) rfl ?_
  intro T122 h122 a122 g122 X122 e122 E122 A122 D122
  have z123 : n0 ≤ h110.size := Nat.le_trans z112 E110.1
  have z124 : n0 ≤ h116.size := Nat.le_trans z123 (Nat.le_of_eq W116.size.symm)
  have r125 : n0 ≤ a122 := Nat.le_trans z124 (Nat.le_of_eq g122.symm)
  have k126 : Keep h0 h110 [a1] := k115.ext E110
  have k127 : Keep h0 h116 [a1] := k126.wr W116 (Or.inl (List.mem_of_getElem? (i := 0) rfl))
  have y125 : h0.size ≤ a122 := Nat.le_trans k127.1 (Nat.le_of_eq g122.symm)
  have F128 : Fld Z h122 a122 "com/example/ratewright/ratewright/inference/GradientCorrection$NormalEquations" "size" "I" (.int (0 : Int32)) := D122 (Or.inr (word hw 25 rfl)) (ty := .int) (by decide)
  have F129 : Fld Z h122 a122 "com/example/ratewright/ratewright/inference/GradientCorrection$NormalEquations" "products" "[D" .null := D122 (Or.inr (word hw 27 rfl)) (ty := (.array .double)) (by decide)
  have F130 : Fld Z h122 a122 "com/example/ratewright/ratewright/inference/GradientCorrection$NormalEquations" "right" "[D" .null := D122 (Or.inr (word hw 29 rfl)) (ty := (.array .double)) (by decide)
  refine Go.dup X122.here hx (Jvm.hb hby d1_50) rfl (q := 51) rfl ?_
  refine Go.aloadN X122.here hx (Jvm.hb hby d1_51) rfl rfl (q := 52) rfl ?_
  have f132 := F107.ext E110
  have f133 := f132.other W116 (Or.inr (Jvm.RoadKit.slot_ne (Or.inr (word hw 14 rfl)) (Or.inl (word hw 16 rfl)) (by decide) (t := .int) (t' := (.array .double)) (by decide) (by decide)))
  have f134 := f133.ext E122
  refine Go.getf X122 hx hZ hown (word hw 13 rfl) e122 f134 (Jvm.hb hby d1_52) (q := 55) rfl ?_
  intro T131 X131 e131
  have z136 : n0 ≤ h122.size := Nat.le_trans z124 E122.1
  refine Go.special X131 hx hZ (y := (⟨"com/example/ratewright/ratewright/inference/GradientCorrection$NormalEquations", "<init>", "(I)V"⟩ : MethodName)) rfl hown (word hw 20 rfl) (word hw 21 rfl) (word hw 22 rfl) (word hw 19 rfl) (by decide) (rm_ne2 l Z a0 hw a122 (.int (0 : Int32)) .null .null h122 n0 z136 A122 F128 F129 F130 r125) e131 (a := a122) (argsL := [(.int (8 : Int32))]) (rest := [(.ref a122), (.ref a1)]) (W := 2) (Jvm.hb hby d1_55) rfl rfl (lenOf (pd0) rfl) (by rw [hml]; rfl) (Nat.le_of_eq rfl) (by decide) (by decide) (by decide) (by decide) (q := 58) rfl ?_
  intro T135 L135 w135 X135 hQ135
  obtain ⟨rfl, M135, K135, P135_0⟩ := hQ135
  have N135 := Fr.app N116 M135
  show Go p e below _ (T135.setTop (mkF m 58 #[.val (.ref a1), .val (.int (2 : Int32)), .val (.int w2), .val (.int (1 : Int32)), .unset] [(.ref a122), (.ref a1)]))
  have f138 := F4.other W104 (Or.inr (Jvm.RoadKit.slot_ne (Or.inr (word hw 31 rfl)) (Or.inr (word hw 12 rfl)) (by decide) (t := (.object "com/example/ratewright/ratewright/inference/GradientCorrection$NormalEquations")) (t' := .int) (by decide) (by decide)))
  have f139 := f138.other W107 (Or.inr (Jvm.RoadKit.slot_ne (Or.inr (word hw 31 rfl)) (Or.inr (word hw 14 rfl)) (by decide) (t := (.object "com/example/ratewright/ratewright/inference/GradientCorrection$NormalEquations")) (t' := .int) (by decide) (by decide)))
  have f140 := f139.ext E110
  have f141 := f140.other W116 (Or.inr (Jvm.RoadKit.slot_ne (Or.inr (word hw 31 rfl)) (Or.inl (word hw 16 rfl)) (by decide) (t := (.object "com/example/ratewright/ratewright/inference/GradientCorrection$NormalEquations")) (t' := (.array .double)) (by decide) (by decide)))
  have f142 := f141.ext E122
  have f144 := f121.wr W116
  have ne145 : a1 ≠ a122 := Nat.ne_of_lt (Nat.lt_of_lt_of_le f144.lt (Nat.le_of_eq g122.symm))
  have f143 := f142.keep K135 (ninS ne145 nin0)
  have f146 := f144.ext E122
  have f147 := f146.keep K135
  refine Go.putf X135 hx hZ hown (word hw 30 rfl) rfl f143 f147 (Or.inr ⟨(word hw 31 rfl), rfl, hnm⟩) (word hw 3 rfl) (ty := (.object "com/example/ratewright/ratewright/inference/GradientCorrection$NormalEquations")) (by decide) rfl rfl (Jvm.hb hby d1_58) (q := 61) rfl ?_
  intro T137 h137 X137 e137 W137
  have N137 := Fr.snoc X137 N135 g1
  have F137 := f143.same W137
  refine Go.aloadN X137.here hx (Jvm.hb hby d1_61) rfl rfl (q := 62) rfl ?_
  refine Go.new X137 hx hZ hown (word hw 17 rfl) (word hw 18 rfl) (word hw 19 rfl) e137 (Jvm.hb hby d1_62) (by decide) (by decide) (q := 65) rfl ?_
  intro T148 h148 a148 g148 X148 e148 E148 A148 D148
  have z149 : n0 ≤ T135.heap.size := Nat.le_trans z136 K135.1
  have z150 : n0 ≤ h137.size := Nat.le_trans z149 (Nat.le_of_eq W137.size.symm)
  have r151 : n0 ≤ a148 := Nat.le_trans z150 (Nat.le_of_eq g148.symm)
  have k152 : Keep h0 h122 [a1] := k127.ext E122
  have k153 : Keep h0 T135.heap [a1] := k152.trans K135 (allS (Or.inr y125) all0)
  have k154 : Keep h0 h137 [a1] := k153.wr W137 (Or.inl (List.mem_of_getElem? (i := 0) rfl))
  have y151 : h0.size ≤ a148 := Nat.le_trans k154.1 (Nat.le_of_eq g148.symm)
  have F155 : Fld Z h148 a148 "com/example/ratewright/ratewright/inference/GradientCorrection$NormalEquations" "size" "I" (.int (0 : Int32)) := D148 (Or.inr (word hw 25 rfl)) (ty := .int) (by decide)
  have F156 : Fld Z h148 a148 "com/example/ratewright/ratewright/inference/GradientCorrection$NormalEquations" "products" "[D" .null := D148 (Or.inr (word hw 27 rfl)) (ty := (.array .double)) (by decide)
  have F157 : Fld Z h148 a148 "com/example/ratewright/ratewright/inference/GradientCorrection$NormalEquations" "right" "[D" .null := D148 (Or.inr (word hw 29 rfl)) (ty := (.array .double)) (by decide)
  refine Go.dup X148.here hx (Jvm.hb hby d1_65) rfl (q := 66) rfl ?_
  refine Go.aloadN X148.here hx (Jvm.hb hby d1_66) rfl rfl (q := 67) rfl ?_
  have f159 := f134.keep K135 (ninS ne145 nin0)
  have f160 := f159.other W137 (Or.inr (Jvm.RoadKit.slot_ne (Or.inr (word hw 14 rfl)) (Or.inr (word hw 31 rfl)) (by decide) (t := .int) (t' := (.object "com/example/ratewright/ratewright/inference/GradientCorrection$NormalEquations")) (by decide) (by decide)))
  have f161 := f160.ext E148
  refine Go.getf X148 hx hZ hown (word hw 13 rfl) e148 f161 (Jvm.hb hby d1_67) (q := 70) rfl ?_
  intro T158 X158 e158
  have z163 : n0 ≤ h148.size := Nat.le_trans z150 E148.1
  refine Go.special X158 hx hZ (y := (⟨"com/example/ratewright/ratewright/inference/GradientCorrection$NormalEquations", "<init>", "(I)V"⟩ : MethodName)) rfl hown (word hw 20 rfl) (word hw 21 rfl) (word hw 22 rfl) (word hw 19 rfl) (by decide) (rm_ne2 l Z a0 hw a148 (.int (0 : Int32)) .null .null h148 n0 z163 A148 F155 F156 F157 r151) e158 (a := a148) (argsL := [(.int (8 : Int32))]) (rest := [(.ref a148), (.ref a1)]) (W := 2) (Jvm.hb hby d1_70) rfl rfl (lenOf (pd0) rfl) (by rw [hml]; rfl) (Nat.le_of_eq rfl) (by decide) (by decide) (by decide) (by decide) (q := 73) rfl ?_
  intro T162 L162 w162 X162 hQ162
  obtain ⟨rfl, M162, K162, P162_0⟩ := hQ162
  have N162 := Fr.app N137 M162
  show Go p e below _ (T162.setTop (mkF m 73 #[.val (.ref a1), .val (.int (2 : Int32)), .val (.int w2), .val (.int (1 : Int32)), .unset] [(.ref a148), (.ref a1)]))
  have f165 := F5.other W104 (Or.inr (Jvm.RoadKit.slot_ne (Or.inr (word hw 33 rfl)) (Or.inr (word hw 12 rfl)) (by decide) (t := (.object "com/example/ratewright/ratewright/inference/GradientCorrection$NormalEquations")) (t' := .int) (by decide) (by decide)))
  have f166 := f165.other W107 (Or.inr (Jvm.RoadKit.slot_ne (Or.inr (word hw 33 rfl)) (Or.inr (word hw 14 rfl)) (by decide) (t := (.object "com/example/ratewright/ratewright/inference/GradientCorrection$NormalEquations")) (t' := .int) (by decide) (by decide)))
  have f167 := f166.ext E110
  have f168 := f167.other W116 (Or.inr (Jvm.RoadKit.slot_ne (Or.inr (word hw 33 rfl)) (Or.inl (word hw 16 rfl)) (by decide) (t := (.object "com/example/ratewright/ratewright/inference/GradientCorrection$NormalEquations")) (t' := (.array .double)) (by decide) (by decide)))
  have f169 := f168.ext E122
  have f170 := f169.keep K135 (ninS ne145 nin0)
  have f171 := f170.other W137 (Or.inr (Jvm.RoadKit.slot_ne (Or.inr (word hw 33 rfl)) (Or.inr (word hw 31 rfl)) (by decide) (t := (.object "com/example/ratewright/ratewright/inference/GradientCorrection$NormalEquations")) (t' := (.object "com/example/ratewright/ratewright/inference/GradientCorrection$NormalEquations")) (by decide) (by decide)))
  have f172 := f171.ext E148
  have f174 := f147.wr W137
  have ne175 : a1 ≠ a148 := Nat.ne_of_lt (Nat.lt_of_lt_of_le f174.lt (Nat.le_of_eq g148.symm))
  have f173 := f172.keep K162 (ninS ne175 nin0)
  have f176 := f174.ext E148
  have f177 := f176.keep K162
  refine Go.putf X162 hx hZ hown (word hw 32 rfl) rfl f173 f177 (Or.inr ⟨(word hw 33 rfl), rfl, hnm⟩) (word hw 3 rfl) (ty := (.object "com/example/ratewright/ratewright/inference/GradientCorrection$NormalEquations")) (by decide) rfl rfl (Jvm.hb hby d1_73) (q := 76) rfl ?_
  intro T164 h164 X164 e164 W164
  have N164 := Fr.snoc X164 N162 g1
  have F164 := f173.same W164
  refine Go.aloadN X164.here hx (Jvm.hb hby d1_76) rfl rfl (q := 77) rfl ?_
  refine Go.iloadN X164.here hx (Jvm.hb hby d1_77) rfl (q := 78) rfl ?_
  have hc78_179 : ¬ ((1 : Int32) = (0 : Int32)) := by decide
  refine Go.ifN X164.here hx (Jvm.hb hby d1_78) ((if0 _ _).trans (feq hc78_179).1) (q := 81) rfl ?_
  refine Go.sipush X164.here hx (Jvm.hb hby d1_81) (v := (1000 : Int32)) rfl (q := 84) rfl ?_
  refine Go.goto X164.here hx (Jvm.hb hby d1_84) (by decide) (q := 88) rfl ?_
  refine Go.newarrs X164 hx hZ hown (ty := .double) (C := "[D") (by decide) (word hw 34 rfl) (word hw 35 rfl) e164 (Jvm.hb hby d1_88) (by decide) (k := 1000) (by decide) (by decide) (by decide) (by decide) (ad := "[[D") (by decide) (q := 91) rfl ?_
  intro T180 h180 a180 kk180 g180 X180 e180 E180 R180 A180
  have z181 : n0 ≤ T162.heap.size := Nat.le_trans z163 K162.1
  have z182 : n0 ≤ h164.size := Nat.le_trans z181 (Nat.le_of_eq W164.size.symm)
  have r183 : n0 ≤ a180 := Nat.le_trans z182 (Nat.le_of_eq g180.symm)
  have k184 : Keep h0 h148 [a1] := k154.ext E148
  have k185 : Keep h0 T162.heap [a1] := k184.trans K162 (allS (Or.inr y151) all0)
  have k186 : Keep h0 h164 [a1] := k185.wr W164 (Or.inl (List.mem_of_getElem? (i := 0) rfl))
  have y183 : h0.size ≤ a180 := Nat.le_trans k186.1 (Nat.le_of_eq g180.symm)
  have f188 := F6.other W104 (Or.inr (Jvm.RoadKit.slot_ne (Or.inr (word hw 37 rfl)) (Or.inr (word hw 12 rfl)) (by decide) (t := (.array (.array .double))) (t' := .int) (by decide) (by decide)))
  have f189 := f188.other W107 (Or.inr (Jvm.RoadKit.slot_ne (Or.inr (word hw 37 rfl)) (Or.inr (word hw 14 rfl)) (by decide) (t := (.array (.array .double))) (t' := .int) (by decide) (by decide)))
  have f190 := f189.ext E110
  have f191 := f190.other W116 (Or.inr (Jvm.RoadKit.slot_ne (Or.inr (word hw 37 rfl)) (Or.inl (word hw 16 rfl)) (by decide) (t := (.array (.array .double))) (t' := (.array .double)) (by decide) (by decide)))
  have f192 := f191.ext E122
  have f193 := f192.keep K135 (ninS ne145 nin0)
  have f194 := f193.other W137 (Or.inr (Jvm.RoadKit.slot_ne (Or.inr (word hw 37 rfl)) (Or.inr (word hw 31 rfl)) (by decide) (t := (.array (.array .double))) (t' := (.object "com/example/ratewright/ratewright/inference/GradientCorrection$NormalEquations")) (by decide) (by decide)))
  have f195 := f194.ext E148
  have f196 := f195.keep K162 (ninS ne175 nin0)
  have f197 := f196.other W164 (Or.inr (Jvm.RoadKit.slot_ne (Or.inr (word hw 37 rfl)) (Or.inr (word hw 33 rfl)) (by decide) (t := (.array (.array .double))) (t' := (.object "com/example/ratewright/ratewright/inference/GradientCorrection$NormalEquations")) (by decide) (by decide)))
  have f198 := f197.ext E180
  have f199 := f177.wr W164
  have f200 := f199.ext E180
  refine Go.putf X180 hx hZ hown (word hw 36 rfl) e180 f198 f200 (Or.inr ⟨(word hw 37 rfl), rfl, hnm⟩) (word hw 3 rfl) (ty := (.array (.array .double))) (by decide) rfl rfl (Jvm.hb hby d1_91) (q := 94) rfl ?_
  intro T187 h187 X187 e187 W187
  have N187 := Fr.snoc X187 N164 g1
  have F187 := f198.same W187
  refine Go.aloadN X187.here hx (Jvm.hb hby d1_94) rfl rfl (q := 95) rfl ?_
  refine Go.aloadN X187.here hx (Jvm.hb hby d1_95) rfl rfl (q := 96) rfl ?_
  refine Go.getf X187 hx hZ hown (word hw 36 rfl) e187 F187 (Jvm.hb hby d1_96) (q := 99) rfl ?_
  intro T201 X201 e201
  have ne203 : a1 ≠ a180 := Nat.ne_of_lt (Nat.lt_of_lt_of_le f199.lt (Nat.le_of_eq g180.symm))
  have f202 := R180.other W187 (Ne.symm ne203)
  refine Go.alen X201 hx hZ e201 f202 (Jvm.hb hby d1_99) (n := (1000 : Int32)) (by rw [List.length_replicate]; decide) (q := 100) rfl ?_
  refine Go.newarr X201 hx hZ (aty := .double) (word hw 0 rfl) e201 (Jvm.hb hby d1_100) (by decide) (k := 1000) (by decide) (by decide) (by decide) (by decide) (ad := "[D") (by decide) (q := 102) rfl ?_
  intro T204 h204 a204 kk204 g204 X204 e204 E204 R204 A204
  have z205 : n0 ≤ h180.size := Nat.le_trans z182 E180.1
  have z206 : n0 ≤ h187.size := Nat.le_trans z205 (Nat.le_of_eq W187.size.symm)
  have r207 : n0 ≤ a204 := Nat.le_trans z206 (Nat.le_of_eq g204.symm)
  have k208 : Keep h0 h180 [a1] := k186.ext E180
  have k209 : Keep h0 h187 [a1] := k208.wr W187 (Or.inl (List.mem_of_getElem? (i := 0) rfl))
  have y207 : h0.size ≤ a204 := Nat.le_trans k209.1 (Nat.le_of_eq g204.symm)
  have f211 := F7.other W104 (Or.inr (Jvm.RoadKit.slot_ne (Or.inr (word hw 39 rfl)) (Or.inr (word hw 12 rfl)) (by decide) (t := (.array .double)) (t' := .int) (by decide) (by decide)))
  have f212 := f211.other W107 (Or.inr (Jvm.RoadKit.slot_ne (Or.inr (word hw 39 rfl)) (Or.inr (word hw 14 rfl)) (by decide) (t := (.array .double)) (t' := .int) (by decide) (by decide)))
  have f213 := f212.ext E110
  have f214 := f213.other W116 (Or.inr (Jvm.RoadKit.slot_ne (Or.inr (word hw 39 rfl)) (Or.inl (word hw 16 rfl)) (by decide) (t := (.array .double)) (t' := (.array .double)) (by decide) (by decide)))
  have f215 := f214.ext E122
  have f216 := f215.keep K135 (ninS ne145 nin0)
  have f217 := f216.other W137 (Or.inr (Jvm.RoadKit.slot_ne (Or.inr (word hw 39 rfl)) (Or.inr (word hw 31 rfl)) (by decide) (t := (.array .double)) (t' := (.object "com/example/ratewright/ratewright/inference/GradientCorrection$NormalEquations")) (by decide) (by decide)))
  have f218 := f217.ext E148
  have f219 := f218.keep K162 (ninS ne175 nin0)
  have f220 := f219.other W164 (Or.inr (Jvm.RoadKit.slot_ne (Or.inr (word hw 39 rfl)) (Or.inr (word hw 33 rfl)) (by decide) (t := (.array .double)) (t' := (.object "com/example/ratewright/ratewright/inference/GradientCorrection$NormalEquations")) (by decide) (by decide)))
  have f221 := f220.ext E180
  have f222 := f221.other W187 (Or.inr (Jvm.RoadKit.slot_ne (Or.inr (word hw 39 rfl)) (Or.inr (word hw 37 rfl)) (by decide) (t := (.array .double)) (t' := (.array (.array .double))) (by decide) (by decide)))
  have f223 := f222.ext E204
  have f224 := f200.wr W187
  have f225 := f224.ext E204
  refine Go.putf X204 hx hZ hown (word hw 38 rfl) e204 f223 f225 (Or.inr ⟨(word hw 39 rfl), rfl, hnm⟩) (word hw 3 rfl) (ty := (.array .double)) (by decide) rfl rfl (Jvm.hb hby d1_102) (q := 105) rfl ?_
  intro T210 h210 X210 e210 W210
  have N210 := Fr.snoc X210 N187 g1
  have F210 := f223.same W210
  refine Go.iloadN X210.here hx (Jvm.hb hby d1_105) rfl (q := 106) rfl ?_
  have hc106_227 : ¬ ((1 : Int32) = (0 : Int32)) := by decide
  refine Go.ifN X210.here hx (Jvm.hb hby d1_106) ((if0 _ _).trans (feq hc106_227).1) (q := 109) rfl ?_
  refine Go.iloadN X210.here hx (Jvm.hb hby d1_109) rfl (q := 110) rfl ?_
  refine Go.goto X210.here hx (Jvm.hb hby d1_110) (by decide) (q := 114) rfl ?_
  refine Go.istore X210.here hx (Jvm.hb hby d1_114) (l2 := #[.val (.ref a1), .val (.int (2 : Int32)), .val (.int w2), .val (.int (1 : Int32)), .val (.int w2)]) rfl (q := 116) rfl ?_
  refine Go.aloadN X210.here hx (Jvm.hb hby d1_116) rfl rfl (q := 117) rfl ?_
  rcases hm with rfl | rfl | rfl | rfl
  · -- w2 = 0
    refine Go.iload X210.here hx (Jvm.hb hby d1_117) rfl (q := 119) rfl ?_
    refine Go.aloadN X210.here hx (Jvm.hb hby d1_119) rfl rfl (q := 120) rfl ?_
    have f229 := f161.keep K162 (ninS ne175 nin0)
    have f230 := f229.other W164 (Or.inr (Jvm.RoadKit.slot_ne (Or.inr (word hw 14 rfl)) (Or.inr (word hw 33 rfl)) (by decide) (t := .int) (t' := (.object "com/example/ratewright/ratewright/inference/GradientCorrection$NormalEquations")) (by decide) (by decide)))
    have f231 := f230.ext E180
    have f232 := f231.other W187 (Or.inr (Jvm.RoadKit.slot_ne (Or.inr (word hw 14 rfl)) (Or.inr (word hw 37 rfl)) (by decide) (t := .int) (t' := (.array (.array .double))) (by decide) (by decide)))
    have f233 := f232.ext E204
    have f234 := f233.other W210 (Or.inr (Jvm.RoadKit.slot_ne (Or.inr (word hw 14 rfl)) (Or.inr (word hw 39 rfl)) (by decide) (t := .int) (t' := (.array .double)) (by decide) (by decide)))
    refine Go.getf X210 hx hZ hown (word hw 13 rfl) e210 f234 (Jvm.hb hby d1_120) (q := 123) rfl ?_
    intro T228 X228 e228
    refine Go.grid X228 hx hZ hown (ty := .double) (C := "[D") (by decide) (by decide) (word hw 40 rfl) (word hw 35 rfl) (word hw 0 rfl) e228 (Jvm.hb hby d1_123) (by decide) (by decide) (N := 0) (by decide) (K := 8) (by decide) (by decide) (by decide) rfl rfl (by decide) (by decide) (q := 127) rfl ?_
    intro T235 h235 a235 g235 X235 e235 E235 A235
    have z236 : n0 ≤ h204.size := Nat.le_trans z206 E204.1
    have z237 : n0 ≤ h210.size := Nat.le_trans z236 (Nat.le_of_eq W210.size.symm)
    have r238 : n0 ≤ a235 := Nat.le_trans z237 (Nat.le_of_eq g235.symm)
    have k239 : Keep h0 h204 [a1] := k209.ext E204
    have k240 : Keep h0 h210 [a1] := k239.wr W210 (Or.inl (List.mem_of_getElem? (i := 0) rfl))
    have y238 : h0.size ≤ a235 := Nat.le_trans k240.1 (Nat.le_of_eq g235.symm)
    have f242 := F8.other W104 (Or.inr (Jvm.RoadKit.slot_ne (Or.inr (word hw 42 rfl)) (Or.inr (word hw 12 rfl)) (by decide) (t := (.array (.array .double))) (t' := .int) (by decide) (by decide)))
    have f243 := f242.other W107 (Or.inr (Jvm.RoadKit.slot_ne (Or.inr (word hw 42 rfl)) (Or.inr (word hw 14 rfl)) (by decide) (t := (.array (.array .double))) (t' := .int) (by decide) (by decide)))
    have f244 := f243.ext E110
    have f245 := f244.other W116 (Or.inr (Jvm.RoadKit.slot_ne (Or.inr (word hw 42 rfl)) (Or.inl (word hw 16 rfl)) (by decide) (t := (.array (.array .double))) (t' := (.array .double)) (by decide) (by decide)))
    have f246 := f245.ext E122
    have f247 := f246.keep K135 (ninS ne145 nin0)
    have f248 := f247.other W137 (Or.inr (Jvm.RoadKit.slot_ne (Or.inr (word hw 42 rfl)) (Or.inr (word hw 31 rfl)) (by decide) (t := (.array (.array .double))) (t' := (.object "com/example/ratewright/ratewright/inference/GradientCorrection$NormalEquations")) (by decide) (by decide)))
    have f249 := f248.ext E148
    have f250 := f249.keep K162 (ninS ne175 nin0)
    have f251 := f250.other W164 (Or.inr (Jvm.RoadKit.slot_ne (Or.inr (word hw 42 rfl)) (Or.inr (word hw 33 rfl)) (by decide) (t := (.array (.array .double))) (t' := (.object "com/example/ratewright/ratewright/inference/GradientCorrection$NormalEquations")) (by decide) (by decide)))
    have f252 := f251.ext E180
    have f253 := f252.other W187 (Or.inr (Jvm.RoadKit.slot_ne (Or.inr (word hw 42 rfl)) (Or.inr (word hw 37 rfl)) (by decide) (t := (.array (.array .double))) (t' := (.array (.array .double))) (by decide) (by decide)))
    have f254 := f253.ext E204
    have f255 := f254.other W210 (Or.inr (Jvm.RoadKit.slot_ne (Or.inr (word hw 42 rfl)) (Or.inr (word hw 39 rfl)) (by decide) (t := (.array (.array .double))) (t' := (.array .double)) (by decide) (by decide)))
    have f256 := f255.ext E235
    have f257 := f225.wr W210
    have f258 := f257.ext E235
    refine Go.putf X235 hx hZ hown (word hw 41 rfl) e235 f256 f258 (Or.inr ⟨(word hw 42 rfl), rfl, hnm⟩) (word hw 3 rfl) (ty := (.array (.array .double))) (by decide) rfl rfl (Jvm.hb hby d1_127) (q := 130) rfl ?_
    intro T241 h241 X241 e241 W241
    have N241 := Fr.snoc X241 N210 g1
    have F241 := f256.same W241
    refine Go.aloadN X241.here hx (Jvm.hb hby d1_130) rfl rfl (q := 131) rfl ?_
    refine Go.iload X241.here hx (Jvm.hb hby d1_131) rfl (q := 133) rfl ?_
    refine Go.newarr X241 hx hZ (aty := .double) (word hw 0 rfl) e241 (Jvm.hb hby d1_133) (by decide) (k := 0) (by decide) (by decide) (by decide) (by decide) (ad := "[D") (by decide) (q := 135) rfl ?_
    intro T259 h259 a259 kk259 g259 X259 e259 E259 R259 A259
    have z260 : n0 ≤ h235.size := Nat.le_trans z237 E235.1
    have z261 : n0 ≤ h241.size := Nat.le_trans z260 (Nat.le_of_eq W241.size.symm)
    have r262 : n0 ≤ a259 := Nat.le_trans z261 (Nat.le_of_eq g259.symm)
    have k263 : Keep h0 h235 [a1] := k240.ext E235
    have k264 : Keep h0 h241 [a1] := k263.wr W241 (Or.inl (List.mem_of_getElem? (i := 0) rfl))
    have y262 : h0.size ≤ a259 := Nat.le_trans k264.1 (Nat.le_of_eq g259.symm)
    have R259 : Row Z h259 a259 .double kk259 [] := R259
    have f266 := F9.other W104 (Or.inr (Jvm.RoadKit.slot_ne (Or.inr (word hw 44 rfl)) (Or.inr (word hw 12 rfl)) (by decide) (t := (.array .double)) (t' := .int) (by decide) (by decide)))
    have f267 := f266.other W107 (Or.inr (Jvm.RoadKit.slot_ne (Or.inr (word hw 44 rfl)) (Or.inr (word hw 14 rfl)) (by decide) (t := (.array .double)) (t' := .int) (by decide) (by decide)))
    have f268 := f267.ext E110
    have f269 := f268.other W116 (Or.inr (Jvm.RoadKit.slot_ne (Or.inr (word hw 44 rfl)) (Or.inl (word hw 16 rfl)) (by decide) (t := (.array .double)) (t' := (.array .double)) (by decide) (by decide)))
    have f270 := f269.ext E122
    have f271 := f270.keep K135 (ninS ne145 nin0)
    have f272 := f271.other W137 (Or.inr (Jvm.RoadKit.slot_ne (Or.inr (word hw 44 rfl)) (Or.inr (word hw 31 rfl)) (by decide) (t := (.array .double)) (t' := (.object "com/example/ratewright/ratewright/inference/GradientCorrection$NormalEquations")) (by decide) (by decide)))
    have f273 := f272.ext E148
    have f274 := f273.keep K162 (ninS ne175 nin0)
    have f275 := f274.other W164 (Or.inr (Jvm.RoadKit.slot_ne (Or.inr (word hw 44 rfl)) (Or.inr (word hw 33 rfl)) (by decide) (t := (.array .double)) (t' := (.object "com/example/ratewright/ratewright/inference/GradientCorrection$NormalEquations")) (by decide) (by decide)))
    have f276 := f275.ext E180
    have f277 := f276.other W187 (Or.inr (Jvm.RoadKit.slot_ne (Or.inr (word hw 44 rfl)) (Or.inr (word hw 37 rfl)) (by decide) (t := (.array .double)) (t' := (.array (.array .double))) (by decide) (by decide)))
    have f278 := f277.ext E204
    have f279 := f278.other W210 (Or.inr (Jvm.RoadKit.slot_ne (Or.inr (word hw 44 rfl)) (Or.inr (word hw 39 rfl)) (by decide) (t := (.array .double)) (t' := (.array .double)) (by decide) (by decide)))
    have f280 := f279.ext E235
    have f281 := f280.other W241 (Or.inr (Jvm.RoadKit.slot_ne (Or.inr (word hw 44 rfl)) (Or.inr (word hw 42 rfl)) (by decide) (t := (.array .double)) (t' := (.array (.array .double))) (by decide) (by decide)))
    have f282 := f281.ext E259
    have f283 := f258.wr W241
    have f284 := f283.ext E259
    refine Go.putf X259 hx hZ hown (word hw 43 rfl) e259 f282 f284 (Or.inr ⟨(word hw 44 rfl), rfl, hnm⟩) (word hw 3 rfl) (ty := (.array .double)) (by decide) rfl rfl (Jvm.hb hby d1_135) (q := 138) rfl ?_
    intro T265 h265 X265 e265 W265
    have N265 := Fr.snoc X265 N241 g1
    have F265 := f282.same W265
    have k285 : Keep h0 h259 [a1] := k264.ext E259
    have k286 : Keep h0 h265 [a1] := k285.wr W265 (Or.inl (List.mem_of_getElem? (i := 0) rfl))
    have f287 := f284.wr W265
    have f288 := F104.other W107 (Or.inr (Jvm.RoadKit.slot_ne (Or.inr (word hw 12 rfl)) (Or.inr (word hw 14 rfl)) (by decide) (t := .int) (t' := .int) (by decide) (by decide)))
    have f289 := f288.ext E110
    have f290 := f289.other W116 (Or.inr (Jvm.RoadKit.slot_ne (Or.inr (word hw 12 rfl)) (Or.inl (word hw 16 rfl)) (by decide) (t := .int) (t' := (.array .double)) (by decide) (by decide)))
    have f291 := f290.ext E122
    have f292 := f291.keep K135 (ninS ne145 nin0)
    have f293 := f292.other W137 (Or.inr (Jvm.RoadKit.slot_ne (Or.inr (word hw 12 rfl)) (Or.inr (word hw 31 rfl)) (by decide) (t := .int) (t' := (.object "com/example/ratewright/ratewright/inference/GradientCorrection$NormalEquations")) (by decide) (by decide)))
    have f294 := f293.ext E148
    have f295 := f294.keep K162 (ninS ne175 nin0)
    have f296 := f295.other W164 (Or.inr (Jvm.RoadKit.slot_ne (Or.inr (word hw 12 rfl)) (Or.inr (word hw 33 rfl)) (by decide) (t := .int) (t' := (.object "com/example/ratewright/ratewright/inference/GradientCorrection$NormalEquations")) (by decide) (by decide)))
    have f297 := f296.ext E180
    have f298 := f297.other W187 (Or.inr (Jvm.RoadKit.slot_ne (Or.inr (word hw 12 rfl)) (Or.inr (word hw 37 rfl)) (by decide) (t := .int) (t' := (.array (.array .double))) (by decide) (by decide)))
    have f299 := f298.ext E204
    have f300 := f299.other W210 (Or.inr (Jvm.RoadKit.slot_ne (Or.inr (word hw 12 rfl)) (Or.inr (word hw 39 rfl)) (by decide) (t := .int) (t' := (.array .double)) (by decide) (by decide)))
    have f301 := f300.ext E235
    have f302 := f301.other W241 (Or.inr (Jvm.RoadKit.slot_ne (Or.inr (word hw 12 rfl)) (Or.inr (word hw 42 rfl)) (by decide) (t := .int) (t' := (.array (.array .double))) (by decide) (by decide)))
    have f303 := f302.ext E259
    have f304 := f303.other W265 (Or.inr (Jvm.RoadKit.slot_ne (Or.inr (word hw 12 rfl)) (Or.inr (word hw 44 rfl)) (by decide) (t := .int) (t' := (.array .double)) (by decide) (by decide)))
    have f305 := F116.ext E122
    have f306 := f305.keep K135 (ninS ne145 nin0)
    have f307 := f306.other W137 (Or.inr (Jvm.RoadKit.slot_ne (Or.inl (word hw 16 rfl)) (Or.inr (word hw 31 rfl)) (by decide) (t := (.array .double)) (t' := (.object "com/example/ratewright/ratewright/inference/GradientCorrection$NormalEquations")) (by decide) (by decide)))
    have f308 := f307.ext E148
    have f309 := f308.keep K162 (ninS ne175 nin0)
    have f310 := f309.other W164 (Or.inr (Jvm.RoadKit.slot_ne (Or.inl (word hw 16 rfl)) (Or.inr (word hw 33 rfl)) (by decide) (t := (.array .double)) (t' := (.object "com/example/ratewright/ratewright/inference/GradientCorrection$NormalEquations")) (by decide) (by decide)))
    have f311 := f310.ext E180
    have f312 := f311.other W187 (Or.inr (Jvm.RoadKit.slot_ne (Or.inl (word hw 16 rfl)) (Or.inr (word hw 37 rfl)) (by decide) (t := (.array .double)) (t' := (.array (.array .double))) (by decide) (by decide)))
    have f313 := f312.ext E204
    have f314 := f313.other W210 (Or.inr (Jvm.RoadKit.slot_ne (Or.inl (word hw 16 rfl)) (Or.inr (word hw 39 rfl)) (by decide) (t := (.array .double)) (t' := (.array .double)) (by decide) (by decide)))
    have f315 := f314.ext E235
    have f316 := f315.other W241 (Or.inr (Jvm.RoadKit.slot_ne (Or.inl (word hw 16 rfl)) (Or.inr (word hw 42 rfl)) (by decide) (t := (.array .double)) (t' := (.array (.array .double))) (by decide) (by decide)))
    have f317 := f316.ext E259
    have f318 := f317.other W265 (Or.inr (Jvm.RoadKit.slot_ne (Or.inl (word hw 16 rfl)) (Or.inr (word hw 44 rfl)) (by decide) (t := (.array .double)) (t' := (.array .double)) (by decide) (by decide)))
    have ne320 : a1 ≠ a110 := Nat.ne_of_lt (Nat.lt_of_lt_of_le f120.lt (Nat.le_of_eq g110.symm))
    have f319 := R110.other W116 (Ne.symm ne320)
    have f321 := f319.ext E122
    have ne323 : a110 ≠ a122 := Nat.ne_of_lt (Nat.lt_of_lt_of_le f319.lt (Nat.le_of_eq g122.symm))
    have f322 := f321.keep K135 (ninS ne323 nin0)
    have f324 := f322.other W137 (Ne.symm ne320)
    have f325 := f324.ext E148
    have ne327 : a110 ≠ a148 := Nat.ne_of_lt (Nat.lt_of_lt_of_le f324.lt (Nat.le_of_eq g148.symm))
    have f326 := f325.keep K162 (ninS ne327 nin0)
    have f328 := f326.other W164 (Ne.symm ne320)
    have f329 := f328.ext E180
    have f330 := f329.other W187 (Ne.symm ne320)
    have f331 := f330.ext E204
    have f332 := f331.other W210 (Ne.symm ne320)
    have f333 := f332.ext E235
    have f334 := f333.other W241 (Ne.symm ne320)
    have f335 := f334.ext E259
    have f336 := f335.other W265 (Ne.symm ne320)
    refine Go.retV X265 hx hret hlk (Jvm.hb hby d1_138) (by decide) (by decide) ?_
    rw [e265]
    exact ⟨a110, kk110, rfl, N265, k286, y113, f287, f304, f318, f336⟩
  · -- w2 = 1
    refine Go.iload X210.here hx (Jvm.hb hby d1_117) rfl (q := 119) rfl ?_
    refine Go.aloadN X210.here hx (Jvm.hb hby d1_119) rfl rfl (q := 120) rfl ?_
    have f338 := f161.keep K162 (ninS ne175 nin0)
    have f339 := f338.other W164 (Or.inr (Jvm.RoadKit.slot_ne (Or.inr (word hw 14 rfl)) (Or.inr (word hw 33 rfl)) (by decide) (t := .int) (t' := (.object "com/example/ratewright/ratewright/inference/GradientCorrection$NormalEquations")) (by decide) (by decide)))
    have f340 := f339.ext E180
    have f341 := f340.other W187 (Or.inr (Jvm.RoadKit.slot_ne (Or.inr (word hw 14 rfl)) (Or.inr (word hw 37 rfl)) (by decide) (t := .int) (t' := (.array (.array .double))) (by decide) (by decide)))
    have f342 := f341.ext E204
    have f343 := f342.other W210 (Or.inr (Jvm.RoadKit.slot_ne (Or.inr (word hw 14 rfl)) (Or.inr (word hw 39 rfl)) (by decide) (t := .int) (t' := (.array .double)) (by decide) (by decide)))
    refine Go.getf X210 hx hZ hown (word hw 13 rfl) e210 f343 (Jvm.hb hby d1_120) (q := 123) rfl ?_
    intro T337 X337 e337
    refine Go.grid X337 hx hZ hown (ty := .double) (C := "[D") (by decide) (by decide) (word hw 40 rfl) (word hw 35 rfl) (word hw 0 rfl) e337 (Jvm.hb hby d1_123) (by decide) (by decide) (N := 1) (by decide) (K := 8) (by decide) (by decide) (by decide) rfl rfl (by decide) (by decide) (q := 127) rfl ?_
    intro T344 h344 a344 g344 X344 e344 E344 A344
    have z345 : n0 ≤ h204.size := Nat.le_trans z206 E204.1
    have z346 : n0 ≤ h210.size := Nat.le_trans z345 (Nat.le_of_eq W210.size.symm)
    have r347 : n0 ≤ a344 := Nat.le_trans z346 (Nat.le_of_eq g344.symm)
    have k348 : Keep h0 h204 [a1] := k209.ext E204
    have k349 : Keep h0 h210 [a1] := k348.wr W210 (Or.inl (List.mem_of_getElem? (i := 0) rfl))
    have y347 : h0.size ≤ a344 := Nat.le_trans k349.1 (Nat.le_of_eq g344.symm)
    have f351 := F8.other W104 (Or.inr (Jvm.RoadKit.slot_ne (Or.inr (word hw 42 rfl)) (Or.inr (word hw 12 rfl)) (by decide) (t := (.array (.array .double))) (t' := .int) (by decide) (by decide)))
    have f352 := f351.other W107 (Or.inr (Jvm.RoadKit.slot_ne (Or.inr (word hw 42 rfl)) (Or.inr (word hw 14 rfl)) (by decide) (t := (.array (.array .double))) (t' := .int) (by decide) (by decide)))
    have f353 := f352.ext E110
    have f354 := f353.other W116 (Or.inr (Jvm.RoadKit.slot_ne (Or.inr (word hw 42 rfl)) (Or.inl (word hw 16 rfl)) (by decide) (t := (.array (.array .double))) (t' := (.array .double)) (by decide) (by decide)))
    have f355 := f354.ext E122
    have f356 := f355.keep K135 (ninS ne145 nin0)
    have f357 := f356.other W137 (Or.inr (Jvm.RoadKit.slot_ne (Or.inr (word hw 42 rfl)) (Or.inr (word hw 31 rfl)) (by decide) (t := (.array (.array .double))) (t' := (.object "com/example/ratewright/ratewright/inference/GradientCorrection$NormalEquations")) (by decide) (by decide)))
    have f358 := f357.ext E148
    have f359 := f358.keep K162 (ninS ne175 nin0)
    have f360 := f359.other W164 (Or.inr (Jvm.RoadKit.slot_ne (Or.inr (word hw 42 rfl)) (Or.inr (word hw 33 rfl)) (by decide) (t := (.array (.array .double))) (t' := (.object "com/example/ratewright/ratewright/inference/GradientCorrection$NormalEquations")) (by decide) (by decide)))
    have f361 := f360.ext E180
    have f362 := f361.other W187 (Or.inr (Jvm.RoadKit.slot_ne (Or.inr (word hw 42 rfl)) (Or.inr (word hw 37 rfl)) (by decide) (t := (.array (.array .double))) (t' := (.array (.array .double))) (by decide) (by decide)))
    have f363 := f362.ext E204
    have f364 := f363.other W210 (Or.inr (Jvm.RoadKit.slot_ne (Or.inr (word hw 42 rfl)) (Or.inr (word hw 39 rfl)) (by decide) (t := (.array (.array .double))) (t' := (.array .double)) (by decide) (by decide)))
    have f365 := f364.ext E344
    have f366 := f225.wr W210
    have f367 := f366.ext E344
    refine Go.putf X344 hx hZ hown (word hw 41 rfl) e344 f365 f367 (Or.inr ⟨(word hw 42 rfl), rfl, hnm⟩) (word hw 3 rfl) (ty := (.array (.array .double))) (by decide) rfl rfl (Jvm.hb hby d1_127) (q := 130) rfl ?_
    intro T350 h350 X350 e350 W350
    have N350 := Fr.snoc X350 N210 g1
    have F350 := f365.same W350
    refine Go.aloadN X350.here hx (Jvm.hb hby d1_130) rfl rfl (q := 131) rfl ?_
    refine Go.iload X350.here hx (Jvm.hb hby d1_131) rfl (q := 133) rfl ?_
    refine Go.newarr X350 hx hZ (aty := .double) (word hw 0 rfl) e350 (Jvm.hb hby d1_133) (by decide) (k := 1) (by decide) (by decide) (by decide) (by decide) (ad := "[D") (by decide) (q := 135) rfl ?_
    intro T368 h368 a368 kk368 g368 X368 e368 E368 R368 A368
    have z369 : n0 ≤ h344.size := Nat.le_trans z346 E344.1
    have z370 : n0 ≤ h350.size := Nat.le_trans z369 (Nat.le_of_eq W350.size.symm)
    have r371 : n0 ≤ a368 := Nat.le_trans z370 (Nat.le_of_eq g368.symm)
    have k372 : Keep h0 h344 [a1] := k349.ext E344
    have k373 : Keep h0 h350 [a1] := k372.wr W350 (Or.inl (List.mem_of_getElem? (i := 0) rfl))
    have y371 : h0.size ≤ a368 := Nat.le_trans k373.1 (Nat.le_of_eq g368.symm)
    have R368 : Row Z h368 a368 .double kk368 [(.double (0 : UInt64))] := R368
    have f375 := F9.other W104 (Or.inr (Jvm.RoadKit.slot_ne (Or.inr (word hw 44 rfl)) (Or.inr (word hw 12 rfl)) (by decide) (t := (.array .double)) (t' := .int) (by decide) (by decide)))
    have f376 := f375.other W107 (Or.inr (Jvm.RoadKit.slot_ne (Or.inr (word hw 44 rfl)) (Or.inr (word hw 14 rfl)) (by decide) (t := (.array .double)) (t' := .int) (by decide) (by decide)))
    have f377 := f376.ext E110
    have f378 := f377.other W116 (Or.inr (Jvm.RoadKit.slot_ne (Or.inr (word hw 44 rfl)) (Or.inl (word hw 16 rfl)) (by decide) (t := (.array .double)) (t' := (.array .double)) (by decide) (by decide)))
    have f379 := f378.ext E122
    have f380 := f379.keep K135 (ninS ne145 nin0)
    have f381 := f380.other W137 (Or.inr (Jvm.RoadKit.slot_ne (Or.inr (word hw 44 rfl)) (Or.inr (word hw 31 rfl)) (by decide) (t := (.array .double)) (t' := (.object "com/example/ratewright/ratewright/inference/GradientCorrection$NormalEquations")) (by decide) (by decide)))
    have f382 := f381.ext E148
    have f383 := f382.keep K162 (ninS ne175 nin0)
    have f384 := f383.other W164 (Or.inr (Jvm.RoadKit.slot_ne (Or.inr (word hw 44 rfl)) (Or.inr (word hw 33 rfl)) (by decide) (t := (.array .double)) (t' := (.object "com/example/ratewright/ratewright/inference/GradientCorrection$NormalEquations")) (by decide) (by decide)))
    have f385 := f384.ext E180
    have f386 := f385.other W187 (Or.inr (Jvm.RoadKit.slot_ne (Or.inr (word hw 44 rfl)) (Or.inr (word hw 37 rfl)) (by decide) (t := (.array .double)) (t' := (.array (.array .double))) (by decide) (by decide)))
    have f387 := f386.ext E204
    have f388 := f387.other W210 (Or.inr (Jvm.RoadKit.slot_ne (Or.inr (word hw 44 rfl)) (Or.inr (word hw 39 rfl)) (by decide) (t := (.array .double)) (t' := (.array .double)) (by decide) (by decide)))
    have f389 := f388.ext E344
    have f390 := f389.other W350 (Or.inr (Jvm.RoadKit.slot_ne (Or.inr (word hw 44 rfl)) (Or.inr (word hw 42 rfl)) (by decide) (t := (.array .double)) (t' := (.array (.array .double))) (by decide) (by decide)))
    have f391 := f390.ext E368
    have f392 := f367.wr W350
    have f393 := f392.ext E368
    refine Go.putf X368 hx hZ hown (word hw 43 rfl) e368 f391 f393 (Or.inr ⟨(word hw 44 rfl), rfl, hnm⟩) (word hw 3 rfl) (ty := (.array .double)) (by decide) rfl rfl (Jvm.hb hby d1_135) (q := 138) rfl ?_
    intro T374 h374 X374 e374 W374
    have N374 := Fr.snoc X374 N350 g1
    have F374 := f391.same W374
    have k394 : Keep h0 h368 [a1] := k373.ext E368
    have k395 : Keep h0 h374 [a1] := k394.wr W374 (Or.inl (List.mem_of_getElem? (i := 0) rfl))
    have f396 := f393.wr W374
    have f397 := F104.other W107 (Or.inr (Jvm.RoadKit.slot_ne (Or.inr (word hw 12 rfl)) (Or.inr (word hw 14 rfl)) (by decide) (t := .int) (t' := .int) (by decide) (by decide)))
    have f398 := f397.ext E110
    have f399 := f398.other W116 (Or.inr (Jvm.RoadKit.slot_ne (Or.inr (word hw 12 rfl)) (Or.inl (word hw 16 rfl)) (by decide) (t := .int) (t' := (.array .double)) (by decide) (by decide)))
    have f400 := f399.ext E122
    have f401 := f400.keep K135 (ninS ne145 nin0)
    have f402 := f401.other W137 (Or.inr (Jvm.RoadKit.slot_ne (Or.inr (word hw 12 rfl)) (Or.inr (word hw 31 rfl)) (by decide) (t := .int) (t' := (.object "com/example/ratewright/ratewright/inference/GradientCorrection$NormalEquations")) (by decide) (by decide)))
    have f403 := f402.ext E148
    have f404 := f403.keep K162 (ninS ne175 nin0)
    have f405 := f404.other W164 (Or.inr (Jvm.RoadKit.slot_ne (Or.inr (word hw 12 rfl)) (Or.inr (word hw 33 rfl)) (by decide) (t := .int) (t' := (.object "com/example/ratewright/ratewright/inference/GradientCorrection$NormalEquations")) (by decide) (by decide)))
    have f406 := f405.ext E180
    have f407 := f406.other W187 (Or.inr (Jvm.RoadKit.slot_ne (Or.inr (word hw 12 rfl)) (Or.inr (word hw 37 rfl)) (by decide) (t := .int) (t' := (.array (.array .double))) (by decide) (by decide)))
    have f408 := f407.ext E204
    have f409 := f408.other W210 (Or.inr (Jvm.RoadKit.slot_ne (Or.inr (word hw 12 rfl)) (Or.inr (word hw 39 rfl)) (by decide) (t := .int) (t' := (.array .double)) (by decide) (by decide)))
    have f410 := f409.ext E344
    have f411 := f410.other W350 (Or.inr (Jvm.RoadKit.slot_ne (Or.inr (word hw 12 rfl)) (Or.inr (word hw 42 rfl)) (by decide) (t := .int) (t' := (.array (.array .double))) (by decide) (by decide)))
    have f412 := f411.ext E368
    have f413 := f412.other W374 (Or.inr (Jvm.RoadKit.slot_ne (Or.inr (word hw 12 rfl)) (Or.inr (word hw 44 rfl)) (by decide) (t := .int) (t' := (.array .double)) (by decide) (by decide)))
    have f414 := F116.ext E122
    have f415 := f414.keep K135 (ninS ne145 nin0)
    have f416 := f415.other W137 (Or.inr (Jvm.RoadKit.slot_ne (Or.inl (word hw 16 rfl)) (Or.inr (word hw 31 rfl)) (by decide) (t := (.array .double)) (t' := (.object "com/example/ratewright/ratewright/inference/GradientCorrection$NormalEquations")) (by decide) (by decide)))
    have f417 := f416.ext E148
    have f418 := f417.keep K162 (ninS ne175 nin0)
    have f419 := f418.other W164 (Or.inr (Jvm.RoadKit.slot_ne (Or.inl (word hw 16 rfl)) (Or.inr (word hw 33 rfl)) (by decide) (t := (.array .double)) (t' := (.object "com/example/ratewright/ratewright/inference/GradientCorrection$NormalEquations")) (by decide) (by decide)))
    have f420 := f419.ext E180
    have f421 := f420.other W187 (Or.inr (Jvm.RoadKit.slot_ne (Or.inl (word hw 16 rfl)) (Or.inr (word hw 37 rfl)) (by decide) (t := (.array .double)) (t' := (.array (.array .double))) (by decide) (by decide)))
    have f422 := f421.ext E204
    have f423 := f422.other W210 (Or.inr (Jvm.RoadKit.slot_ne (Or.inl (word hw 16 rfl)) (Or.inr (word hw 39 rfl)) (by decide) (t := (.array .double)) (t' := (.array .double)) (by decide) (by decide)))
    have f424 := f423.ext E344
    have f425 := f424.other W350 (Or.inr (Jvm.RoadKit.slot_ne (Or.inl (word hw 16 rfl)) (Or.inr (word hw 42 rfl)) (by decide) (t := (.array .double)) (t' := (.array (.array .double))) (by decide) (by decide)))
    have f426 := f425.ext E368
    have f427 := f426.other W374 (Or.inr (Jvm.RoadKit.slot_ne (Or.inl (word hw 16 rfl)) (Or.inr (word hw 44 rfl)) (by decide) (t := (.array .double)) (t' := (.array .double)) (by decide) (by decide)))
    have ne429 : a1 ≠ a110 := Nat.ne_of_lt (Nat.lt_of_lt_of_le f120.lt (Nat.le_of_eq g110.symm))
    have f428 := R110.other W116 (Ne.symm ne429)
    have f430 := f428.ext E122
    have ne432 : a110 ≠ a122 := Nat.ne_of_lt (Nat.lt_of_lt_of_le f428.lt (Nat.le_of_eq g122.symm))
    have f431 := f430.keep K135 (ninS ne432 nin0)
    have f433 := f431.other W137 (Ne.symm ne429)
    have f434 := f433.ext E148
    have ne436 : a110 ≠ a148 := Nat.ne_of_lt (Nat.lt_of_lt_of_le f433.lt (Nat.le_of_eq g148.symm))
    have f435 := f434.keep K162 (ninS ne436 nin0)
    have f437 := f435.other W164 (Ne.symm ne429)
    have f438 := f437.ext E180
    have f439 := f438.other W187 (Ne.symm ne429)
    have f440 := f439.ext E204
    have f441 := f440.other W210 (Ne.symm ne429)
    have f442 := f441.ext E344
    have f443 := f442.other W350 (Ne.symm ne429)
    have f444 := f443.ext E368
    have f445 := f444.other W374 (Ne.symm ne429)
    refine Go.retV X374 hx hret hlk (Jvm.hb hby d1_138) (by decide) (by decide) ?_
    rw [e374]
    exact ⟨a110, kk110, rfl, N374, k395, y113, f396, f413, f427, f445⟩
  · -- w2 = 2
    refine Go.iload X210.here hx (Jvm.hb hby d1_117) rfl (q := 119) rfl ?_
    refine Go.aloadN X210.here hx (Jvm.hb hby d1_119) rfl rfl (q := 120) rfl ?_
    have f447 := f161.keep K162 (ninS ne175 nin0)
    have f448 := f447.other W164 (Or.inr (Jvm.RoadKit.slot_ne (Or.inr (word hw 14 rfl)) (Or.inr (word hw 33 rfl)) (by decide) (t := .int) (t' := (.object "com/example/ratewright/ratewright/inference/GradientCorrection$NormalEquations")) (by decide) (by decide)))
    have f449 := f448.ext E180
    have f450 := f449.other W187 (Or.inr (Jvm.RoadKit.slot_ne (Or.inr (word hw 14 rfl)) (Or.inr (word hw 37 rfl)) (by decide) (t := .int) (t' := (.array (.array .double))) (by decide) (by decide)))
    have f451 := f450.ext E204
    have f452 := f451.other W210 (Or.inr (Jvm.RoadKit.slot_ne (Or.inr (word hw 14 rfl)) (Or.inr (word hw 39 rfl)) (by decide) (t := .int) (t' := (.array .double)) (by decide) (by decide)))
    refine Go.getf X210 hx hZ hown (word hw 13 rfl) e210 f452 (Jvm.hb hby d1_120) (q := 123) rfl ?_
    intro T446 X446 e446
    refine Go.grid X446 hx hZ hown (ty := .double) (C := "[D") (by decide) (by decide) (word hw 40 rfl) (word hw 35 rfl) (word hw 0 rfl) e446 (Jvm.hb hby d1_123) (by decide) (by decide) (N := 2) (by decide) (K := 8) (by decide) (by decide) (by decide) rfl rfl (by decide) (by decide) (q := 127) rfl ?_
    intro T453 h453 a453 g453 X453 e453 E453 A453
    have z454 : n0 ≤ h204.size := Nat.le_trans z206 E204.1
    have z455 : n0 ≤ h210.size := Nat.le_trans z454 (Nat.le_of_eq W210.size.symm)
    have r456 : n0 ≤ a453 := Nat.le_trans z455 (Nat.le_of_eq g453.symm)
    have k457 : Keep h0 h204 [a1] := k209.ext E204
    have k458 : Keep h0 h210 [a1] := k457.wr W210 (Or.inl (List.mem_of_getElem? (i := 0) rfl))
    have y456 : h0.size ≤ a453 := Nat.le_trans k458.1 (Nat.le_of_eq g453.symm)
    have f460 := F8.other W104 (Or.inr (Jvm.RoadKit.slot_ne (Or.inr (word hw 42 rfl)) (Or.inr (word hw 12 rfl)) (by decide) (t := (.array (.array .double))) (t' := .int) (by decide) (by decide)))
    have f461 := f460.other W107 (Or.inr (Jvm.RoadKit.slot_ne (Or.inr (word hw 42 rfl)) (Or.inr (word hw 14 rfl)) (by decide) (t := (.array (.array .double))) (t' := .int) (by decide) (by decide)))
    have f462 := f461.ext E110
    have f463 := f462.other W116 (Or.inr (Jvm.RoadKit.slot_ne (Or.inr (word hw 42 rfl)) (Or.inl (word hw 16 rfl)) (by decide) (t := (.array (.array .double))) (t' := (.array .double)) (by decide) (by decide)))
    have f464 := f463.ext E122
    have f465 := f464.keep K135 (ninS ne145 nin0)
    have f466 := f465.other W137 (Or.inr (Jvm.RoadKit.slot_ne (Or.inr (word hw 42 rfl)) (Or.inr (word hw 31 rfl)) (by decide) (t := (.array (.array .double))) (t' := (.object "com/example/ratewright/ratewright/inference/GradientCorrection$NormalEquations")) (by decide) (by decide)))
    have f467 := f466.ext E148
    have f468 := f467.keep K162 (ninS ne175 nin0)
    have f469 := f468.other W164 (Or.inr (Jvm.RoadKit.slot_ne (Or.inr (word hw 42 rfl)) (Or.inr (word hw 33 rfl)) (by decide) (t := (.array (.array .double))) (t' := (.object "com/example/ratewright/ratewright/inference/GradientCorrection$NormalEquations")) (by decide) (by decide)))
    have f470 := f469.ext E180
    have f471 := f470.other W187 (Or.inr (Jvm.RoadKit.slot_ne (Or.inr (word hw 42 rfl)) (Or.inr (word hw 37 rfl)) (by decide) (t := (.array (.array .double))) (t' := (.array (.array .double))) (by decide) (by decide)))
    have f472 := f471.ext E204
    have f473 := f472.other W210 (Or.inr (Jvm.RoadKit.slot_ne (Or.inr (word hw 42 rfl)) (Or.inr (word hw 39 rfl)) (by decide) (t := (.array (.array .double))) (t' := (.array .double)) (by decide) (by decide)))
    have f474 := f473.ext E453
    have f475 := f225.wr W210
    have f476 := f475.ext E453
    refine Go.putf X453 hx hZ hown (word hw 41 rfl) e453 f474 f476 (Or.inr ⟨(word hw 42 rfl), rfl, hnm⟩) (word hw 3 rfl) (ty := (.array (.array .double))) (by decide) rfl rfl (Jvm.hb hby d1_127) (q := 130) rfl ?_
    intro T459 h459 X459 e459 W459
    have N459 := Fr.snoc X459 N210 g1
    have F459 := f474.same W459
    refine Go.aloadN X459.here hx (Jvm.hb hby d1_130) rfl rfl (q := 131) rfl ?_
    refine Go.iload X459.here hx (Jvm.hb hby d1_131) rfl (q := 133) rfl ?_
    refine Go.newarr X459 hx hZ (aty := .double) (word hw 0 rfl) e459 (Jvm.hb hby d1_133) (by decide) (k := 2) (by decide) (by decide) (by decide) (by decide) (ad := "[D") (by decide) (q := 135) rfl ?_
    intro T477 h477 a477 kk477 g477 X477 e477 E477 R477 A477
    have z478 : n0 ≤ h453.size := Nat.le_trans z455 E453.1
    have z479 : n0 ≤ h459.size := Nat.le_trans z478 (Nat.le_of_eq W459.size.symm)
    have r480 : n0 ≤ a477 := Nat.le_trans z479 (Nat.le_of_eq g477.symm)
    have k481 : Keep h0 h453 [a1] := k458.ext E453
    have k482 : Keep h0 h459 [a1] := k481.wr W459 (Or.inl (List.mem_of_getElem? (i := 0) rfl))
    have y480 : h0.size ≤ a477 := Nat.le_trans k482.1 (Nat.le_of_eq g477.symm)
    have R477 : Row Z h477 a477 .double kk477 [(.double (0 : UInt64)), (.double (0 : UInt64))] := R477
    have f484 := F9.other W104 (Or.inr (Jvm.RoadKit.slot_ne (Or.inr (word hw 44 rfl)) (Or.inr (word hw 12 rfl)) (by decide) (t := (.array .double)) (t' := .int) (by decide) (by decide)))
    have f485 := f484.other W107 (Or.inr (Jvm.RoadKit.slot_ne (Or.inr (word hw 44 rfl)) (Or.inr (word hw 14 rfl)) (by decide) (t := (.array .double)) (t' := .int) (by decide) (by decide)))
    have f486 := f485.ext E110
    have f487 := f486.other W116 (Or.inr (Jvm.RoadKit.slot_ne (Or.inr (word hw 44 rfl)) (Or.inl (word hw 16 rfl)) (by decide) (t := (.array .double)) (t' := (.array .double)) (by decide) (by decide)))
    have f488 := f487.ext E122
    have f489 := f488.keep K135 (ninS ne145 nin0)
    have f490 := f489.other W137 (Or.inr (Jvm.RoadKit.slot_ne (Or.inr (word hw 44 rfl)) (Or.inr (word hw 31 rfl)) (by decide) (t := (.array .double)) (t' := (.object "com/example/ratewright/ratewright/inference/GradientCorrection$NormalEquations")) (by decide) (by decide)))
    have f491 := f490.ext E148
    have f492 := f491.keep K162 (ninS ne175 nin0)
    have f493 := f492.other W164 (Or.inr (Jvm.RoadKit.slot_ne (Or.inr (word hw 44 rfl)) (Or.inr (word hw 33 rfl)) (by decide) (t := (.array .double)) (t' := (.object "com/example/ratewright/ratewright/inference/GradientCorrection$NormalEquations")) (by decide) (by decide)))
    have f494 := f493.ext E180
    have f495 := f494.other W187 (Or.inr (Jvm.RoadKit.slot_ne (Or.inr (word hw 44 rfl)) (Or.inr (word hw 37 rfl)) (by decide) (t := (.array .double)) (t' := (.array (.array .double))) (by decide) (by decide)))
    have f496 := f495.ext E204
    have f497 := f496.other W210 (Or.inr (Jvm.RoadKit.slot_ne (Or.inr (word hw 44 rfl)) (Or.inr (word hw 39 rfl)) (by decide) (t := (.array .double)) (t' := (.array .double)) (by decide) (by decide)))
    have f498 := f497.ext E453
    have f499 := f498.other W459 (Or.inr (Jvm.RoadKit.slot_ne (Or.inr (word hw 44 rfl)) (Or.inr (word hw 42 rfl)) (by decide) (t := (.array .double)) (t' := (.array (.array .double))) (by decide) (by decide)))
    have f500 := f499.ext E477
    have f501 := f476.wr W459
    have f502 := f501.ext E477
    refine Go.putf X477 hx hZ hown (word hw 43 rfl) e477 f500 f502 (Or.inr ⟨(word hw 44 rfl), rfl, hnm⟩) (word hw 3 rfl) (ty := (.array .double)) (by decide) rfl rfl (Jvm.hb hby d1_135) (q := 138) rfl ?_
    intro T483 h483 X483 e483 W483
    have N483 := Fr.snoc X483 N459 g1
    have F483 := f500.same W483
    have k503 : Keep h0 h477 [a1] := k482.ext E477
    have k504 : Keep h0 h483 [a1] := k503.wr W483 (Or.inl (List.mem_of_getElem? (i := 0) rfl))
    have f505 := f502.wr W483
    have f506 := F104.other W107 (Or.inr (Jvm.RoadKit.slot_ne (Or.inr (word hw 12 rfl)) (Or.inr (word hw 14 rfl)) (by decide) (t := .int) (t' := .int) (by decide) (by decide)))
    have f507 := f506.ext E110
    have f508 := f507.other W116 (Or.inr (Jvm.RoadKit.slot_ne (Or.inr (word hw 12 rfl)) (Or.inl (word hw 16 rfl)) (by decide) (t := .int) (t' := (.array .double)) (by decide) (by decide)))
    have f509 := f508.ext E122
    have f510 := f509.keep K135 (ninS ne145 nin0)
    have f511 := f510.other W137 (Or.inr (Jvm.RoadKit.slot_ne (Or.inr (word hw 12 rfl)) (Or.inr (word hw 31 rfl)) (by decide) (t := .int) (t' := (.object "com/example/ratewright/ratewright/inference/GradientCorrection$NormalEquations")) (by decide) (by decide)))
    have f512 := f511.ext E148
    have f513 := f512.keep K162 (ninS ne175 nin0)
    have f514 := f513.other W164 (Or.inr (Jvm.RoadKit.slot_ne (Or.inr (word hw 12 rfl)) (Or.inr (word hw 33 rfl)) (by decide) (t := .int) (t' := (.object "com/example/ratewright/ratewright/inference/GradientCorrection$NormalEquations")) (by decide) (by decide)))
    have f515 := f514.ext E180
    have f516 := f515.other W187 (Or.inr (Jvm.RoadKit.slot_ne (Or.inr (word hw 12 rfl)) (Or.inr (word hw 37 rfl)) (by decide) (t := .int) (t' := (.array (.array .double))) (by decide) (by decide)))
    have f517 := f516.ext E204
    have f518 := f517.other W210 (Or.inr (Jvm.RoadKit.slot_ne (Or.inr (word hw 12 rfl)) (Or.inr (word hw 39 rfl)) (by decide) (t := .int) (t' := (.array .double)) (by decide) (by decide)))
    have f519 := f518.ext E453
    have f520 := f519.other W459 (Or.inr (Jvm.RoadKit.slot_ne (Or.inr (word hw 12 rfl)) (Or.inr (word hw 42 rfl)) (by decide) (t := .int) (t' := (.array (.array .double))) (by decide) (by decide)))
    have f521 := f520.ext E477
    have f522 := f521.other W483 (Or.inr (Jvm.RoadKit.slot_ne (Or.inr (word hw 12 rfl)) (Or.inr (word hw 44 rfl)) (by decide) (t := .int) (t' := (.array .double)) (by decide) (by decide)))
    have f523 := F116.ext E122
    have f524 := f523.keep K135 (ninS ne145 nin0)
    have f525 := f524.other W137 (Or.inr (Jvm.RoadKit.slot_ne (Or.inl (word hw 16 rfl)) (Or.inr (word hw 31 rfl)) (by decide) (t := (.array .double)) (t' := (.object "com/example/ratewright/ratewright/inference/GradientCorrection$NormalEquations")) (by decide) (by decide)))
    have f526 := f525.ext E148
    have f527 := f526.keep K162 (ninS ne175 nin0)
    have f528 := f527.other W164 (Or.inr (Jvm.RoadKit.slot_ne (Or.inl (word hw 16 rfl)) (Or.inr (word hw 33 rfl)) (by decide) (t := (.array .double)) (t' := (.object "com/example/ratewright/ratewright/inference/GradientCorrection$NormalEquations")) (by decide) (by decide)))
    have f529 := f528.ext E180
    have f530 := f529.other W187 (Or.inr (Jvm.RoadKit.slot_ne (Or.inl (word hw 16 rfl)) (Or.inr (word hw 37 rfl)) (by decide) (t := (.array .double)) (t' := (.array (.array .double))) (by decide) (by decide)))
    have f531 := f530.ext E204
    have f532 := f531.other W210 (Or.inr (Jvm.RoadKit.slot_ne (Or.inl (word hw 16 rfl)) (Or.inr (word hw 39 rfl)) (by decide) (t := (.array .double)) (t' := (.array .double)) (by decide) (by decide)))
    have f533 := f532.ext E453
    have f534 := f533.other W459 (Or.inr (Jvm.RoadKit.slot_ne (Or.inl (word hw 16 rfl)) (Or.inr (word hw 42 rfl)) (by decide) (t := (.array .double)) (t' := (.array (.array .double))) (by decide) (by decide)))
    have f535 := f534.ext E477
    have f536 := f535.other W483 (Or.inr (Jvm.RoadKit.slot_ne (Or.inl (word hw 16 rfl)) (Or.inr (word hw 44 rfl)) (by decide) (t := (.array .double)) (t' := (.array .double)) (by decide) (by decide)))
    have ne538 : a1 ≠ a110 := Nat.ne_of_lt (Nat.lt_of_lt_of_le f120.lt (Nat.le_of_eq g110.symm))
    have f537 := R110.other W116 (Ne.symm ne538)
    have f539 := f537.ext E122
    have ne541 : a110 ≠ a122 := Nat.ne_of_lt (Nat.lt_of_lt_of_le f537.lt (Nat.le_of_eq g122.symm))
    have f540 := f539.keep K135 (ninS ne541 nin0)
    have f542 := f540.other W137 (Ne.symm ne538)
    have f543 := f542.ext E148
    have ne545 : a110 ≠ a148 := Nat.ne_of_lt (Nat.lt_of_lt_of_le f542.lt (Nat.le_of_eq g148.symm))
    have f544 := f543.keep K162 (ninS ne545 nin0)
    have f546 := f544.other W164 (Ne.symm ne538)
    have f547 := f546.ext E180
    have f548 := f547.other W187 (Ne.symm ne538)
    have f549 := f548.ext E204
    have f550 := f549.other W210 (Ne.symm ne538)
    have f551 := f550.ext E453
    have f552 := f551.other W459 (Ne.symm ne538)
    have f553 := f552.ext E477
    have f554 := f553.other W483 (Ne.symm ne538)
    refine Go.retV X483 hx hret hlk (Jvm.hb hby d1_138) (by decide) (by decide) ?_
    rw [e483]
    exact ⟨a110, kk110, rfl, N483, k504, y113, f505, f522, f536, f554⟩
  · -- w2 = 3
    refine Go.iload X210.here hx (Jvm.hb hby d1_117) rfl (q := 119) rfl ?_
    refine Go.aloadN X210.here hx (Jvm.hb hby d1_119) rfl rfl (q := 120) rfl ?_
    have f556 := f161.keep K162 (ninS ne175 nin0)
    have f557 := f556.other W164 (Or.inr (Jvm.RoadKit.slot_ne (Or.inr (word hw 14 rfl)) (Or.inr (word hw 33 rfl)) (by decide) (t := .int) (t' := (.object "com/example/ratewright/ratewright/inference/GradientCorrection$NormalEquations")) (by decide) (by decide)))
    have f558 := f557.ext E180
    have f559 := f558.other W187 (Or.inr (Jvm.RoadKit.slot_ne (Or.inr (word hw 14 rfl)) (Or.inr (word hw 37 rfl)) (by decide) (t := .int) (t' := (.array (.array .double))) (by decide) (by decide)))
    have f560 := f559.ext E204
    have f561 := f560.other W210 (Or.inr (Jvm.RoadKit.slot_ne (Or.inr (word hw 14 rfl)) (Or.inr (word hw 39 rfl)) (by decide) (t := .int) (t' := (.array .double)) (by decide) (by decide)))
    refine Go.getf X210 hx hZ hown (word hw 13 rfl) e210 f561 (Jvm.hb hby d1_120) (q := 123) rfl ?_
    intro T555 X555 e555
    refine Go.grid X555 hx hZ hown (ty := .double) (C := "[D") (by decide) (by decide) (word hw 40 rfl) (word hw 35 rfl) (word hw 0 rfl) e555 (Jvm.hb hby d1_123) (by decide) (by decide) (N := 3) (by decide) (K := 8) (by decide) (by decide) (by decide) rfl rfl (by decide) (by decide) (q := 127) rfl ?_
    intro T562 h562 a562 g562 X562 e562 E562 A562
    have z563 : n0 ≤ h204.size := Nat.le_trans z206 E204.1
    have z564 : n0 ≤ h210.size := Nat.le_trans z563 (Nat.le_of_eq W210.size.symm)
    have r565 : n0 ≤ a562 := Nat.le_trans z564 (Nat.le_of_eq g562.symm)
    have k566 : Keep h0 h204 [a1] := k209.ext E204
    have k567 : Keep h0 h210 [a1] := k566.wr W210 (Or.inl (List.mem_of_getElem? (i := 0) rfl))
    have y565 : h0.size ≤ a562 := Nat.le_trans k567.1 (Nat.le_of_eq g562.symm)
    have f569 := F8.other W104 (Or.inr (Jvm.RoadKit.slot_ne (Or.inr (word hw 42 rfl)) (Or.inr (word hw 12 rfl)) (by decide) (t := (.array (.array .double))) (t' := .int) (by decide) (by decide)))
    have f570 := f569.other W107 (Or.inr (Jvm.RoadKit.slot_ne (Or.inr (word hw 42 rfl)) (Or.inr (word hw 14 rfl)) (by decide) (t := (.array (.array .double))) (t' := .int) (by decide) (by decide)))
    have f571 := f570.ext E110
    have f572 := f571.other W116 (Or.inr (Jvm.RoadKit.slot_ne (Or.inr (word hw 42 rfl)) (Or.inl (word hw 16 rfl)) (by decide) (t := (.array (.array .double))) (t' := (.array .double)) (by decide) (by decide)))
    have f573 := f572.ext E122
    have f574 := f573.keep K135 (ninS ne145 nin0)
    have f575 := f574.other W137 (Or.inr (Jvm.RoadKit.slot_ne (Or.inr (word hw 42 rfl)) (Or.inr (word hw 31 rfl)) (by decide) (t := (.array (.array .double))) (t' := (.object "com/example/ratewright/ratewright/inference/GradientCorrection$NormalEquations")) (by decide) (by decide)))
    have f576 := f575.ext E148
    have f577 := f576.keep K162 (ninS ne175 nin0)
    have f578 := f577.other W164 (Or.inr (Jvm.RoadKit.slot_ne (Or.inr (word hw 42 rfl)) (Or.inr (word hw 33 rfl)) (by decide) (t := (.array (.array .double))) (t' := (.object "com/example/ratewright/ratewright/inference/GradientCorrection$NormalEquations")) (by decide) (by decide)))
    have f579 := f578.ext E180
    have f580 := f579.other W187 (Or.inr (Jvm.RoadKit.slot_ne (Or.inr (word hw 42 rfl)) (Or.inr (word hw 37 rfl)) (by decide) (t := (.array (.array .double))) (t' := (.array (.array .double))) (by decide) (by decide)))
    have f581 := f580.ext E204
    have f582 := f581.other W210 (Or.inr (Jvm.RoadKit.slot_ne (Or.inr (word hw 42 rfl)) (Or.inr (word hw 39 rfl)) (by decide) (t := (.array (.array .double))) (t' := (.array .double)) (by decide) (by decide)))
    have f583 := f582.ext E562
    have f584 := f225.wr W210
    have f585 := f584.ext E562
    refine Go.putf X562 hx hZ hown (word hw 41 rfl) e562 f583 f585 (Or.inr ⟨(word hw 42 rfl), rfl, hnm⟩) (word hw 3 rfl) (ty := (.array (.array .double))) (by decide) rfl rfl (Jvm.hb hby d1_127) (q := 130) rfl ?_
    intro T568 h568 X568 e568 W568
    have N568 := Fr.snoc X568 N210 g1
    have F568 := f583.same W568
    refine Go.aloadN X568.here hx (Jvm.hb hby d1_130) rfl rfl (q := 131) rfl ?_
    refine Go.iload X568.here hx (Jvm.hb hby d1_131) rfl (q := 133) rfl ?_
    refine Go.newarr X568 hx hZ (aty := .double) (word hw 0 rfl) e568 (Jvm.hb hby d1_133) (by decide) (k := 3) (by decide) (by decide) (by decide) (by decide) (ad := "[D") (by decide) (q := 135) rfl ?_
    intro T586 h586 a586 kk586 g586 X586 e586 E586 R586 A586
    have z587 : n0 ≤ h562.size := Nat.le_trans z564 E562.1
    have z588 : n0 ≤ h568.size := Nat.le_trans z587 (Nat.le_of_eq W568.size.symm)
    have r589 : n0 ≤ a586 := Nat.le_trans z588 (Nat.le_of_eq g586.symm)
    have k590 : Keep h0 h562 [a1] := k567.ext E562
    have k591 : Keep h0 h568 [a1] := k590.wr W568 (Or.inl (List.mem_of_getElem? (i := 0) rfl))
    have y589 : h0.size ≤ a586 := Nat.le_trans k591.1 (Nat.le_of_eq g586.symm)
    have R586 : Row Z h586 a586 .double kk586 [(.double (0 : UInt64)), (.double (0 : UInt64)), (.double (0 : UInt64))] := R586
    have f593 := F9.other W104 (Or.inr (Jvm.RoadKit.slot_ne (Or.inr (word hw 44 rfl)) (Or.inr (word hw 12 rfl)) (by decide) (t := (.array .double)) (t' := .int) (by decide) (by decide)))
    have f594 := f593.other W107 (Or.inr (Jvm.RoadKit.slot_ne (Or.inr (word hw 44 rfl)) (Or.inr (word hw 14 rfl)) (by decide) (t := (.array .double)) (t' := .int) (by decide) (by decide)))
    have f595 := f594.ext E110
    have f596 := f595.other W116 (Or.inr (Jvm.RoadKit.slot_ne (Or.inr (word hw 44 rfl)) (Or.inl (word hw 16 rfl)) (by decide) (t := (.array .double)) (t' := (.array .double)) (by decide) (by decide)))
    have f597 := f596.ext E122
    have f598 := f597.keep K135 (ninS ne145 nin0)
    have f599 := f598.other W137 (Or.inr (Jvm.RoadKit.slot_ne (Or.inr (word hw 44 rfl)) (Or.inr (word hw 31 rfl)) (by decide) (t := (.array .double)) (t' := (.object "com/example/ratewright/ratewright/inference/GradientCorrection$NormalEquations")) (by decide) (by decide)))
    have f600 := f599.ext E148
    have f601 := f600.keep K162 (ninS ne175 nin0)
    have f602 := f601.other W164 (Or.inr (Jvm.RoadKit.slot_ne (Or.inr (word hw 44 rfl)) (Or.inr (word hw 33 rfl)) (by decide) (t := (.array .double)) (t' := (.object "com/example/ratewright/ratewright/inference/GradientCorrection$NormalEquations")) (by decide) (by decide)))
    have f603 := f602.ext E180
    have f604 := f603.other W187 (Or.inr (Jvm.RoadKit.slot_ne (Or.inr (word hw 44 rfl)) (Or.inr (word hw 37 rfl)) (by decide) (t := (.array .double)) (t' := (.array (.array .double))) (by decide) (by decide)))
    have f605 := f604.ext E204
    have f606 := f605.other W210 (Or.inr (Jvm.RoadKit.slot_ne (Or.inr (word hw 44 rfl)) (Or.inr (word hw 39 rfl)) (by decide) (t := (.array .double)) (t' := (.array .double)) (by decide) (by decide)))
    have f607 := f606.ext E562
    have f608 := f607.other W568 (Or.inr (Jvm.RoadKit.slot_ne (Or.inr (word hw 44 rfl)) (Or.inr (word hw 42 rfl)) (by decide) (t := (.array .double)) (t' := (.array (.array .double))) (by decide) (by decide)))
    have f609 := f608.ext E586
    have f610 := f585.wr W568
    have f611 := f610.ext E586
    refine Go.putf X586 hx hZ hown (word hw 43 rfl) e586 f609 f611 (Or.inr ⟨(word hw 44 rfl), rfl, hnm⟩) (word hw 3 rfl) (ty := (.array .double)) (by decide) rfl rfl (Jvm.hb hby d1_135) (q := 138) rfl ?_
    intro T592 h592 X592 e592 W592
    have N592 := Fr.snoc X592 N568 g1
    have F592 := f609.same W592
    have k612 : Keep h0 h586 [a1] := k591.ext E586
    have k613 : Keep h0 h592 [a1] := k612.wr W592 (Or.inl (List.mem_of_getElem? (i := 0) rfl))
    have f614 := f611.wr W592
    have f615 := F104.other W107 (Or.inr (Jvm.RoadKit.slot_ne (Or.inr (word hw 12 rfl)) (Or.inr (word hw 14 rfl)) (by decide) (t := .int) (t' := .int) (by decide) (by decide)))
    have f616 := f615.ext E110
    have f617 := f616.other W116 (Or.inr (Jvm.RoadKit.slot_ne (Or.inr (word hw 12 rfl)) (Or.inl (word hw 16 rfl)) (by decide) (t := .int) (t' := (.array .double)) (by decide) (by decide)))
    have f618 := f617.ext E122
    have f619 := f618.keep K135 (ninS ne145 nin0)
    have f620 := f619.other W137 (Or.inr (Jvm.RoadKit.slot_ne (Or.inr (word hw 12 rfl)) (Or.inr (word hw 31 rfl)) (by decide) (t := .int) (t' := (.object "com/example/ratewright/ratewright/inference/GradientCorrection$NormalEquations")) (by decide) (by decide)))
    have f621 := f620.ext E148
    have f622 := f621.keep K162 (ninS ne175 nin0)
    have f623 := f622.other W164 (Or.inr (Jvm.RoadKit.slot_ne (Or.inr (word hw 12 rfl)) (Or.inr (word hw 33 rfl)) (by decide) (t := .int) (t' := (.object "com/example/ratewright/ratewright/inference/GradientCorrection$NormalEquations")) (by decide) (by decide)))
    have f624 := f623.ext E180
    have f625 := f624.other W187 (Or.inr (Jvm.RoadKit.slot_ne (Or.inr (word hw 12 rfl)) (Or.inr (word hw 37 rfl)) (by decide) (t := .int) (t' := (.array (.array .double))) (by decide) (by decide)))
    have f626 := f625.ext E204
    have f627 := f626.other W210 (Or.inr (Jvm.RoadKit.slot_ne (Or.inr (word hw 12 rfl)) (Or.inr (word hw 39 rfl)) (by decide) (t := .int) (t' := (.array .double)) (by decide) (by decide)))
    have f628 := f627.ext E562
    have f629 := f628.other W568 (Or.inr (Jvm.RoadKit.slot_ne (Or.inr (word hw 12 rfl)) (Or.inr (word hw 42 rfl)) (by decide) (t := .int) (t' := (.array (.array .double))) (by decide) (by decide)))
    have f630 := f629.ext E586
    have f631 := f630.other W592 (Or.inr (Jvm.RoadKit.slot_ne (Or.inr (word hw 12 rfl)) (Or.inr (word hw 44 rfl)) (by decide) (t := .int) (t' := (.array .double)) (by decide) (by decide)))
    have f632 := F116.ext E122
    have f633 := f632.keep K135 (ninS ne145 nin0)
    have f634 := f633.other W137 (Or.inr (Jvm.RoadKit.slot_ne (Or.inl (word hw 16 rfl)) (Or.inr (word hw 31 rfl)) (by decide) (t := (.array .double)) (t' := (.object "com/example/ratewright/ratewright/inference/GradientCorrection$NormalEquations")) (by decide) (by decide)))
    have f635 := f634.ext E148
    have f636 := f635.keep K162 (ninS ne175 nin0)
    have f637 := f636.other W164 (Or.inr (Jvm.RoadKit.slot_ne (Or.inl (word hw 16 rfl)) (Or.inr (word hw 33 rfl)) (by decide) (t := (.array .double)) (t' := (.object "com/example/ratewright/ratewright/inference/GradientCorrection$NormalEquations")) (by decide) (by decide)))
    have f638 := f637.ext E180
    have f639 := f638.other W187 (Or.inr (Jvm.RoadKit.slot_ne (Or.inl (word hw 16 rfl)) (Or.inr (word hw 37 rfl)) (by decide) (t := (.array .double)) (t' := (.array (.array .double))) (by decide) (by decide)))
    have f640 := f639.ext E204
    have f641 := f640.other W210 (Or.inr (Jvm.RoadKit.slot_ne (Or.inl (word hw 16 rfl)) (Or.inr (word hw 39 rfl)) (by decide) (t := (.array .double)) (t' := (.array .double)) (by decide) (by decide)))
    have f642 := f641.ext E562
    have f643 := f642.other W568 (Or.inr (Jvm.RoadKit.slot_ne (Or.inl (word hw 16 rfl)) (Or.inr (word hw 42 rfl)) (by decide) (t := (.array .double)) (t' := (.array (.array .double))) (by decide) (by decide)))
    have f644 := f643.ext E586
    have f645 := f644.other W592 (Or.inr (Jvm.RoadKit.slot_ne (Or.inl (word hw 16 rfl)) (Or.inr (word hw 44 rfl)) (by decide) (t := (.array .double)) (t' := (.array .double)) (by decide) (by decide)))
    have ne647 : a1 ≠ a110 := Nat.ne_of_lt (Nat.lt_of_lt_of_le f120.lt (Nat.le_of_eq g110.symm))
    have f646 := R110.other W116 (Ne.symm ne647)
    have f648 := f646.ext E122
    have ne650 : a110 ≠ a122 := Nat.ne_of_lt (Nat.lt_of_lt_of_le f646.lt (Nat.le_of_eq g122.symm))
    have f649 := f648.keep K135 (ninS ne650 nin0)
    have f651 := f649.other W137 (Ne.symm ne647)
    have f652 := f651.ext E148
    have ne654 : a110 ≠ a148 := Nat.ne_of_lt (Nat.lt_of_lt_of_le f651.lt (Nat.le_of_eq g148.symm))
    have f653 := f652.keep K162 (ninS ne654 nin0)
    have f655 := f653.other W164 (Ne.symm ne647)
    have f656 := f655.ext E180
    have f657 := f656.other W187 (Ne.symm ne647)
    have f658 := f657.ext E204
    have f659 := f658.other W210 (Ne.symm ne647)
    have f660 := f659.ext E562
    have f661 := f660.other W568 (Ne.symm ne647)
    have f662 := f661.ext E586
    have f663 := f662.other W592 (Ne.symm ne647)
    refine Go.retV X592 hx hret hlk (Jvm.hb hby d1_138) (by decide) (by decide) ?_
    rw [e592]
    exact ⟨a110, kk110, rfl, N592, k613, y113, f614, f631, f645, f663⟩
set_option maxRecDepth 65536 in
set_option maxHeartbeats 40000000 in
theorem rm_app2 (l : Launch) (Z : State) (a0 : Array Value) (hw : ∀ d ∈ tables_1, d.before a0 Z = true) (a1 : Addr) (ax : Addr) (ag : Addr) (ak : Addr) (ac : Addr) (kx : ClassId) (kg : ClassId) (kk : ClassId) (kc : ClassId) (g0 : UInt64) (g1 : UInt64) (g2 : UInt64) (g3 : UInt64) (g4 : UInt64) (x0 : UInt64) (x1 : UInt64) (x2 : UInt64) (x3 : UInt64) (x4 : UInt64) (c0 : UInt64) (c1 : UInt64) (c2 : UInt64) (c3 : UInt64) (c4 : UInt64) (h0 : Heap) (n0 : Nat) (Z0 : n0 ≤ h0.size) (F1 : Fld Z h0 a1 "com/example/ratewright/ratewright/inference/GradientCorrection" "dimension" "I" (.int (2 : Int32))) (F2 : Fld Z h0 a1 "com/example/ratewright/ratewright/inference/GradientCorrection" "coefficients" "[D" (.ref ac)) (R1 : Row Z h0 ax .double kx [(.double x0), (.double x1), (.double x2), (.double x3), (.double x4)]) (R2 : Row Z h0 ag .double kg [(.double g0), (.double g1), (.double g2), (.double g3), (.double g4)]) (R3 : Row Z h0 ak .double kk [(.double c0), (.double c1), (.double c2), (.double c3), (.double c4)]) (R4 : Row Z h0 ac .double kc [(.double (0 : UInt64)), (.double (0 : UInt64)), (.double (0 : UInt64)), (.double (0 : UInt64)), (.double (0 : UInt64)), (.double (0 : UInt64)), (.double (0 : UInt64)), (.double (0 : UInt64))]) (i1 : ak ≠ ax) (i2 : ak ≠ ag) (i3 : ak ≠ ac) (i4 : ak ≠ a1) (fr1 : n0 ≤ ak) (hn : own_ok g0 x0 ∧ own_ok g1 x1 ∧ True) :
    Con l Z (⟨"com/example/ratewright/ratewright/inference/GradientCorrection", "apply", "([D[D[D)V"⟩ : MethodName) prog_4_method_2_code 9 none ({ frames := 0, cells := 0, slots := 0, locals := 0 } : Room) #[(.ref a1), (.ref ax), (.ref ag), (.ref ak)] h0 (fun vR hR LR => vR = none ∧ Fr n0 LR ∧ Keep h0 hR [ak] ∧ Row Z hR ak .double kk [(.double (own_r g0 x0)), (.double (own_r g1 x1)), (.double c2), (.double c3), (.double c4)]) := by
  refine enter (l := l) (Z := Z) (y := (⟨"com/example/ratewright/ratewright/inference/GradientCorrection", "apply", "([D[D[D)V"⟩ : MethodName)) (bytes := prog_4_method_2_code) (maxL := 9) (ret := none) (ws := []) (rm := ({ frames := 0, cells := 0, slots := 0, locals := 0 } : Room)) (as' := #[(.ref a1), (.ref ax), (.ref ag), (.ref ak)]) (h0 := h0) (Qv := (fun vR hR LR => vR = none ∧ Fr n0 LR ∧ Keep h0 hR [ak] ∧ Row Z hR ak .double kk [(.double (own_r g0 x0)), (.double (own_r g1 x1)), (.double c2), (.double c3), (.double c4)])) (kc := 0) (ks := 0) (by first | exact plainFor_of_name (by first | (simp [plainName, overriddenIn]; done) | decide +kernel) | decide +kernel) (Ls := #[.val (.ref a1), .val (.ref ax), .val (.ref ag), .val (.ref ak), .unset, .unset, .unset, .unset, .unset]) (fun m => by first | (simp [entryFrame, mkF, argsToLocals, Value.category]; done) | rfl) ?_
  intro p e s m below meth c s₁ hx hby hml hown hnm hret hlk hZ X0 e0
  have hown : s.vm.findClass "com/example/ratewright/ratewright/inference/GradientCorrection" = some m.cls := hown
  have hml : c.maxLocals = 9 := hml
  have N0 := Fr.nil n0
  refine Go.iconst X0.here hx (Jvm.hb hby d4_0) (v := (0 : Int32)) rfl (q := 1) rfl ?_
  refine Go.istore X0.here hx (Jvm.hb hby d4_1) (l2 := #[.val (.ref a1), .val (.ref ax), .val (.ref ag), .val (.ref ak), .val (.int (0 : Int32)), .unset, .unset, .unset, .unset]) rfl (q := 3) rfl ?_
  refine Go.iload X0.here hx (Jvm.hb hby d4_3) rfl (q := 5) rfl ?_
  refine Go.aloadN X0.here hx (Jvm.hb hby d4_5) rfl rfl (q := 6) rfl ?_
  refine Go.getf X0 hx hZ hown (word hw 11 rfl) e0 F1 (Jvm.hb hby d4_6) (q := 9) rfl ?_
  intro T101 X101 e101
  have hc9_103 : (0 : Int32) < (2 : Int32) := by decide
  refine Go.icmpN X101.here hx (Jvm.hb hby d4_9) (tlt hc9_103).2.1 (q := 12) rfl ?_
  refine Go.aloadN X101.here hx (Jvm.hb hby d4_12) rfl rfl (q := 13) rfl ?_
  refine Go.iload X101.here hx (Jvm.hb hby d4_13) rfl (q := 15) rfl ?_
  refine Go.daload X101 hx hZ e101 R2 (Jvm.hb hby d4_15) (i := 0) (by decide) (by decide) rfl (q := 16) rfl ?_
  refine Go.dstore X101.here hx (Jvm.hb hby d4_16) (l2 := #[.val (.ref a1), .val (.ref ax), .val (.ref ag), .val (.ref ak), .val (.int (0 : Int32)), .val (.double g0), .second, .unset, .unset]) rfl (q := 18) rfl ?_
  refine Go.aloadN X101.here hx (Jvm.hb hby d4_18) rfl rfl (q := 19) rfl ?_
  refine Go.iload X101.here hx (Jvm.hb hby d4_19) rfl (q := 21) rfl ?_
  refine Go.daload X101 hx hZ e101 R1 (Jvm.hb hby d4_21) (i := 0) (by decide) (by decide) rfl (q := 22) rfl ?_
  refine Go.dstore X101.here hx (Jvm.hb hby d4_22) (l2 := #[.val (.ref a1), .val (.ref ax), .val (.ref ag), .val (.ref ak), .val (.int (0 : Int32)), .val (.double g0), .second, .val (.double x0), .second]) rfl (q := 24) rfl ?_
  refine Go.aloadN X101.here hx (Jvm.hb hby d4_24) rfl rfl (q := 25) rfl ?_
  refine Go.iload X101.here hx (Jvm.hb hby d4_25) rfl (q := 27) rfl ?_
  refine Go.dload X101.here hx (Jvm.hb hby d4_27) rfl (q := 29) rfl ?_
  refine Go.aloadN X101.here hx (Jvm.hb hby d4_29) rfl rfl (q := 30) rfl ?_
  refine Go.getf X101 hx hZ hown (word hw 15 rfl) e101 F2 (Jvm.hb hby d4_30) (q := 33) rfl ?_
  intro T104 X104 e104
  refine Go.iload X104.here hx (Jvm.hb hby d4_33) rfl (q := 35) rfl ?_
  refine Go.daload X104 hx hZ e104 R4 (Jvm.hb hby d4_35) (i := 0) (by decide) (by decide) rfl (q := 36) rfl ?_
  obtain ⟨u36, hu36⟩ : ∃ zq, FP.dadd g0 (0 : UInt64) = zq := ⟨_, rfl⟩
  refine Go.dadd X104.here hx (Jvm.hb hby d4_36) (by subst_vars; first | exact hn.1.1 | exact hn.2.1.1) hu36 (q := 37) rfl ?_
  refine Go.aloadN X104.here hx (Jvm.hb hby d4_37) rfl rfl (q := 38) rfl ?_
  refine Go.getf X104 hx hZ hown (word hw 15 rfl) e104 F2 (Jvm.hb hby d4_38) (q := 41) rfl ?_
  intro T105 X105 e105
  refine Go.aloadN X105.here hx (Jvm.hb hby d4_41) rfl rfl (q := 42) rfl ?_
  refine Go.getf X105 hx hZ hown (word hw 11 rfl) e105 F1 (Jvm.hb hby d4_42) (q := 45) rfl ?_
  intro T106 X106 e106
  refine Go.iload X106.here hx (Jvm.hb hby d4_45) rfl (q := 47) rfl ?_
  refine Go.iadd X106.here hx (Jvm.hb hby d4_47) (v := (2 : Int32)) (by decide) (q := 48) rfl ?_
  refine Go.daload X106 hx hZ e106 R4 (Jvm.hb hby d4_48) (i := 2) (by decide) (by decide) rfl (q := 49) rfl ?_
  refine Go.dload X106.here hx (Jvm.hb hby d4_49) rfl (q := 51) rfl ?_
  obtain ⟨u51, hu51⟩ : ∃ zq, FP.dmul (0 : UInt64) x0 = zq := ⟨_, rfl⟩
  refine Go.dmul X106.here hx (Jvm.hb hby d4_51) (by subst_vars; first | exact hn.1.2.1 | exact hn.2.1.2.1) hu51 (q := 52) rfl ?_
  obtain ⟨u52, hu52⟩ : ∃ zq, FP.dadd u36 u51 = zq := ⟨_, rfl⟩
  refine Go.dadd X106.here hx (Jvm.hb hby d4_52) (by subst_vars; first | exact hn.1.2.2.1 | exact hn.2.1.2.2.1) hu52 (q := 53) rfl ?_
  refine Go.aloadN X106.here hx (Jvm.hb hby d4_53) rfl rfl (q := 54) rfl ?_
  refine Go.getf X106 hx hZ hown (word hw 15 rfl) e106 F2 (Jvm.hb hby d4_54) (q := 57) rfl ?_
  intro T107 X107 e107
  refine Go.iconst X107.here hx (Jvm.hb hby d4_57) (v := (2 : Int32)) rfl (q := 58) rfl ?_
  refine Go.aloadN X107.here hx (Jvm.hb hby d4_58) rfl rfl (q := 59) rfl ?_
  refine Go.getf X107 hx hZ hown (word hw 11 rfl) e107 F1 (Jvm.hb hby d4_59) (q := 62) rfl ?_
  intro T108 X108 e108
  refine Go.imul X108.here hx (Jvm.hb hby d4_62) (v := (4 : Int32)) (by decide) (q := 63) rfl ?_
  refine Go.iload X108.here hx (Jvm.hb hby d4_63) rfl (q := 65) rfl ?_
  refine Go.iadd X108.here hx (Jvm.hb hby d4_65) (v := (4 : Int32)) (by decide) (q := 66) rfl ?_
  refine Go.daload X108 hx hZ e108 R4 (Jvm.hb hby d4_66) (i := 4) (by decide) (by decide) rfl (q := 67) rfl ?_
  refine Go.dload X108.here hx (Jvm.hb hby d4_67) rfl (q := 69) rfl ?_
  obtain ⟨u69, hu69⟩ : ∃ zq, FP.dmul (0 : UInt64) g0 = zq := ⟨_, rfl⟩
  refine Go.dmul X108.here hx (Jvm.hb hby d4_69) (by subst_vars; first | exact hn.1.2.2.2.1 | exact hn.2.1.2.2.2.1) hu69 (q := 70) rfl ?_
  obtain ⟨u70, hu70⟩ : ∃ zq, FP.dadd u52 u69 = zq := ⟨_, rfl⟩
  refine Go.dadd X108.here hx (Jvm.hb hby d4_70) (by subst_vars; first | exact hn.1.2.2.2.2.1 | exact hn.2.1.2.2.2.2.1) hu70 (q := 71) rfl ?_
  refine Go.aloadN X108.here hx (Jvm.hb hby d4_71) rfl rfl (q := 72) rfl ?_
  refine Go.getf X108 hx hZ hown (word hw 15 rfl) e108 F2 (Jvm.hb hby d4_72) (q := 75) rfl ?_
  intro T109 X109 e109
  refine Go.iconst X109.here hx (Jvm.hb hby d4_75) (v := (3 : Int32)) rfl (q := 76) rfl ?_
  refine Go.aloadN X109.here hx (Jvm.hb hby d4_76) rfl rfl (q := 77) rfl ?_
  refine Go.getf X109 hx hZ hown (word hw 11 rfl) e109 F1 (Jvm.hb hby d4_77) (q := 80) rfl ?_
  intro T110 X110 e110
  refine Go.imul X110.here hx (Jvm.hb hby d4_80) (v := (6 : Int32)) (by decide) (q := 81) rfl ?_
  refine Go.iload X110.here hx (Jvm.hb hby d4_81) rfl (q := 83) rfl ?_
  refine Go.iadd X110.here hx (Jvm.hb hby d4_83) (v := (6 : Int32)) (by decide) (q := 84) rfl ?_
  refine Go.daload X110 hx hZ e110 R4 (Jvm.hb hby d4_84) (i := 6) (by decide) (by decide) rfl (q := 85) rfl ?_
  refine Go.dload X110.here hx (Jvm.hb hby d4_85) rfl (q := 87) rfl ?_
  obtain ⟨u87, hu87⟩ : ∃ zq, FP.dmul (0 : UInt64) x0 = zq := ⟨_, rfl⟩
  refine Go.dmul X110.here hx (Jvm.hb hby d4_87) (by subst_vars; first | exact hn.1.2.1 | exact hn.2.1.2.1) hu87 (q := 88) rfl ?_
  refine Go.dload X110.here hx (Jvm.hb hby d4_88) rfl (q := 90) rfl ?_
  obtain ⟨u90, hu90⟩ : ∃ zq, FP.dmul u87 g0 = zq := ⟨_, rfl⟩
  refine Go.dmul X110.here hx (Jvm.hb hby d4_90) (by subst_vars; first | exact hn.1.2.2.2.2.2.1 | exact hn.2.1.2.2.2.2.2.1) hu90 (q := 91) rfl ?_
  obtain ⟨u91, hu91⟩ : ∃ zq, FP.dadd u70 u90 = zq := ⟨_, rfl⟩
  refine Go.dadd X110.here hx (Jvm.hb hby d4_91) (by subst_vars; first | exact hn.1.2.2.2.2.2.2 | exact hn.2.1.2.2.2.2.2.2) hu91 (q := 92) rfl ?_
  refine Go.dastore X110 hx hZ e110 R3 (Jvm.hb hby d4_92) (i := 0) (by decide) (by decide) rfl (q := 93) rfl ?_
  intro T111 h111 X111 e111 W111 R111
  have N111 := Fr.snoc X111 N0 fr1
  have R111 : Row Z h111 ak .double kk [(.double u91), (.double c1), (.double c2), (.double c3), (.double c4)] := R111
  refine Go.iinc X111.here hx (Jvm.hb hby d4_93) rfl (v := (1 : Int32)) (by decide) (l2 := #[.val (.ref a1), .val (.ref ax), .val (.ref ag), .val (.ref ak), .val (.int (1 : Int32)), .val (.double g0), .second, .val (.double x0), .second]) rfl (q := 96) rfl ?_
  refine Go.goto X111.here hx (Jvm.hb hby d4_96) (by decide) (q := 3) rfl ?_
  refine Go.iload X111.here hx (Jvm.hb hby d4_3) rfl (q := 5) rfl ?_
  refine Go.aloadN X111.here hx (Jvm.hb hby d4_5) rfl rfl (q := 6) rfl ?_
  have f113 := F1.other W111 (Or.inl (Ne.symm i4))
  refine Go.getf X111 hx hZ hown (word hw 11 rfl) e111 f113 (Jvm.hb hby d4_6) (q := 9) rfl ?_
  intro T112 X112 e112
  have hc9_115 : (1 : Int32) < (2 : Int32) := by decide
  refine Go.icmpN X112.here hx (Jvm.hb hby d4_9) (tlt hc9_115).2.1 (q := 12) rfl ?_
  refine Go.aloadN X112.here hx (Jvm.hb hby d4_12) rfl rfl (q := 13) rfl ?_
  refine Go.iload X112.here hx (Jvm.hb hby d4_13) rfl (q := 15) rfl ?_
  have f116 := R2.other W111 (Ne.symm i2)
  refine Go.daload X112 hx hZ e112 f116 (Jvm.hb hby d4_15) (i := 1) (by decide) (by decide) rfl (q := 16) rfl ?_
  refine Go.dstore X112.here hx (Jvm.hb hby d4_16) (l2 := #[.val (.ref a1), .val (.ref ax), .val (.ref ag), .val (.ref ak), .val (.int (1 : Int32)), .val (.double g1), .second, .val (.double x0), .second]) rfl (q := 18) rfl ?_
  refine Go.aloadN X112.here hx (Jvm.hb hby d4_18) rfl rfl (q := 19) rfl ?_
  refine Go.iload X112.here hx (Jvm.hb hby d4_19) rfl (q := 21) rfl ?_
  have f117 := R1.other W111 (Ne.symm i1)
  refine Go.daload X112 hx hZ e112 f117 (Jvm.hb hby d4_21) (i := 1) (by decide) (by decide) rfl (q := 22) rfl ?_
  refine Go.dstore X112.here hx (Jvm.hb hby d4_22) (l2 := #[.val (.ref a1), .val (.ref ax), .val (.ref ag), .val (.ref ak), .val (.int (1 : Int32)), .val (.double g1), .second, .val (.double x1), .second]) rfl (q := 24) rfl ?_
  refine Go.aloadN X112.here hx (Jvm.hb hby d4_24) rfl rfl (q := 25) rfl ?_
  refine Go.iload X112.here hx (Jvm.hb hby d4_25) rfl (q := 27) rfl ?_
  refine Go.dload X112.here hx (Jvm.hb hby d4_27) rfl (q := 29) rfl ?_
  refine Go.aloadN X112.here hx (Jvm.hb hby d4_29) rfl rfl (q := 30) rfl ?_
  have f119 := F2.other W111 (Or.inl (Ne.symm i4))
  refine Go.getf X112 hx hZ hown (word hw 15 rfl) e112 f119 (Jvm.hb hby d4_30) (q := 33) rfl ?_
  intro T118 X118 e118
  refine Go.iload X118.here hx (Jvm.hb hby d4_33) rfl (q := 35) rfl ?_
  have f120 := R4.other W111 (Ne.symm i3)
  refine Go.daload X118 hx hZ e118 f120 (Jvm.hb hby d4_35) (i := 1) (by decide) (by decide) rfl (q := 36) rfl ?_
  obtain ⟨u36_1, hu36_1⟩ : ∃ zq, FP.dadd g1 (0 : UInt64) = zq := ⟨_, rfl⟩
  refine Go.dadd X118.here hx (Jvm.hb hby d4_36) (by subst_vars; first | exact hn.1.1 | exact hn.2.1.1) hu36_1 (q := 37) rfl ?_
  refine Go.aloadN X118.here hx (Jvm.hb hby d4_37) rfl rfl (q := 38) rfl ?_
  refine Go.getf X118 hx hZ hown (word hw 15 rfl) e118 f119 (Jvm.hb hby d4_38) (q := 41) rfl ?_
  intro T121 X121 e121
  refine Go.aloadN X121.here hx (Jvm.hb hby d4_41) rfl rfl (q := 42) rfl ?_
  refine Go.getf X121 hx hZ hown (word hw 11 rfl) e121 f113 (Jvm.hb hby d4_42) (q := 45) rfl ?_
  intro T122 X122 e122
  refine Go.iload X122.here hx (Jvm.hb hby d4_45) rfl (q := 47) rfl ?_
  refine Go.iadd X122.here hx (Jvm.hb hby d4_47) (v := (3 : Int32)) (by decide) (q := 48) rfl ?_
  refine Go.daload X122 hx hZ e122 f120 (Jvm.hb hby d4_48) (i := 3) (by decide) (by decide) rfl (q := 49) rfl ?_
  refine Go.dload X122.here hx (Jvm.hb hby d4_49) rfl (q := 51) rfl ?_
  obtain ⟨u51_1, hu51_1⟩ : ∃ zq, FP.dmul (0 : UInt64) x1 = zq := ⟨_, rfl⟩
  refine Go.dmul X122.here hx (Jvm.hb hby d4_51) (by subst_vars; first | exact hn.1.2.1 | exact hn.2.1.2.1) hu51_1 (q := 52) rfl ?_
  obtain ⟨u52_1, hu52_1⟩ : ∃ zq, FP.dadd u36_1 u51_1 = zq := ⟨_, rfl⟩
  refine Go.dadd X122.here hx (Jvm.hb hby d4_52) (by subst_vars; first | exact hn.1.2.2.1 | exact hn.2.1.2.2.1) hu52_1 (q := 53) rfl ?_
  refine Go.aloadN X122.here hx (Jvm.hb hby d4_53) rfl rfl (q := 54) rfl ?_
  refine Go.getf X122 hx hZ hown (word hw 15 rfl) e122 f119 (Jvm.hb hby d4_54) (q := 57) rfl ?_
  intro T123 X123 e123
  refine Go.iconst X123.here hx (Jvm.hb hby d4_57) (v := (2 : Int32)) rfl (q := 58) rfl ?_
  refine Go.aloadN X123.here hx (Jvm.hb hby d4_58) rfl rfl (q := 59) rfl ?_
  refine Go.getf X123 hx hZ hown (word hw 11 rfl) e123 f113 (Jvm.hb hby d4_59) (q := 62) rfl ?_
  intro T124 X124 e124
  refine Go.imul X124.here hx (Jvm.hb hby d4_62) (v := (4 : Int32)) (by decide) (q := 63) rfl ?_
  refine Go.iload X124.here hx (Jvm.hb hby d4_63) rfl (q := 65) rfl ?_
  refine Go.iadd X124.here hx (Jvm.hb hby d4_65) (v := (5 : Int32)) (by decide) (q := 66) rfl ?_
  refine Go.daload X124 hx hZ e124 f120 (Jvm.hb hby d4_66) (i := 5) (by decide) (by decide) rfl (q := 67) rfl ?_
  refine Go.dload X124.here hx (Jvm.hb hby d4_67) rfl (q := 69) rfl ?_
  obtain ⟨u69_1, hu69_1⟩ : ∃ zq, FP.dmul (0 : UInt64) g1 = zq := ⟨_, rfl⟩
  refine Go.dmul X124.here hx (Jvm.hb hby d4_69) (by subst_vars; first | exact hn.1.2.2.2.1 | exact hn.2.1.2.2.2.1) hu69_1 (q := 70) rfl ?_
  obtain ⟨u70_1, hu70_1⟩ : ∃ zq, FP.dadd u52_1 u69_1 = zq := ⟨_, rfl⟩
  refine Go.dadd X124.here hx (Jvm.hb hby d4_70) (by subst_vars; first | exact hn.1.2.2.2.2.1 | exact hn.2.1.2.2.2.2.1) hu70_1 (q := 71) rfl ?_
  refine Go.aloadN X124.here hx (Jvm.hb hby d4_71) rfl rfl (q := 72) rfl ?_
  refine Go.getf X124 hx hZ hown (word hw 15 rfl) e124 f119 (Jvm.hb hby d4_72) (q := 75) rfl ?_
  intro T125 X125 e125
  refine Go.iconst X125.here hx (Jvm.hb hby d4_75) (v := (3 : Int32)) rfl (q := 76) rfl ?_
  refine Go.aloadN X125.here hx (Jvm.hb hby d4_76) rfl rfl (q := 77) rfl ?_
  refine Go.getf X125 hx hZ hown (word hw 11 rfl) e125 f113 (Jvm.hb hby d4_77) (q := 80) rfl ?_
  intro T126 X126 e126
  refine Go.imul X126.here hx (Jvm.hb hby d4_80) (v := (6 : Int32)) (by decide) (q := 81) rfl ?_
  refine Go.iload X126.here hx (Jvm.hb hby d4_81) rfl (q := 83) rfl ?_
  refine Go.iadd X126.here hx (Jvm.hb hby d4_83) (v := (7 : Int32)) (by decide) (q := 84) rfl ?_
  refine Go.daload X126 hx hZ e126 f120 (Jvm.hb hby d4_84) (i := 7) (by decide) (by decide) rfl (q := 85) rfl ?_
  refine Go.dload X126.here hx (Jvm.hb hby d4_85) rfl (q := 87) rfl ?_
  obtain ⟨u87_1, hu87_1⟩ : ∃ zq, FP.dmul (0 : UInt64) x1 = zq := ⟨_, rfl⟩
  refine Go.dmul X126.here hx (Jvm.hb hby d4_87) (by subst_vars; first | exact hn.1.2.1 | exact hn.2.1.2.1) hu87_1 (q := 88) rfl ?_
  refine Go.dload X126.here hx (Jvm.hb hby d4_88) rfl (q := 90) rfl ?_
  obtain ⟨u90_1, hu90_1⟩ : ∃ zq, FP.dmul u87_1 g1 = zq := ⟨_, rfl⟩
  refine Go.dmul X126.here hx (Jvm.hb hby d4_90) (by subst_vars; first | exact hn.1.2.2.2.2.2.1 | exact hn.2.1.2.2.2.2.2.1) hu90_1 (q := 91) rfl ?_
  obtain ⟨u91_1, hu91_1⟩ : ∃ zq, FP.dadd u70_1 u90_1 = zq := ⟨_, rfl⟩
  refine Go.dadd X126.here hx (Jvm.hb hby d4_91) (by subst_vars; first | exact hn.1.2.2.2.2.2.2 | exact hn.2.1.2.2.2.2.2.2) hu91_1 (q := 92) rfl ?_
  refine Go.dastore X126 hx hZ e126 R111 (Jvm.hb hby d4_92) (i := 1) (by decide) (by decide) rfl (q := 93) rfl ?_
  intro T127 h127 X127 e127 W127 R127
  have N127 := Fr.snoc X127 N111 fr1
  have R127 : Row Z h127 ak .double kk [(.double u91), (.double u91_1), (.double c2), (.double c3), (.double c4)] := R127
  refine Go.iinc X127.here hx (Jvm.hb hby d4_93) rfl (v := (2 : Int32)) (by decide) (l2 := #[.val (.ref a1), .val (.ref ax), .val (.ref ag), .val (.ref ak), .val (.int (2 : Int32)), .val (.double g1), .second, .val (.double x1), .second]) rfl (q := 96) rfl ?_
  refine Go.goto X127.here hx (Jvm.hb hby d4_96) (by decide) (q := 3) rfl ?_
  refine Go.iload X127.here hx (Jvm.hb hby d4_3) rfl (q := 5) rfl ?_
  refine Go.aloadN X127.here hx (Jvm.hb hby d4_5) rfl rfl (q := 6) rfl ?_
  have f129 := f113.other W127 (Or.inl (Ne.symm i4))
  refine Go.getf X127 hx hZ hown (word hw 11 rfl) e127 f129 (Jvm.hb hby d4_6) (q := 9) rfl ?_
  intro T128 X128 e128
  have hc9_131 : ¬ ((2 : Int32) < (2 : Int32)) := by decide
  refine Go.icmpY X128.here hx (Jvm.hb hby d4_9) (flt hc9_131).2.1 (by decide) (q := 99) rfl ?_
  subst hu36 hu51 hu52 hu69 hu70 hu87 hu90 hu91 hu36_1 hu51_1 hu52_1 hu69_1 hu70_1 hu87_1 hu90_1 hu91_1
  have k132 : Keep h0 h111 [ak] := (Keep.refl h0 [ak]).wr W111 (Or.inl (List.mem_of_getElem? (i := 0) rfl))
  have k133 : Keep h0 h127 [ak] := k132.wr W127 (Or.inl (List.mem_of_getElem? (i := 0) rfl))
  refine Go.retV X128 hx hret hlk (Jvm.hb hby d4_99) (by decide) (by decide) ?_
  rw [e128]
  exact ⟨rfl, N127, k133, R127⟩
set_option maxRecDepth 65536 in
set_option maxHeartbeats 40000000 in
theorem rm_ne3 (l : Launch) (Z : State) (a0 : Array Value) (hw : ∀ d ∈ tables_1, d.before a0 Z = true) (a1 : Addr) (o1 : Value) (o2 : Value) (o3 : Value) (h0 : Heap) (n0 : Nat) (Z0 : n0 ≤ h0.size) (E1 : Exa Z h0 a1 "com/example/ratewright/ratewright/inference/GradientCorrection$NormalEquations") (F1 : Fld Z h0 a1 "com/example/ratewright/ratewright/inference/GradientCorrection$NormalEquations" "size" "I" o1) (F2 : Fld Z h0 a1 "com/example/ratewright/ratewright/inference/GradientCorrection$NormalEquations" "products" "[D" o2) (F3 : Fld Z h0 a1 "com/example/ratewright/ratewright/inference/GradientCorrection$NormalEquations" "right" "[D" o3) (g1 : n0 ≤ a1) :
    Con l Z (⟨"com/example/ratewright/ratewright/inference/GradientCorrection$NormalEquations", "<init>", "(I)V"⟩ : MethodName) prog_5_method_1_code 2 none ({ frames := 1, cells := 2, slots := 90, locals := 12 } : Room) #[(.ref a1), (.int (12 : Int32))] h0 (fun vR hR LR => vR = none ∧ Fr n0 LR ∧ Keep h0 hR [a1] ∧ Exa Z hR a1 "com/example/ratewright/ratewright/inference/GradientCorrection$NormalEquations") := by
  refine enter (l := l) (Z := Z) (y := (⟨"com/example/ratewright/ratewright/inference/GradientCorrection$NormalEquations", "<init>", "(I)V"⟩ : MethodName)) (bytes := prog_5_method_1_code) (maxL := 2) (ret := none) (ws := []) (rm := ({ frames := 1, cells := 2, slots := 90, locals := 12 } : Room)) (as' := #[(.ref a1), (.int (12 : Int32))]) (h0 := h0) (Qv := (fun vR hR LR => vR = none ∧ Fr n0 LR ∧ Keep h0 hR [a1] ∧ Exa Z hR a1 "com/example/ratewright/ratewright/inference/GradientCorrection$NormalEquations")) (kc := 2) (ks := 90) (by first | exact plainFor_of_name (by first | (simp [plainName, overriddenIn]; done) | decide +kernel) | decide +kernel) (Ls := #[.val (.ref a1), .val (.int (12 : Int32))]) (fun m => by first | (simp [entryFrame, mkF, argsToLocals, Value.category]; done) | rfl) ?_
  intro p e s m below meth c s₁ hx hby hml hown hnm hret hlk hZ X0 e0
  have hown : s.vm.findClass "com/example/ratewright/ratewright/inference/GradientCorrection$NormalEquations" = some m.cls := hown
  have hml : c.maxLocals = 2 := hml
  have N0 := Fr.nil n0
  refine Go.aloadN X0.here hx (Jvm.hb hby d3_0) rfl rfl (q := 1) rfl ?_
  refine Go.init X0 hx hZ hown (word hw 23 rfl) (word hw 9 rfl) (word hw 10 rfl) e0 (Jvm.hb hby d3_1) (by rw [hml]; rfl) (by decide) (W := 0) (Nat.le_of_eq rfl) (by decide) (q := 4) rfl ?_
  intro T101 X101 e101
  refine Go.aloadN X101.here hx (Jvm.hb hby d3_4) rfl rfl (q := 5) rfl ?_
  refine Go.iloadN X101.here hx (Jvm.hb hby d3_5) rfl (q := 6) rfl ?_
  refine Go.putf X101 hx hZ hown (word hw 24 rfl) e101 F1 E1 (Or.inr ⟨(word hw 25 rfl), rfl, hnm⟩) (word hw 18 rfl) (ty := .int) (by decide) rfl rfl (Jvm.hb hby d3_6) (q := 9) rfl ?_
  intro T102 h102 X102 e102 W102
  have N102 := Fr.snoc X102 N0 g1
  have F102 := F1.same W102
  refine Go.aloadN X102.here hx (Jvm.hb hby d3_9) rfl rfl (q := 10) rfl ?_
  refine Go.iloadN X102.here hx (Jvm.hb hby d3_10) rfl (q := 11) rfl ?_
  refine Go.iloadN X102.here hx (Jvm.hb hby d3_11) rfl (q := 12) rfl ?_
  refine Go.iconst X102.here hx (Jvm.hb hby d3_12) (v := (1 : Int32)) rfl (q := 13) rfl ?_
  refine Go.iadd X102.here hx (Jvm.hb hby d3_13) (v := (13 : Int32)) (by decide) (q := 14) rfl ?_
  refine Go.imul X102.here hx (Jvm.hb hby d3_14) (v := (156 : Int32)) (by decide) (q := 15) rfl ?_
  refine Go.iconst X102.here hx (Jvm.hb hby d3_15) (v := (2 : Int32)) rfl (q := 16) rfl ?_
  refine Go.idiv X102.here hx (Jvm.hb hby d3_16) (by decide) (v := (78 : Int32)) (by decide) (q := 17) rfl ?_
  refine Go.newarr X102 hx hZ (aty := .double) (word hw 0 rfl) e102 (Jvm.hb hby d3_17) (by decide) (k := 78) (by decide) (by decide) (by decide) (by decide) (ad := "[D") (by decide) (q := 19) rfl ?_
  intro T103 h103 a103 kk103 g103 X103 e103 E103 R103 A103
  have z104 : n0 ≤ h102.size := Nat.le_trans Z0 (Nat.le_of_eq W102.size.symm)
  have r105 : n0 ≤ a103 := Nat.le_trans z104 (Nat.le_of_eq g103.symm)
  have k106 : Keep h0 h102 [a1] := (Keep.refl h0 [a1]).wr W102 (Or.inl (List.mem_of_getElem? (i := 0) rfl))
  have y105 : h0.size ≤ a103 := Nat.le_trans k106.1 (Nat.le_of_eq g103.symm)
  have f108 := F2.other W102 (Or.inr (Jvm.RoadKit.slot_ne (Or.inr (word hw 27 rfl)) (Or.inr (word hw 25 rfl)) (by decide) (t := (.array .double)) (t' := .int) (by decide) (by decide)))
  have f109 := f108.ext E103
  have f110 := E1.wr W102
  have f111 := f110.ext E103
  refine Go.putf X103 hx hZ hown (word hw 26 rfl) e103 f109 f111 (Or.inr ⟨(word hw 27 rfl), rfl, hnm⟩) (word hw 18 rfl) (ty := (.array .double)) (by decide) rfl rfl (Jvm.hb hby d3_19) (q := 22) rfl ?_
  intro T107 h107 X107 e107 W107
  have N107 := Fr.snoc X107 N102 g1
  have F107 := f109.same W107
  refine Go.aloadN X107.here hx (Jvm.hb hby d3_22) rfl rfl (q := 23) rfl ?_
  refine Go.iloadN X107.here hx (Jvm.hb hby d3_23) rfl (q := 24) rfl ?_
  refine Go.newarr X107 hx hZ (aty := .double) (word hw 0 rfl) e107 (Jvm.hb hby d3_24) (by decide) (k := 12) (by decide) (by decide) (by decide) (by decide) (ad := "[D") (by decide) (q := 26) rfl ?_
  intro T112 h112 a112 kk112 g112 X112 e112 E112 R112 A112
  have z113 : n0 ≤ h103.size := Nat.le_trans z104 E103.1
  have z114 : n0 ≤ h107.size := Nat.le_trans z113 (Nat.le_of_eq W107.size.symm)
  have r115 : n0 ≤ a112 := Nat.le_trans z114 (Nat.le_of_eq g112.symm)
  have k116 : Keep h0 h103 [a1] := k106.ext E103
  have k117 : Keep h0 h107 [a1] := k116.wr W107 (Or.inl (List.mem_of_getElem? (i := 0) rfl))
  have y115 : h0.size ≤ a112 := Nat.le_trans k117.1 (Nat.le_of_eq g112.symm)
  have R112 : Row Z h112 a112 .double kk112 [(.double (0 : UInt64)), (.double (0 : UInt64)), (.double (0 : UInt64)), (.double (0 : UInt64)), (.double (0 : UInt64)), (.double (0 : UInt64)), (.double (0 : UInt64)), (.double (0 : UInt64)), (.double (0 : UInt64)), (.double (0 : UInt64)), (.double (0 : UInt64)), (.double (0 : UInt64))] := R112
  have f119 := F3.other W102 (Or.inr (Jvm.RoadKit.slot_ne (Or.inr (word hw 29 rfl)) (Or.inr (word hw 25 rfl)) (by decide) (t := (.array .double)) (t' := .int) (by decide) (by decide)))
  have f120 := f119.ext E103
  have f121 := f120.other W107 (Or.inr (Jvm.RoadKit.slot_ne (Or.inr (word hw 29 rfl)) (Or.inr (word hw 27 rfl)) (by decide) (t := (.array .double)) (t' := (.array .double)) (by decide) (by decide)))
  have f122 := f121.ext E112
  have f123 := f111.wr W107
  have f124 := f123.ext E112
  refine Go.putf X112 hx hZ hown (word hw 28 rfl) e112 f122 f124 (Or.inr ⟨(word hw 29 rfl), rfl, hnm⟩) (word hw 18 rfl) (ty := (.array .double)) (by decide) rfl rfl (Jvm.hb hby d3_26) (q := 29) rfl ?_
  intro T118 h118 X118 e118 W118
  have N118 := Fr.snoc X118 N107 g1
  have F118 := f122.same W118
  have k125 : Keep h0 h112 [a1] := k117.ext E112
  have k126 : Keep h0 h118 [a1] := k125.wr W118 (Or.inl (List.mem_of_getElem? (i := 0) rfl))
  have f127 := f124.wr W118
  refine Go.retV X118 hx hret hlk (Jvm.hb hby d3_29) (by decide) (by decide) ?_
  rw [e118]
  exact ⟨rfl, N118, k126, f127⟩
set_option maxRecDepth 65536 in
set_option maxHeartbeats 40000000 in
theorem rm_init3 (l : Launch) (Z : State) (a0 : Array Value) (hw : ∀ d ∈ tables_1, d.before a0 Z = true) (a1 : Addr) (w2 : Int32) (o1 : Value) (o2 : Value) (o3 : Value) (o4 : Value) (o5 : Value) (o6 : Value) (o7 : Value) (o8 : Value) (o9 : Value) (h0 : Heap) (n0 : Nat) (Z0 : n0 ≤ h0.size) (E1 : Exa Z h0 a1 "com/example/ratewright/ratewright/inference/GradientCorrection") (F1 : Fld Z h0 a1 "com/example/ratewright/ratewright/inference/GradientCorrection" "dimension" "I" o1) (F2 : Fld Z h0 a1 "com/example/ratewright/ratewright/inference/GradientCorrection" "unknowns" "I" o2) (F3 : Fld Z h0 a1 "com/example/ratewright/ratewright/inference/GradientCorrection" "coefficients" "[D" o3) (F4 : Fld Z h0 a1 "com/example/ratewright/ratewright/inference/GradientCorrection" "fitted" "Lcom/example/ratewright/ratewright/inference/GradientCorrection$NormalEquations;" o4) (F5 : Fld Z h0 a1 "com/example/ratewright/ratewright/inference/GradientCorrection" "heldOut" "Lcom/example/ratewright/ratewright/inference/GradientCorrection$NormalEquations;" o5) (F6 : Fld Z h0 a1 "com/example/ratewright/ratewright/inference/GradientCorrection" "heldOutTerms" "[[D" o6) (F7 : Fld Z h0 a1 "com/example/ratewright/ratewright/inference/GradientCorrection" "heldOutMisses" "[D" o7) (F8 : Fld Z h0 a1 "com/example/ratewright/ratewright/inference/GradientCorrection" "pendingTerms" "[[D" o8) (F9 : Fld Z h0 a1 "com/example/ratewright/ratewright/inference/GradientCorrection" "pendingMisses" "[D" o9) (g1 : n0 ≤ a1) (hm : w2 = 0 ∨ w2 = 1 ∨ w2 = 2 ∨ w2 = 3) :
    Con l Z (⟨"com/example/ratewright/ratewright/inference/GradientCorrection", "<init>", "(II)V"⟩ : MethodName) prog_4_method_1_code 5 none ({ frames := 3, cells := 20, slots := 2500, locals := 60 } : Room) #[(.ref a1), (.int (3 : Int32)), (.int w2)] h0 (fun vR hR LR => ∃ (ac : Addr) (kc : ClassId), vR = none ∧ Fr n0 LR ∧ Keep h0 hR [a1] ∧ h0.size ≤ ac ∧ Exa Z hR a1 "com/example/ratewright/ratewright/inference/GradientCorrection" ∧ Fld Z hR a1 "com/example/ratewright/ratewright/inference/GradientCorrection" "dimension" "I" (.int (3 : Int32)) ∧ Fld Z hR a1 "com/example/ratewright/ratewright/inference/GradientCorrection" "coefficients" "[D" (.ref ac) ∧ Row Z hR ac .double kc [(.double (0 : UInt64)), (.double (0 : UInt64)), (.double (0 : UInt64)), (.double (0 : UInt64)), (.double (0 : UInt64)), (.double (0 : UInt64)), (.double (0 : UInt64)), (.double (0 : UInt64)), (.double (0 : UInt64)), (.double (0 : UInt64)), (.double (0 : UInt64)), (.double (0 : UInt64))]) := by
  refine enter (l := l) (Z := Z) (y := (⟨"com/example/ratewright/ratewright/inference/GradientCorrection", "<init>", "(II)V"⟩ : MethodName)) (bytes := prog_4_method_1_code) (maxL := 5) (ret := none) (ws := []) (rm := ({ frames := 3, cells := 20, slots := 2500, locals := 60 } : Room)) (as' := #[(.ref a1), (.int (3 : Int32)), (.int w2)]) (h0 := h0) (Qv := (fun vR hR LR => ∃ (ac : Addr) (kc : ClassId), vR = none ∧ Fr n0 LR ∧ Keep h0 hR [a1] ∧ h0.size ≤ ac ∧ Exa Z hR a1 "com/example/ratewright/ratewright/inference/GradientCorrection" ∧ Fld Z hR a1 "com/example/ratewright/ratewright/inference/GradientCorrection" "dimension" "I" (.int (3 : Int32)) ∧ Fld Z hR a1 "com/example/ratewright/ratewright/inference/GradientCorrection" "coefficients" "[D" (.ref ac) ∧ Row Z hR ac .double kc [(.double (0 : UInt64)), (.double (0 : UInt64)), (.double (0 : UInt64)), (.double (0 : UInt64)), (.double (0 : UInt64)), (.double (0 : UInt64)), (.double (0 : UInt64)), (.double (0 : UInt64)), (.double (0 : UInt64)), (.double (0 : UInt64)), (.double (0 : UInt64)), (.double (0 : UInt64))])) (kc := 20) (ks := 2500) (by first | exact plainFor_of_name (by first | (simp [plainName, overriddenIn]; done) | decide +kernel) | decide +kernel) (Ls := #[.val (.ref a1), .val (.int (3 : Int32)), .val (.int w2), .unset, .unset]) (fun m => by first | (simp [entryFrame, mkF, argsToLocals, Value.category]; done) | rfl) ?_
  intro p e s m below meth c s₁ hx hby hml hown hnm hret hlk hZ X0 e0
  have hown : s.vm.findClass "com/example/ratewright/ratewright/inference/GradientCorrection" = some m.cls := hown
  have hml : c.maxLocals = 5 := hml
  have N0 := Fr.nil n0
  refine Go.aloadN X0.here hx (Jvm.hb hby d1_0) rfl rfl (q := 1) rfl ?_
  refine Go.init X0 hx hZ hown (word hw 8 rfl) (word hw 9 rfl) (word hw 10 rfl) e0 (Jvm.hb hby d1_1) (by rw [hml]; rfl) (by decide) (W := 0) (Nat.le_of_eq rfl) (by decide) (q := 4) rfl ?_
  intro T101 X101 e101
  refine Go.iloadN X101.here hx (Jvm.hb hby d1_4) rfl (q := 5) rfl ?_
  refine Go.sipush X101.here hx (Jvm.hb hby d1_5) (v := (512 : Int32)) rfl (q := 8) rfl ?_
  have hc8_103 : ¬ ((512 : Int32) < (3 : Int32)) := by decide
  refine Go.icmpN X101.here hx (Jvm.hb hby d1_8) (flt hc8_103).2.2.1 (q := 11) rfl ?_
  refine Go.iconst X101.here hx (Jvm.hb hby d1_11) (v := (1 : Int32)) rfl (q := 12) rfl ?_
  refine Go.goto X101.here hx (Jvm.hb hby d1_12) (by decide) (q := 16) rfl ?_
  refine Go.istoreN X101.here hx (Jvm.hb hby d1_16) (l2 := #[.val (.ref a1), .val (.int (3 : Int32)), .val (.int w2), .val (.int (1 : Int32)), .unset]) rfl (q := 17) rfl ?_
  refine Go.aloadN X101.here hx (Jvm.hb hby d1_17) rfl rfl (q := 18) rfl ?_
  refine Go.iloadN X101.here hx (Jvm.hb hby d1_18) rfl (q := 19) rfl ?_
  refine Go.putf X101 hx hZ hown (word hw 11 rfl) e101 F1 E1 (Or.inr ⟨(word hw 12 rfl), rfl, hnm⟩) (word hw 3 rfl) (ty := .int) (by decide) rfl rfl (Jvm.hb hby d1_19) (q := 22) rfl ?_
  intro T104 h104 X104 e104 W104
  have N104 := Fr.snoc X104 N0 g1
  have F104 := F1.same W104
  refine Go.aloadN X104.here hx (Jvm.hb hby d1_22) rfl rfl (q := 23) rfl ?_
  refine Go.iloadN X104.here hx (Jvm.hb hby d1_23) rfl (q := 24) rfl ?_
  have hc24_106 : ¬ ((1 : Int32) = (0 : Int32)) := by decide
  refine Go.ifN X104.here hx (Jvm.hb hby d1_24) ((if0 _ _).trans (feq hc24_106).1) (q := 27) rfl ?_
  refine Go.iconst X104.here hx (Jvm.hb hby d1_27) (v := (4 : Int32)) rfl (q := 28) rfl ?_
  refine Go.iloadN X104.here hx (Jvm.hb hby d1_28) rfl (q := 29) rfl ?_
  refine Go.imul X104.here hx (Jvm.hb hby d1_29) (v := (12 : Int32)) (by decide) (q := 30) rfl ?_
  refine Go.goto X104.here hx (Jvm.hb hby d1_30) (by decide) (q := 34) rfl ?_
  have f108 := F2.other W104 (Or.inr (Jvm.RoadKit.slot_ne (Or.inr (word hw 14 rfl)) (Or.inr (word hw 12 rfl)) (by decide) (t := .int) (t' := .int) (by decide) (by decide)))
  have f109 := E1.wr W104
  refine Go.putf X104 hx hZ hown (word hw 13 rfl) e104 f108 f109 (Or.inr ⟨(word hw 14 rfl), rfl, hnm⟩) (word hw 3 rfl) (ty := .int) (by decide) rfl rfl (Jvm.hb hby d1_34) (q := 37) rfl ?_
  intro T107 h107 X107 e107 W107
  have N107 := Fr.snoc X107 N104 g1
  have F107 := f108.same W107
  refine Go.aloadN X107.here hx (Jvm.hb hby d1_37) rfl rfl (q := 38) rfl ?_
  refine Go.iconst X107.here hx (Jvm.hb hby d1_38) (v := (4 : Int32)) rfl (q := 39) rfl ?_
  refine Go.iloadN X107.here hx (Jvm.hb hby d1_39) rfl (q := 40) rfl ?_
  refine Go.imul X107.here hx (Jvm.hb hby d1_40) (v := (12 : Int32)) (by decide) (q := 41) rfl ?_
  refine Go.newarr X107 hx hZ (aty := .double) (word hw 0 rfl) e107 (Jvm.hb hby d1_41) (by decide) (k := 12) (by decide) (by decide) (by decide) (by decide) (ad := "[D") (by decide) (q := 43) rfl ?_
  intro T110 h110 a110 kk110 g110 X110 e110 E110 R110 A110
  have z111 : n0 ≤ h104.size := Nat.le_trans Z0 (Nat.le_of_eq W104.size.symm)
  have z112 : n0 ≤ h107.size := Nat.le_trans z111 (Nat.le_of_eq W107.size.symm)
  have r113 : n0 ≤ a110 := Nat.le_trans z112 (Nat.le_of_eq g110.symm)
  have k114 : Keep h0 h104 [a1] := (Keep.refl h0 [a1]).wr W104 (Or.inl (List.mem_of_getElem? (i := 0) rfl))
  have k115 : Keep h0 h107 [a1] := k114.wr W107 (Or.inl (List.mem_of_getElem? (i := 0) rfl))
  have y113 : h0.size ≤ a110 := Nat.le_trans k115.1 (Nat.le_of_eq g110.symm)
  have R110 : Row Z h110 a110 .double kk110 [(.double (0 : UInt64)), (.double (0 : UInt64)), (.double (0 : UInt64)), (.double (0 : UInt64)), (.double (0 : UInt64)), (.double (0 : UInt64)), (.double (0 : UInt64)), (.double (0 : UInt64)), (.double (0 : UInt64)), (.double (0 : UInt64)), (.double (0 : UInt64)), (.double (0 : UInt64))] := R110
  have f117 := F3.other W104 (Or.inr (Jvm.RoadKit.slot_ne (Or.inl (word hw 16 rfl)) (Or.inr (word hw 12 rfl)) (by decide) (t := (.array .double)) (t' := .int) (by decide) (by decide)))
  have f118 := f117.other W107 (Or.inr (Jvm.RoadKit.slot_ne (Or.inl (word hw 16 rfl)) (Or.inr (word hw 14 rfl)) (by decide) (t := (.array .double)) (t' := .int) (by decide) (by decide)))
  have f119 := f118.ext E110
  have f120 := f109.wr W107
  have f121 := f120.ext E110
  refine Go.putf X110 hx hZ hown (word hw 15 rfl) e110 f119 f121 (Or.inl (word hw 16 rfl)) (word hw 3 rfl) (ty := (.array .double)) (by decide) rfl rfl (Jvm.hb hby d1_43) (q := 46) rfl ?_
  intro T116 h116 X116 e116 W116
  have N116 := Fr.snoc X116 N107 g1
  have F116 := f119.same W116
  refine Go.aloadN X116.here hx (Jvm.hb hby d1_46) rfl rfl (q := 47) rfl ?_
  refine Go.new X116 hx hZ hown (word hw 17 rfl) (word hw 18 rfl) (word hw 19 rfl) e116 (Jvm.hb hby d1_47) (by decide) (by decide) (q := 50) rfl ?_
  intro T122 h122 a122 g122 X122 e122 E122 A122 D122
  have z123 : n0 ≤ h110.size := Nat.le_trans z112 E110.1
  have z124 : n0 ≤ h116.size := Nat.le_trans z123 (Nat.le_of_eq W116.size.symm)
  have r125 : n0 ≤ a122 := Nat.le_trans z124 (Nat.le_of_eq g122.symm)
  have k126 : Keep h0 h110 [a1] := k115.ext E110
  have k127 : Keep h0 h116 [a1] := k126.wr W116 (Or.inl (List.mem_of_getElem? (i := 0) rfl))
  have y125 : h0.size ≤ a122 := Nat.le_trans k127.1 (Nat.le_of_eq g122.symm)
  have F128 : Fld Z h122 a122 "com/example/ratewright/ratewright/inference/GradientCorrection$NormalEquations" "size" "I" (.int (0 : Int32)) := D122 (Or.inr (word hw 25 rfl)) (ty := .int) (by decide)
  have F129 : Fld Z h122 a122 "com/example/ratewright/ratewright/inference/GradientCorrection$NormalEquations" "products" "[D" .null := D122 (Or.inr (word hw 27 rfl)) (ty := (.array .double)) (by decide)
  have F130 : Fld Z h122 a122 "com/example/ratewright/ratewright/inference/GradientCorrection$NormalEquations" "right" "[D" .null := D122 (Or.inr (word hw 29 rfl)) (ty := (.array .double)) (by decide)
  refine Go.dup X122.here hx (Jvm.hb hby d1_50) rfl (q := 51) rfl ?_
  refine Go.aloadN X122.here hx (Jvm.hb hby d1_51) rfl rfl (q := 52) rfl ?_
  have f132 := F107.ext E110
  have f133 := f132.other W116 (Or.inr (Jvm.RoadKit.slot_ne (Or.inr (word hw 14 rfl)) (Or.inl (word hw 16 rfl)) (by decide) (t := .int) (t' := (.array .double)) (by decide) (by decide)))
  have f134 := f133.ext E122
  refine Go.getf X122 hx hZ hown (word hw 13 rfl) e122 f134 (Jvm.hb hby d1_52) (q := 55) rfl ?_
  intro T131 X131 e131
  have z136 : n0 ≤ h122.size := Nat.le_trans z124 E122.1
  refine Go.special X131 hx hZ (y := (⟨"com/example/ratewright/ratewright/inference/GradientCorrection$NormalEquations", "<init>", "(I)V"⟩ : MethodName)) rfl hown (word hw 20 rfl) (word hw 21 rfl) (word hw 22 rfl) (word hw 19 rfl) (by decide) (rm_ne3 l Z a0 hw a122 (.int (0 : Int32)) .null .null h122 n0 z136 A122 F128 F129 F130 r125) e131 (a := a122) (argsL := [(.int (12 : Int32))]) (rest := [(.ref a122), (.ref a1)]) (W := 2) (Jvm.hb hby d1_55) rfl rfl (lenOf (pd0) rfl) (by rw [hml]; rfl) (Nat.le_of_eq rfl) (by decide) (by decide) (by decide) (by decide) (q := 58) rfl ?_
  intro T135 L135 w135 X135 hQ135
  obtain ⟨rfl, M135, K135, P135_0⟩ := hQ135
  have N135 := Fr.app N116 M135
  show Go p e below _ (T135.setTop (mkF m 58 #[.val (.ref a1), .val (.int (3 : Int32)), .val (.int w2), .val (.int (1 : Int32)), .unset] [(.ref a122), (.ref a1)]))
  have f138 := F4.other W104 (Or.inr (Jvm.RoadKit.slot_ne (Or.inr (word hw 31 rfl)) (Or.inr (word hw 12 rfl)) (by decide) (t := (.object "com/example/ratewright/ratewright/inference/GradientCorrection$NormalEquations")) (t' := .int) (by decide) (by decide)))
  have f139 := f138.other W107 (Or.inr (Jvm.RoadKit.slot_ne (Or.inr (word hw 31 rfl)) (Or.inr (word hw 14 rfl)) (by decide) (t := (.object "com/example/ratewright/ratewright/inference/GradientCorrection$NormalEquations")) (t' := .int) (by decide) (by decide)))
  have f140 := f139.ext E110
  have f141 := f140.other W116 (Or.inr (Jvm.RoadKit.slot_ne (Or.inr (word hw 31 rfl)) (Or.inl (word hw 16 rfl)) (by decide) (t := (.object "com/example/ratewright/ratewright/inference/GradientCorrection$NormalEquations")) (t' := (.array .double)) (by decide) (by decide)))
  have f142 := f141.ext E122
  have f144 := f121.wr W116
  have ne145 : a1 ≠ a122 := Nat.ne_of_lt (Nat.lt_of_lt_of_le f144.lt (Nat.le_of_eq g122.symm))
  have f143 := f142.keep K135 (ninS ne145 nin0)
  have f146 := f144.ext E122
  have f147 := f146.keep K135
  refine Go.putf X135 hx hZ hown (word hw 30 rfl) rfl f143 f147 (Or.inr ⟨(word hw 31 rfl), rfl, hnm⟩) (word hw 3 rfl) (ty := (.object "com/example/ratewright/ratewright/inference/GradientCorrection$NormalEquations")) (by decide) rfl rfl (Jvm.hb hby d1_58) (q := 61) rfl ?_
  intro T137 h137 X137 e137 W137
  have N137 := Fr.snoc X137 N135 g1
  have F137 := f143.same W137
  refine Go.aloadN X137.here hx (Jvm.hb hby d1_61) rfl rfl (q := 62) rfl ?_
  refine Go.new X137 hx hZ hown (word hw 17 rfl) (word hw 18 rfl) (word hw 19 rfl) e137 (Jvm.hb hby d1_62) (by decide) (by decide) (q := 65) rfl ?_
  intro T148 h148 a148 g148 X148 e148 E148 A148 D148
  have z149 : n0 ≤ T135.heap.size := Nat.le_trans z136 K135.1
  have z150 : n0 ≤ h137.size := Nat.le_trans z149 (Nat.le_of_eq W137.size.symm)
  have r151 : n0 ≤ a148 := Nat.le_trans z150 (Nat.le_of_eq g148.symm)
  have k152 : Keep h0 h122 [a1] := k127.ext E122
  have k153 : Keep h0 T135.heap [a1] := k152.trans K135 (allS (Or.inr y125) all0)
  have k154 : Keep h0 h137 [a1] := k153.wr W137 (Or.inl (List.mem_of_getElem? (i := 0) rfl))
  have y151 : h0.size ≤ a148 := Nat.le_trans k154.1 (Nat.le_of_eq g148.symm)
  have F155 : Fld Z h148 a148 "com/example/ratewright/ratewright/inference/GradientCorrection$NormalEquations" "size" "I" (.int (0 : Int32)) := D148 (Or.inr (word hw 25 rfl)) (ty := .int) (by decide)
  have F156 : Fld Z h148 a148 "com/example/ratewright/ratewright/inference/GradientCorrection$NormalEquations" "products" "[D" .null := D148 (Or.inr (word hw 27 rfl)) (ty := (.array .double)) (by decide)
  have F157 : Fld Z h148 a148 "com/example/ratewright/ratewright/inference/GradientCorrection$NormalEquations" "right" "[D" .null := D148 (Or.inr (word hw 29 rfl)) (ty := (.array .double)) (by decide)
  refine Go.dup X148.here hx (Jvm.hb hby d1_65) rfl (q := 66) rfl ?_
  refine Go.aloadN X148.here hx (Jvm.hb hby d1_66) rfl rfl (q := 67) rfl ?_
  have f159 := f134.keep K135 (ninS ne145 nin0)
  have f160 := f159.other W137 (Or.inr (Jvm.RoadKit.slot_ne (Or.inr (word hw 14 rfl)) (Or.inr (word hw 31 rfl)) (by decide) (t := .int) (t' := (.object "com/example/ratewright/ratewright/inference/GradientCorrection$NormalEquations")) (by decide) (by decide)))
  have f161 := f160.ext E148
  refine Go.getf X148 hx hZ hown (word hw 13 rfl) e148 f161 (Jvm.hb hby d1_67) (q := 70) rfl ?_
  intro T158 X158 e158
  have z163 : n0 ≤ h148.size := Nat.le_trans z150 E148.1
  refine Go.special X158 hx hZ (y := (⟨"com/example/ratewright/ratewright/inference/GradientCorrection$NormalEquations", "<init>", "(I)V"⟩ : MethodName)) rfl hown (word hw 20 rfl) (word hw 21 rfl) (word hw 22 rfl) (word hw 19 rfl) (by decide) (rm_ne3 l Z a0 hw a148 (.int (0 : Int32)) .null .null h148 n0 z163 A148 F155 F156 F157 r151) e158 (a := a148) (argsL := [(.int (12 : Int32))]) (rest := [(.ref a148), (.ref a1)]) (W := 2) (Jvm.hb hby d1_70) rfl rfl (lenOf (pd0) rfl) (by rw [hml]; rfl) (Nat.le_of_eq rfl) (by decide) (by decide) (by decide) (by decide) (q := 73) rfl ?_
  intro T162 L162 w162 X162 hQ162
  obtain ⟨rfl, M162, K162, P162_0⟩ := hQ162
  have N162 := Fr.app N137 M162
  show Go p e below _ (T162.setTop (mkF m 73 #[.val (.ref a1), .val (.int (3 : Int32)), .val (.int w2), .val (.int (1 : Int32)), .unset] [(.ref a148), (.ref a1)]))
  have f165 := F5.other W104 (Or.inr (Jvm.RoadKit.slot_ne (Or.inr (word hw 33 rfl)) (Or.inr (word hw 12 rfl)) (by decide) (t := (.object "com/example/ratewright/ratewright/inference/GradientCorrection$NormalEquations")) (t' := .int) (by decide) (by decide)))
  have f166 := f165.other W107 (Or.inr (Jvm.RoadKit.slot_ne (Or.inr (word hw 33 rfl)) (Or.inr (word hw 14 rfl)) (by decide) (t := (.object "com/example/ratewright/ratewright/inference/GradientCorrection$NormalEquations")) (t' := .int) (by decide) (by decide)))
  have f167 := f166.ext E110
  have f168 := f167.other W116 (Or.inr (Jvm.RoadKit.slot_ne (Or.inr (word hw 33 rfl)) (Or.inl (word hw 16 rfl)) (by decide) (t := (.object "com/example/ratewright/ratewright/inference/GradientCorrection$NormalEquations")) (t' := (.array .double)) (by decide) (by decide)))
  have f169 := f168.ext E122
  have f170 := f169.keep K135 (ninS ne145 nin0)
  have f171 := f170.other W137 (Or.inr (Jvm.RoadKit.slot_ne (Or.inr (word hw 33 rfl)) (Or.inr (word hw 31 rfl)) (by decide) (t := (.object "com/example/ratewright/ratewright/inference/GradientCorrection$NormalEquations")) (t' := (.object "com/example/ratewright/ratewright/inference/GradientCorrection$NormalEquations")) (by decide) (by decide)))
  have f172 := f171.ext E148
  have f174 := f147.wr W137
  have ne175 : a1 ≠ a148 := Nat.ne_of_lt (Nat.lt_of_lt_of_le f174.lt (Nat.le_of_eq g148.symm))
  have f173 := f172.keep K162 (ninS ne175 nin0)
  have f176 := f174.ext E148
  have f177 := f176.keep K162
  refine Go.putf X162 hx hZ hown (word hw 32 rfl) rfl f173 f177 (Or.inr ⟨(word hw 33 rfl), rfl, hnm⟩) (word hw 3 rfl) (ty := (.object "com/example/ratewright/ratewright/inference/GradientCorrection$NormalEquations")) (by decide) rfl rfl (Jvm.hb hby d1_73) (q := 76) rfl ?_
  intro T164 h164 X164 e164 W164
  have N164 := Fr.snoc X164 N162 g1
  have F164 := f173.same W164
  refine Go.aloadN X164.here hx (Jvm.hb hby d1_76) rfl rfl (q := 77) rfl ?_
  refine Go.iloadN X164.here hx (Jvm.hb hby d1_77) rfl (q := 78) rfl ?_
  have hc78_179 : ¬ ((1 : Int32) = (0 : Int32)) := by decide
  refine Go.ifN X164.here hx (Jvm.hb hby d1_78) ((if0 _ _).trans (feq hc78_179).1) (q := 81) rfl ?_
  refine Go.sipush X164.here hx (Jvm.hb hby d1_81) (v := (1000 : Int32)) rfl (q := 84) rfl ?_
  refine Go.goto X164.here hx (Jvm.hb hby d1_84) (by decide) (q := 88) rfl ?_
  refine Go.newarrs X164 hx hZ hown (ty := .double) (C := "[D") (by decide) (word hw 34 rfl) (word hw 35 rfl) e164 (Jvm.hb hby d1_88) (by decide) (k := 1000) (by decide) (by decide) (by decide) (by decide) (ad := "[[D") (by decide) (q := 91) rfl ?_
  intro T180 h180 a180 kk180 g180 X180 e180 E180 R180 A180
  have z181 : n0 ≤ T162.heap.size := Nat.le_trans z163 K162.1
  have z182 : n0 ≤ h164.size := Nat.le_trans z181 (Nat.le_of_eq W164.size.symm)
  have r183 : n0 ≤ a180 := Nat.le_trans z182 (Nat.le_of_eq g180.symm)
  have k184 : Keep h0 h148 [a1] := k154.ext E148
  have k185 : Keep h0 T162.heap [a1] := k184.trans K162 (allS (Or.inr y151) all0)
  have k186 : Keep h0 h164 [a1] := k185.wr W164 (Or.inl (List.mem_of_getElem? (i := 0) rfl))
  have y183 : h0.size ≤ a180 := Nat.le_trans k186.1 (Nat.le_of_eq g180.symm)
  have f188 := F6.other W104 (Or.inr (Jvm.RoadKit.slot_ne (Or.inr (word hw 37 rfl)) (Or.inr (word hw 12 rfl)) (by decide) (t := (.array (.array .double))) (t' := .int) (by decide) (by decide)))
  have f189 := f188.other W107 (Or.inr (Jvm.RoadKit.slot_ne (Or.inr (word hw 37 rfl)) (Or.inr (word hw 14 rfl)) (by decide) (t := (.array (.array .double))) (t' := .int) (by decide) (by decide)))
  have f190 := f189.ext E110
  have f191 := f190.other W116 (Or.inr (Jvm.RoadKit.slot_ne (Or.inr (word hw 37 rfl)) (Or.inl (word hw 16 rfl)) (by decide) (t := (.array (.array .double))) (t' := (.array .double)) (by decide) (by decide)))
  have f192 := f191.ext E122
  have f193 := f192.keep K135 (ninS ne145 nin0)
  have f194 := f193.other W137 (Or.inr (Jvm.RoadKit.slot_ne (Or.inr (word hw 37 rfl)) (Or.inr (word hw 31 rfl)) (by decide) (t := (.array (.array .double))) (t' := (.object "com/example/ratewright/ratewright/inference/GradientCorrection$NormalEquations")) (by decide) (by decide)))
  have f195 := f194.ext E148
  have f196 := f195.keep K162 (ninS ne175 nin0)
  have f197 := f196.other W164 (Or.inr (Jvm.RoadKit.slot_ne (Or.inr (word hw 37 rfl)) (Or.inr (word hw 33 rfl)) (by decide) (t := (.array (.array .double))) (t' := (.object "com/example/ratewright/ratewright/inference/GradientCorrection$NormalEquations")) (by decide) (by decide)))
  have f198 := f197.ext E180
  have f199 := f177.wr W164
  have f200 := f199.ext E180
  refine Go.putf X180 hx hZ hown (word hw 36 rfl) e180 f198 f200 (Or.inr ⟨(word hw 37 rfl), rfl, hnm⟩) (word hw 3 rfl) (ty := (.array (.array .double))) (by decide) rfl rfl (Jvm.hb hby d1_91) (q := 94) rfl ?_
  intro T187 h187 X187 e187 W187
  have N187 := Fr.snoc X187 N164 g1
  have F187 := f198.same W187
  refine Go.aloadN X187.here hx (Jvm.hb hby d1_94) rfl rfl (q := 95) rfl ?_
  refine Go.aloadN X187.here hx (Jvm.hb hby d1_95) rfl rfl (q := 96) rfl ?_
  refine Go.getf X187 hx hZ hown (word hw 36 rfl) e187 F187 (Jvm.hb hby d1_96) (q := 99) rfl ?_
  intro T201 X201 e201
  have ne203 : a1 ≠ a180 := Nat.ne_of_lt (Nat.lt_of_lt_of_le f199.lt (Nat.le_of_eq g180.symm))
  have f202 := R180.other W187 (Ne.symm ne203)
  refine Go.alen X201 hx hZ e201 f202 (Jvm.hb hby d1_99) (n := (1000 : Int32)) (by rw [List.length_replicate]; decide) (q := 100) rfl ?_
  refine Go.newarr X201 hx hZ (aty := .double) (word hw 0 rfl) e201 (Jvm.hb hby d1_100) (by decide) (k := 1000) (by decide) (by decide) (by decide) (by decide) (ad := "[D") (by decide) (q := 102) rfl ?_
  intro T204 h204 a204 kk204 g204 X204 e204 E204 R204 A204
  have z205 : n0 ≤ h180.size := Nat.le_trans z182 E180.1
  have z206 : n0 ≤ h187.size := Nat.le_trans z205 (Nat.le_of_eq W187.size.symm)
  have r207 : n0 ≤ a204 := Nat.le_trans z206 (Nat.le_of_eq g204.symm)
  have k208 : Keep h0 h180 [a1] := k186.ext E180
  have k209 : Keep h0 h187 [a1] := k208.wr W187 (Or.inl (List.mem_of_getElem? (i := 0) rfl))
  have y207 : h0.size ≤ a204 := Nat.le_trans k209.1 (Nat.le_of_eq g204.symm)
  have f211 := F7.other W104 (Or.inr (Jvm.RoadKit.slot_ne (Or.inr (word hw 39 rfl)) (Or.inr (word hw 12 rfl)) (by decide) (t := (.array .double)) (t' := .int) (by decide) (by decide)))
  have f212 := f211.other W107 (Or.inr (Jvm.RoadKit.slot_ne (Or.inr (word hw 39 rfl)) (Or.inr (word hw 14 rfl)) (by decide) (t := (.array .double)) (t' := .int) (by decide) (by decide)))
  have f213 := f212.ext E110
  have f214 := f213.other W116 (Or.inr (Jvm.RoadKit.slot_ne (Or.inr (word hw 39 rfl)) (Or.inl (word hw 16 rfl)) (by decide) (t := (.array .double)) (t' := (.array .double)) (by decide) (by decide)))
  have f215 := f214.ext E122
  have f216 := f215.keep K135 (ninS ne145 nin0)
  have f217 := f216.other W137 (Or.inr (Jvm.RoadKit.slot_ne (Or.inr (word hw 39 rfl)) (Or.inr (word hw 31 rfl)) (by decide) (t := (.array .double)) (t' := (.object "com/example/ratewright/ratewright/inference/GradientCorrection$NormalEquations")) (by decide) (by decide)))
  have f218 := f217.ext E148
  have f219 := f218.keep K162 (ninS ne175 nin0)
  have f220 := f219.other W164 (Or.inr (Jvm.RoadKit.slot_ne (Or.inr (word hw 39 rfl)) (Or.inr (word hw 33 rfl)) (by decide) (t := (.array .double)) (t' := (.object "com/example/ratewright/ratewright/inference/GradientCorrection$NormalEquations")) (by decide) (by decide)))
  have f221 := f220.ext E180
  have f222 := f221.other W187 (Or.inr (Jvm.RoadKit.slot_ne (Or.inr (word hw 39 rfl)) (Or.inr (word hw 37 rfl)) (by decide) (t := (.array .double)) (t' := (.array (.array .double))) (by decide) (by decide)))
  have f223 := f222.ext E204
  have f224 := f200.wr W187
  have f225 := f224.ext E204
  refine Go.putf X204 hx hZ hown (word hw 38 rfl) e204 f223 f225 (Or.inr ⟨(word hw 39 rfl), rfl, hnm⟩) (word hw 3 rfl) (ty := (.array .double)) (by decide) rfl rfl (Jvm.hb hby d1_102) (q := 105) rfl ?_
  intro T210 h210 X210 e210 W210
  have N210 := Fr.snoc X210 N187 g1
  have F210 := f223.same W210
  refine Go.iloadN X210.here hx (Jvm.hb hby d1_105) rfl (q := 106) rfl ?_
  have hc106_227 : ¬ ((1 : Int32) = (0 : Int32)) := by decide
  refine Go.ifN X210.here hx (Jvm.hb hby d1_106) ((if0 _ _).trans (feq hc106_227).1) (q := 109) rfl ?_
  refine Go.iloadN X210.here hx (Jvm.hb hby d1_109) rfl (q := 110) rfl ?_
  refine Go.goto X210.here hx (Jvm.hb hby d1_110) (by decide) (q := 114) rfl ?_
  refine Go.istore X210.here hx (Jvm.hb hby d1_114) (l2 := #[.val (.ref a1), .val (.int (3 : Int32)), .val (.int w2), .val (.int (1 : Int32)), .val (.int w2)]) rfl (q := 116) rfl ?_
  refine Go.aloadN X210.here hx (Jvm.hb hby d1_116) rfl rfl (q := 117) rfl ?_
  rcases hm with rfl | rfl | rfl | rfl
  · -- w2 = 0
    refine Go.iload X210.here hx (Jvm.hb hby d1_117) rfl (q := 119) rfl ?_
    refine Go.aloadN X210.here hx (Jvm.hb hby d1_119) rfl rfl (q := 120) rfl ?_
    have f229 := f161.keep K162 (ninS ne175 nin0)
    have f230 := f229.other W164 (Or.inr (Jvm.RoadKit.slot_ne (Or.inr (word hw 14 rfl)) (Or.inr (word hw 33 rfl)) (by decide) (t := .int) (t' := (.object "com/example/ratewright/ratewright/inference/GradientCorrection$NormalEquations")) (by decide) (by decide)))
    have f231 := f230.ext E180
    have f232 := f231.other W187 (Or.inr (Jvm.RoadKit.slot_ne (Or.inr (word hw 14 rfl)) (Or.inr (word hw 37 rfl)) (by decide) (t := .int) (t' := (.array (.array .double))) (by decide) (by decide)))
    have f233 := f232.ext E204
    have f234 := f233.other W210 (Or.inr (Jvm.RoadKit.slot_ne (Or.inr (word hw 14 rfl)) (Or.inr (word hw 39 rfl)) (by decide) (t := .int) (t' := (.array .double)) (by decide) (by decide)))
    refine Go.getf X210 hx hZ hown (word hw 13 rfl) e210 f234 (Jvm.hb hby d1_120) (q := 123) rfl ?_
    intro T228 X228 e228
    refine Go.grid X228 hx hZ hown (ty := .double) (C := "[D") (by decide) (by decide) (word hw 40 rfl) (word hw 35 rfl) (word hw 0 rfl) e228 (Jvm.hb hby d1_123) (by decide) (by decide) (N := 0) (by decide) (K := 12) (by decide) (by decide) (by decide) rfl rfl (by decide) (by decide) (q := 127) rfl ?_
    intro T235 h235 a235 g235 X235 e235 E235 A235
    have z236 : n0 ≤ h204.size := Nat.le_trans z206 E204.1
    have z237 : n0 ≤ h210.size := Nat.le_trans z236 (Nat.le_of_eq W210.size.symm)
    have r238 : n0 ≤ a235 := Nat.le_trans z237 (Nat.le_of_eq g235.symm)
    have k239 : Keep h0 h204 [a1] := k209.ext E204
    have k240 : Keep h0 h210 [a1] := k239.wr W210 (Or.inl (List.mem_of_getElem? (i := 0) rfl))
    have y238 : h0.size ≤ a235 := Nat.le_trans k240.1 (Nat.le_of_eq g235.symm)
    have f242 := F8.other W104 (Or.inr (Jvm.RoadKit.slot_ne (Or.inr (word hw 42 rfl)) (Or.inr (word hw 12 rfl)) (by decide) (t := (.array (.array .double))) (t' := .int) (by decide) (by decide)))
    have f243 := f242.other W107 (Or.inr (Jvm.RoadKit.slot_ne (Or.inr (word hw 42 rfl)) (Or.inr (word hw 14 rfl)) (by decide) (t := (.array (.array .double))) (t' := .int) (by decide) (by decide)))
    have f244 := f243.ext E110
    have f245 := f244.other W116 (Or.inr (Jvm.RoadKit.slot_ne (Or.inr (word hw 42 rfl)) (Or.inl (word hw 16 rfl)) (by decide) (t := (.array (.array .double))) (t' := (.array .double)) (by decide) (by decide)))
    have f246 := f245.ext E122
    have f247 := f246.keep K135 (ninS ne145 nin0)
    have f248 := f247.other W137 (Or.inr (Jvm.RoadKit.slot_ne (Or.inr (word hw 42 rfl)) (Or.inr (word hw 31 rfl)) (by decide) (t := (.array (.array .double))) (t' := (.object "com/example/ratewright/ratewright/inference/GradientCorrection$NormalEquations")) (by decide) (by decide)))
    have f249 := f248.ext E148
    have f250 := f249.keep K162 (ninS ne175 nin0)
    have f251 := f250.other W164 (Or.inr (Jvm.RoadKit.slot_ne (Or.inr (word hw 42 rfl)) (Or.inr (word hw 33 rfl)) (by decide) (t := (.array (.array .double))) (t' := (.object "com/example/ratewright/ratewright/inference/GradientCorrection$NormalEquations")) (by decide) (by decide)))
    have f252 := f251.ext E180
    have f253 := f252.other W187 (Or.inr (Jvm.RoadKit.slot_ne (Or.inr (word hw 42 rfl)) (Or.inr (word hw 37 rfl)) (by decide) (t := (.array (.array .double))) (t' := (.array (.array .double))) (by decide) (by decide)))
    have f254 := f253.ext E204
    have f255 := f254.other W210 (Or.inr (Jvm.RoadKit.slot_ne (Or.inr (word hw 42 rfl)) (Or.inr (word hw 39 rfl)) (by decide) (t := (.array (.array .double))) (t' := (.array .double)) (by decide) (by decide)))
    have f256 := f255.ext E235
    have f257 := f225.wr W210
    have f258 := f257.ext E235
    refine Go.putf X235 hx hZ hown (word hw 41 rfl) e235 f256 f258 (Or.inr ⟨(word hw 42 rfl), rfl, hnm⟩) (word hw 3 rfl) (ty := (.array (.array .double))) (by decide) rfl rfl (Jvm.hb hby d1_127) (q := 130) rfl ?_
    intro T241 h241 X241 e241 W241
    have N241 := Fr.snoc X241 N210 g1
    have F241 := f256.same W241
    refine Go.aloadN X241.here hx (Jvm.hb hby d1_130) rfl rfl (q := 131) rfl ?_
    refine Go.iload X241.here hx (Jvm.hb hby d1_131) rfl (q := 133) rfl ?_
    refine Go.newarr X241 hx hZ (aty := .double) (word hw 0 rfl) e241 (Jvm.hb hby d1_133) (by decide) (k := 0) (by decide) (by decide) (by decide) (by decide) (ad := "[D") (by decide) (q := 135) rfl ?_
    intro T259 h259 a259 kk259 g259 X259 e259 E259 R259 A259
    have z260 : n0 ≤ h235.size := Nat.le_trans z237 E235.1
    have z261 : n0 ≤ h241.size := Nat.le_trans z260 (Nat.le_of_eq W241.size.symm)
    have r262 : n0 ≤ a259 := Nat.le_trans z261 (Nat.le_of_eq g259.symm)
    have k263 : Keep h0 h235 [a1] := k240.ext E235
    have k264 : Keep h0 h241 [a1] := k263.wr W241 (Or.inl (List.mem_of_getElem? (i := 0) rfl))
    have y262 : h0.size ≤ a259 := Nat.le_trans k264.1 (Nat.le_of_eq g259.symm)
    have R259 : Row Z h259 a259 .double kk259 [] := R259
    have f266 := F9.other W104 (Or.inr (Jvm.RoadKit.slot_ne (Or.inr (word hw 44 rfl)) (Or.inr (word hw 12 rfl)) (by decide) (t := (.array .double)) (t' := .int) (by decide) (by decide)))
    have f267 := f266.other W107 (Or.inr (Jvm.RoadKit.slot_ne (Or.inr (word hw 44 rfl)) (Or.inr (word hw 14 rfl)) (by decide) (t := (.array .double)) (t' := .int) (by decide) (by decide)))
    have f268 := f267.ext E110
    have f269 := f268.other W116 (Or.inr (Jvm.RoadKit.slot_ne (Or.inr (word hw 44 rfl)) (Or.inl (word hw 16 rfl)) (by decide) (t := (.array .double)) (t' := (.array .double)) (by decide) (by decide)))
    have f270 := f269.ext E122
    have f271 := f270.keep K135 (ninS ne145 nin0)
    have f272 := f271.other W137 (Or.inr (Jvm.RoadKit.slot_ne (Or.inr (word hw 44 rfl)) (Or.inr (word hw 31 rfl)) (by decide) (t := (.array .double)) (t' := (.object "com/example/ratewright/ratewright/inference/GradientCorrection$NormalEquations")) (by decide) (by decide)))
    have f273 := f272.ext E148
    have f274 := f273.keep K162 (ninS ne175 nin0)
    have f275 := f274.other W164 (Or.inr (Jvm.RoadKit.slot_ne (Or.inr (word hw 44 rfl)) (Or.inr (word hw 33 rfl)) (by decide) (t := (.array .double)) (t' := (.object "com/example/ratewright/ratewright/inference/GradientCorrection$NormalEquations")) (by decide) (by decide)))
    have f276 := f275.ext E180
    have f277 := f276.other W187 (Or.inr (Jvm.RoadKit.slot_ne (Or.inr (word hw 44 rfl)) (Or.inr (word hw 37 rfl)) (by decide) (t := (.array .double)) (t' := (.array (.array .double))) (by decide) (by decide)))
    have f278 := f277.ext E204
    have f279 := f278.other W210 (Or.inr (Jvm.RoadKit.slot_ne (Or.inr (word hw 44 rfl)) (Or.inr (word hw 39 rfl)) (by decide) (t := (.array .double)) (t' := (.array .double)) (by decide) (by decide)))
    have f280 := f279.ext E235
    have f281 := f280.other W241 (Or.inr (Jvm.RoadKit.slot_ne (Or.inr (word hw 44 rfl)) (Or.inr (word hw 42 rfl)) (by decide) (t := (.array .double)) (t' := (.array (.array .double))) (by decide) (by decide)))
    have f282 := f281.ext E259
    have f283 := f258.wr W241
    have f284 := f283.ext E259
    refine Go.putf X259 hx hZ hown (word hw 43 rfl) e259 f282 f284 (Or.inr ⟨(word hw 44 rfl), rfl, hnm⟩) (word hw 3 rfl) (ty := (.array .double)) (by decide) rfl rfl (Jvm.hb hby d1_135) (q := 138) rfl ?_
    intro T265 h265 X265 e265 W265
    have N265 := Fr.snoc X265 N241 g1
    have F265 := f282.same W265
    have k285 : Keep h0 h259 [a1] := k264.ext E259
    have k286 : Keep h0 h265 [a1] := k285.wr W265 (Or.inl (List.mem_of_getElem? (i := 0) rfl))
    have f287 := f284.wr W265
    have f288 := F104.other W107 (Or.inr (Jvm.RoadKit.slot_ne (Or.inr (word hw 12 rfl)) (Or.inr (word hw 14 rfl)) (by decide) (t := .int) (t' := .int) (by decide) (by decide)))
    have f289 := f288.ext E110
    have f290 := f289.other W116 (Or.inr (Jvm.RoadKit.slot_ne (Or.inr (word hw 12 rfl)) (Or.inl (word hw 16 rfl)) (by decide) (t := .int) (t' := (.array .double)) (by decide) (by decide)))
    have f291 := f290.ext E122
    have f292 := f291.keep K135 (ninS ne145 nin0)
    have f293 := f292.other W137 (Or.inr (Jvm.RoadKit.slot_ne (Or.inr (word hw 12 rfl)) (Or.inr (word hw 31 rfl)) (by decide) (t := .int) (t' := (.object "com/example/ratewright/ratewright/inference/GradientCorrection$NormalEquations")) (by decide) (by decide)))
    have f294 := f293.ext E148
    have f295 := f294.keep K162 (ninS ne175 nin0)
    have f296 := f295.other W164 (Or.inr (Jvm.RoadKit.slot_ne (Or.inr (word hw 12 rfl)) (Or.inr (word hw 33 rfl)) (by decide) (t := .int) (t' := (.object "com/example/ratewright/ratewright/inference/GradientCorrection$NormalEquations")) (by decide) (by decide)))
    have f297 := f296.ext E180
    have f298 := f297.other W187 (Or.inr (Jvm.RoadKit.slot_ne (Or.inr (word hw 12 rfl)) (Or.inr (word hw 37 rfl)) (by decide) (t := .int) (t' := (.array (.array .double))) (by decide) (by decide)))
    have f299 := f298.ext E204
    have f300 := f299.other W210 (Or.inr (Jvm.RoadKit.slot_ne (Or.inr (word hw 12 rfl)) (Or.inr (word hw 39 rfl)) (by decide) (t := .int) (t' := (.array .double)) (by decide) (by decide)))
    have f301 := f300.ext E235
    have f302 := f301.other W241 (Or.inr (Jvm.RoadKit.slot_ne (Or.inr (word hw 12 rfl)) (Or.inr (word hw 42 rfl)) (by decide) (t := .int) (t' := (.array (.array .double))) (by decide) (by decide)))
    have f303 := f302.ext E259
    have f304 := f303.other W265 (Or.inr (Jvm.RoadKit.slot_ne (Or.inr (word hw 12 rfl)) (Or.inr (word hw 44 rfl)) (by decide) (t := .int) (t' := (.array .double)) (by decide) (by decide)))
    have f305 := F116.ext E122
    have f306 := f305.keep K135 (ninS ne145 nin0)
    have f307 := f306.other W137 (Or.inr (Jvm.RoadKit.slot_ne (Or.inl (word hw 16 rfl)) (Or.inr (word hw 31 rfl)) (by decide) (t := (.array .double)) (t' := (.object "com/example/ratewright/ratewright/inference/GradientCorrection$NormalEquations")) (by decide) (by decide)))
    have f308 := f307.ext E148
    have f309 := f308.keep K162 (ninS ne175 nin0)
    have f310 := f309.other W164 (Or.inr (Jvm.RoadKit.slot_ne (Or.inl (word hw 16 rfl)) (Or.inr (word hw 33 rfl)) (by decide) (t := (.array .double)) (t' := (.object "com/example/ratewright/ratewright/inference/GradientCorrection$NormalEquations")) (by decide) (by decide)))
    have f311 := f310.ext E180
    have f312 := f311.other W187 (Or.inr (Jvm.RoadKit.slot_ne (Or.inl (word hw 16 rfl)) (Or.inr (word hw 37 rfl)) (by decide) (t := (.array .double)) (t' := (.array (.array .double))) (by decide) (by decide)))
    have f313 := f312.ext E204
    have f314 := f313.other W210 (Or.inr (Jvm.RoadKit.slot_ne (Or.inl (word hw 16 rfl)) (Or.inr (word hw 39 rfl)) (by decide) (t := (.array .double)) (t' := (.array .double)) (by decide) (by decide)))
    have f315 := f314.ext E235
    have f316 := f315.other W241 (Or.inr (Jvm.RoadKit.slot_ne (Or.inl (word hw 16 rfl)) (Or.inr (word hw 42 rfl)) (by decide) (t := (.array .double)) (t' := (.array (.array .double))) (by decide) (by decide)))
    have f317 := f316.ext E259
    have f318 := f317.other W265 (Or.inr (Jvm.RoadKit.slot_ne (Or.inl (word hw 16 rfl)) (Or.inr (word hw 44 rfl)) (by decide) (t := (.array .double)) (t' := (.array .double)) (by decide) (by decide)))
    have ne320 : a1 ≠ a110 := Nat.ne_of_lt (Nat.lt_of_lt_of_le f120.lt (Nat.le_of_eq g110.symm))
    have f319 := R110.other W116 (Ne.symm ne320)
    have f321 := f319.ext E122
    have ne323 : a110 ≠ a122 := Nat.ne_of_lt (Nat.lt_of_lt_of_le f319.lt (Nat.le_of_eq g122.symm))
    have f322 := f321.keep K135 (ninS ne323 nin0)
    have f324 := f322.other W137 (Ne.symm ne320)
    have f325 := f324.ext E148
    have ne327 : a110 ≠ a148 := Nat.ne_of_lt (Nat.lt_of_lt_of_le f324.lt (Nat.le_of_eq g148.symm))
    have f326 := f325.keep K162 (ninS ne327 nin0)
    have f328 := f326.other W164 (Ne.symm ne320)
    have f329 := f328.ext E180
    have f330 := f329.other W187 (Ne.symm ne320)
    have f331 := f330.ext E204
    have f332 := f331.other W210 (Ne.symm ne320)
    have f333 := f332.ext E235
    have f334 := f333.other W241 (Ne.symm ne320)
    have f335 := f334.ext E259
    have f336 := f335.other W265 (Ne.symm ne320)
    refine Go.retV X265 hx hret hlk (Jvm.hb hby d1_138) (by decide) (by decide) ?_
    rw [e265]
    exact ⟨a110, kk110, rfl, N265, k286, y113, f287, f304, f318, f336⟩
  · -- w2 = 1
    refine Go.iload X210.here hx (Jvm.hb hby d1_117) rfl (q := 119) rfl ?_
    refine Go.aloadN X210.here hx (Jvm.hb hby d1_119) rfl rfl (q := 120) rfl ?_
    have f338 := f161.keep K162 (ninS ne175 nin0)
    have f339 := f338.other W164 (Or.inr (Jvm.RoadKit.slot_ne (Or.inr (word hw 14 rfl)) (Or.inr (word hw 33 rfl)) (by decide) (t := .int) (t' := (.object "com/example/ratewright/ratewright/inference/GradientCorrection$NormalEquations")) (by decide) (by decide)))
    have f340 := f339.ext E180
    have f341 := f340.other W187 (Or.inr (Jvm.RoadKit.slot_ne (Or.inr (word hw 14 rfl)) (Or.inr (word hw 37 rfl)) (by decide) (t := .int) (t' := (.array (.array .double))) (by decide) (by decide)))
    have f342 := f341.ext E204
    have f343 := f342.other W210 (Or.inr (Jvm.RoadKit.slot_ne (Or.inr (word hw 14 rfl)) (Or.inr (word hw 39 rfl)) (by decide) (t := .int) (t' := (.array .double)) (by decide) (by decide)))
    refine Go.getf X210 hx hZ hown (word hw 13 rfl) e210 f343 (Jvm.hb hby d1_120) (q := 123) rfl ?_
    intro T337 X337 e337
    refine Go.grid X337 hx hZ hown (ty := .double) (C := "[D") (by decide) (by decide) (word hw 40 rfl) (word hw 35 rfl) (word hw 0 rfl) e337 (Jvm.hb hby d1_123) (by decide) (by decide) (N := 1) (by decide) (K := 12) (by decide) (by decide) (by decide) rfl rfl (by decide) (by decide) (q := 127) rfl ?_
    intro T344 h344 a344 g344 X344 e344 E344 A344
    have z345 : n0 ≤ h204.size := Nat.le_trans z206 E204.1
    have z346 : n0 ≤ h210.size := Nat.le_trans z345 (Nat.le_of_eq W210.size.symm)
    have r347 : n0 ≤ a344 := Nat.le_trans z346 (Nat.le_of_eq g344.symm)
    have k348 : Keep h0 h204 [a1] := k209.ext E204
    have k349 : Keep h0 h210 [a1] := k348.wr W210 (Or.inl (List.mem_of_getElem? (i := 0) rfl))
    have y347 : h0.size ≤ a344 := Nat.le_trans k349.1 (Nat.le_of_eq g344.symm)
    have f351 := F8.other W104 (Or.inr (Jvm.RoadKit.slot_ne (Or.inr (word hw 42 rfl)) (Or.inr (word hw 12 rfl)) (by decide) (t := (.array (.array .double))) (t' := .int) (by decide) (by decide)))
    have f352 := f351.other W107 (Or.inr (Jvm.RoadKit.slot_ne (Or.inr (word hw 42 rfl)) (Or.inr (word hw 14 rfl)) (by decide) (t := (.array (.array .double))) (t' := .int) (by decide) (by decide)))
    have f353 := f352.ext E110
    have f354 := f353.other W116 (Or.inr (Jvm.RoadKit.slot_ne (Or.inr (word hw 42 rfl)) (Or.inl (word hw 16 rfl)) (by decide) (t := (.array (.array .double))) (t' := (.array .double)) (by decide) (by decide)))
    have f355 := f354.ext E122
    have f356 := f355.keep K135 (ninS ne145 nin0)
    have f357 := f356.other W137 (Or.inr (Jvm.RoadKit.slot_ne (Or.inr (word hw 42 rfl)) (Or.inr (word hw 31 rfl)) (by decide) (t := (.array (.array .double))) (t' := (.object "com/example/ratewright/ratewright/inference/GradientCorrection$NormalEquations")) (by decide) (by decide)))
    have f358 := f357.ext E148
    have f359 := f358.keep K162 (ninS ne175 nin0)
    have f360 := f359.other W164 (Or.inr (Jvm.RoadKit.slot_ne (Or.inr (word hw 42 rfl)) (Or.inr (word hw 33 rfl)) (by decide) (t := (.array (.array .double))) (t' := (.object "com/example/ratewright/ratewright/inference/GradientCorrection$NormalEquations")) (by decide) (by decide)))
    have f361 := f360.ext E180
    have f362 := f361.other W187 (Or.inr (Jvm.RoadKit.slot_ne (Or.inr (word hw 42 rfl)) (Or.inr (word hw 37 rfl)) (by decide) (t := (.array (.array .double))) (t' := (.array (.array .double))) (by decide) (by decide)))
    have f363 := f362.ext E204
    have f364 := f363.other W210 (Or.inr (Jvm.RoadKit.slot_ne (Or.inr (word hw 42 rfl)) (Or.inr (word hw 39 rfl)) (by decide) (t := (.array (.array .double))) (t' := (.array .double)) (by decide) (by decide)))
    have f365 := f364.ext E344
    have f366 := f225.wr W210
    have f367 := f366.ext E344
    refine Go.putf X344 hx hZ hown (word hw 41 rfl) e344 f365 f367 (Or.inr ⟨(word hw 42 rfl), rfl, hnm⟩) (word hw 3 rfl) (ty := (.array (.array .double))) (by decide) rfl rfl (Jvm.hb hby d1_127) (q := 130) rfl ?_
    intro T350 h350 X350 e350 W350
    have N350 := Fr.snoc X350 N210 g1
    have F350 := f365.same W350
    refine Go.aloadN X350.here hx (Jvm.hb hby d1_130) rfl rfl (q := 131) rfl ?_
    refine Go.iload X350.here hx (Jvm.hb hby d1_131) rfl (q := 133) rfl ?_
    refine Go.newarr X350 hx hZ (aty := .double) (word hw 0 rfl) e350 (Jvm.hb hby d1_133) (by decide) (k := 1) (by decide) (by decide) (by decide) (by decide) (ad := "[D") (by decide) (q := 135) rfl ?_
    intro T368 h368 a368 kk368 g368 X368 e368 E368 R368 A368
    have z369 : n0 ≤ h344.size := Nat.le_trans z346 E344.1
    have z370 : n0 ≤ h350.size := Nat.le_trans z369 (Nat.le_of_eq W350.size.symm)
    have r371 : n0 ≤ a368 := Nat.le_trans z370 (Nat.le_of_eq g368.symm)
    have k372 : Keep h0 h344 [a1] := k349.ext E344
    have k373 : Keep h0 h350 [a1] := k372.wr W350 (Or.inl (List.mem_of_getElem? (i := 0) rfl))
    have y371 : h0.size ≤ a368 := Nat.le_trans k373.1 (Nat.le_of_eq g368.symm)
    have R368 : Row Z h368 a368 .double kk368 [(.double (0 : UInt64))] := R368
    have f375 := F9.other W104 (Or.inr (Jvm.RoadKit.slot_ne (Or.inr (word hw 44 rfl)) (Or.inr (word hw 12 rfl)) (by decide) (t := (.array .double)) (t' := .int) (by decide) (by decide)))
    have f376 := f375.other W107 (Or.inr (Jvm.RoadKit.slot_ne (Or.inr (word hw 44 rfl)) (Or.inr (word hw 14 rfl)) (by decide) (t := (.array .double)) (t' := .int) (by decide) (by decide)))
    have f377 := f376.ext E110
    have f378 := f377.other W116 (Or.inr (Jvm.RoadKit.slot_ne (Or.inr (word hw 44 rfl)) (Or.inl (word hw 16 rfl)) (by decide) (t := (.array .double)) (t' := (.array .double)) (by decide) (by decide)))
    have f379 := f378.ext E122
    have f380 := f379.keep K135 (ninS ne145 nin0)
    have f381 := f380.other W137 (Or.inr (Jvm.RoadKit.slot_ne (Or.inr (word hw 44 rfl)) (Or.inr (word hw 31 rfl)) (by decide) (t := (.array .double)) (t' := (.object "com/example/ratewright/ratewright/inference/GradientCorrection$NormalEquations")) (by decide) (by decide)))
    have f382 := f381.ext E148
    have f383 := f382.keep K162 (ninS ne175 nin0)
    have f384 := f383.other W164 (Or.inr (Jvm.RoadKit.slot_ne (Or.inr (word hw 44 rfl)) (Or.inr (word hw 33 rfl)) (by decide) (t := (.array .double)) (t' := (.object "com/example/ratewright/ratewright/inference/GradientCorrection$NormalEquations")) (by decide) (by decide)))
    have f385 := f384.ext E180
    have f386 := f385.other W187 (Or.inr (Jvm.RoadKit.slot_ne (Or.inr (word hw 44 rfl)) (Or.inr (word hw 37 rfl)) (by decide) (t := (.array .double)) (t' := (.array (.array .double))) (by decide) (by decide)))
    have f387 := f386.ext E204
    have f388 := f387.other W210 (Or.inr (Jvm.RoadKit.slot_ne (Or.inr (word hw 44 rfl)) (Or.inr (word hw 39 rfl)) (by decide) (t := (.array .double)) (t' := (.array .double)) (by decide) (by decide)))
    have f389 := f388.ext E344
    have f390 := f389.other W350 (Or.inr (Jvm.RoadKit.slot_ne (Or.inr (word hw 44 rfl)) (Or.inr (word hw 42 rfl)) (by decide) (t := (.array .double)) (t' := (.array (.array .double))) (by decide) (by decide)))
    have f391 := f390.ext E368
    have f392 := f367.wr W350
    have f393 := f392.ext E368
    refine Go.putf X368 hx hZ hown (word hw 43 rfl) e368 f391 f393 (Or.inr ⟨(word hw 44 rfl), rfl, hnm⟩) (word hw 3 rfl) (ty := (.array .double)) (by decide) rfl rfl (Jvm.hb hby d1_135) (q := 138) rfl ?_
    intro T374 h374 X374 e374 W374
    have N374 := Fr.snoc X374 N350 g1
    have F374 := f391.same W374
    have k394 : Keep h0 h368 [a1] := k373.ext E368
    have k395 : Keep h0 h374 [a1] := k394.wr W374 (Or.inl (List.mem_of_getElem? (i := 0) rfl))
    have f396 := f393.wr W374
    have f397 := F104.other W107 (Or.inr (Jvm.RoadKit.slot_ne (Or.inr (word hw 12 rfl)) (Or.inr (word hw 14 rfl)) (by decide) (t := .int) (t' := .int) (by decide) (by decide)))
    have f398 := f397.ext E110
    have f399 := f398.other W116 (Or.inr (Jvm.RoadKit.slot_ne (Or.inr (word hw 12 rfl)) (Or.inl (word hw 16 rfl)) (by decide) (t := .int) (t' := (.array .double)) (by decide) (by decide)))
    have f400 := f399.ext E122
    have f401 := f400.keep K135 (ninS ne145 nin0)
    have f402 := f401.other W137 (Or.inr (Jvm.RoadKit.slot_ne (Or.inr (word hw 12 rfl)) (Or.inr (word hw 31 rfl)) (by decide) (t := .int) (t' := (.object "com/example/ratewright/ratewright/inference/GradientCorrection$NormalEquations")) (by decide) (by decide)))
    have f403 := f402.ext E148
    have f404 := f403.keep K162 (ninS ne175 nin0)
    have f405 := f404.other W164 (Or.inr (Jvm.RoadKit.slot_ne (Or.inr (word hw 12 rfl)) (Or.inr (word hw 33 rfl)) (by decide) (t := .int) (t' := (.object "com/example/ratewright/ratewright/inference/GradientCorrection$NormalEquations")) (by decide) (by decide)))
    have f406 := f405.ext E180
    have f407 := f406.other W187 (Or.inr (Jvm.RoadKit.slot_ne (Or.inr (word hw 12 rfl)) (Or.inr (word hw 37 rfl)) (by decide) (t := .int) (t' := (.array (.array .double))) (by decide) (by decide)))
    have f408 := f407.ext E204
    have f409 := f408.other W210 (Or.inr (Jvm.RoadKit.slot_ne (Or.inr (word hw 12 rfl)) (Or.inr (word hw 39 rfl)) (by decide) (t := .int) (t' := (.array .double)) (by decide) (by decide)))
    have f410 := f409.ext E344
    have f411 := f410.other W350 (Or.inr (Jvm.RoadKit.slot_ne (Or.inr (word hw 12 rfl)) (Or.inr (word hw 42 rfl)) (by decide) (t := .int) (t' := (.array (.array .double))) (by decide) (by decide)))
    have f412 := f411.ext E368
    have f413 := f412.other W374 (Or.inr (Jvm.RoadKit.slot_ne (Or.inr (word hw 12 rfl)) (Or.inr (word hw 44 rfl)) (by decide) (t := .int) (t' := (.array .double)) (by decide) (by decide)))
    have f414 := F116.ext E122
    have f415 := f414.keep K135 (ninS ne145 nin0)
    have f416 := f415.other W137 (Or.inr (Jvm.RoadKit.slot_ne (Or.inl (word hw 16 rfl)) (Or.inr (word hw 31 rfl)) (by decide) (t := (.array .double)) (t' := (.object "com/example/ratewright/ratewright/inference/GradientCorrection$NormalEquations")) (by decide) (by decide)))
    have f417 := f416.ext E148
    have f418 := f417.keep K162 (ninS ne175 nin0)
    have f419 := f418.other W164 (Or.inr (Jvm.RoadKit.slot_ne (Or.inl (word hw 16 rfl)) (Or.inr (word hw 33 rfl)) (by decide) (t := (.array .double)) (t' := (.object "com/example/ratewright/ratewright/inference/GradientCorrection$NormalEquations")) (by decide) (by decide)))
    have f420 := f419.ext E180
    have f421 := f420.other W187 (Or.inr (Jvm.RoadKit.slot_ne (Or.inl (word hw 16 rfl)) (Or.inr (word hw 37 rfl)) (by decide) (t := (.array .double)) (t' := (.array (.array .double))) (by decide) (by decide)))
    have f422 := f421.ext E204
    have f423 := f422.other W210 (Or.inr (Jvm.RoadKit.slot_ne (Or.inl (word hw 16 rfl)) (Or.inr (word hw 39 rfl)) (by decide) (t := (.array .double)) (t' := (.array .double)) (by decide) (by decide)))
    have f424 := f423.ext E344
    have f425 := f424.other W350 (Or.inr (Jvm.RoadKit.slot_ne (Or.inl (word hw 16 rfl)) (Or.inr (word hw 42 rfl)) (by decide) (t := (.array .double)) (t' := (.array (.array .double))) (by decide) (by decide)))
    have f426 := f425.ext E368
    have f427 := f426.other W374 (Or.inr (Jvm.RoadKit.slot_ne (Or.inl (word hw 16 rfl)) (Or.inr (word hw 44 rfl)) (by decide) (t := (.array .double)) (t' := (.array .double)) (by decide) (by decide)))
    have ne429 : a1 ≠ a110 := Nat.ne_of_lt (Nat.lt_of_lt_of_le f120.lt (Nat.le_of_eq g110.symm))
    have f428 := R110.other W116 (Ne.symm ne429)
    have f430 := f428.ext E122
    have ne432 : a110 ≠ a122 := Nat.ne_of_lt (Nat.lt_of_lt_of_le f428.lt (Nat.le_of_eq g122.symm))
    have f431 := f430.keep K135 (ninS ne432 nin0)
    have f433 := f431.other W137 (Ne.symm ne429)
    have f434 := f433.ext E148
    have ne436 : a110 ≠ a148 := Nat.ne_of_lt (Nat.lt_of_lt_of_le f433.lt (Nat.le_of_eq g148.symm))
    have f435 := f434.keep K162 (ninS ne436 nin0)
    have f437 := f435.other W164 (Ne.symm ne429)
    have f438 := f437.ext E180
    have f439 := f438.other W187 (Ne.symm ne429)
    have f440 := f439.ext E204
    have f441 := f440.other W210 (Ne.symm ne429)
    have f442 := f441.ext E344
    have f443 := f442.other W350 (Ne.symm ne429)
    have f444 := f443.ext E368
    have f445 := f444.other W374 (Ne.symm ne429)
    refine Go.retV X374 hx hret hlk (Jvm.hb hby d1_138) (by decide) (by decide) ?_
    rw [e374]
    exact ⟨a110, kk110, rfl, N374, k395, y113, f396, f413, f427, f445⟩
  · -- w2 = 2
    refine Go.iload X210.here hx (Jvm.hb hby d1_117) rfl (q := 119) rfl ?_
    refine Go.aloadN X210.here hx (Jvm.hb hby d1_119) rfl rfl (q := 120) rfl ?_
    have f447 := f161.keep K162 (ninS ne175 nin0)
    have f448 := f447.other W164 (Or.inr (Jvm.RoadKit.slot_ne (Or.inr (word hw 14 rfl)) (Or.inr (word hw 33 rfl)) (by decide) (t := .int) (t' := (.object "com/example/ratewright/ratewright/inference/GradientCorrection$NormalEquations")) (by decide) (by decide)))
    have f449 := f448.ext E180
    have f450 := f449.other W187 (Or.inr (Jvm.RoadKit.slot_ne (Or.inr (word hw 14 rfl)) (Or.inr (word hw 37 rfl)) (by decide) (t := .int) (t' := (.array (.array .double))) (by decide) (by decide)))
    have f451 := f450.ext E204
    have f452 := f451.other W210 (Or.inr (Jvm.RoadKit.slot_ne (Or.inr (word hw 14 rfl)) (Or.inr (word hw 39 rfl)) (by decide) (t := .int) (t' := (.array .double)) (by decide) (by decide)))
    refine Go.getf X210 hx hZ hown (word hw 13 rfl) e210 f452 (Jvm.hb hby d1_120) (q := 123) rfl ?_
    intro T446 X446 e446
    refine Go.grid X446 hx hZ hown (ty := .double) (C := "[D") (by decide) (by decide) (word hw 40 rfl) (word hw 35 rfl) (word hw 0 rfl) e446 (Jvm.hb hby d1_123) (by decide) (by decide) (N := 2) (by decide) (K := 12) (by decide) (by decide) (by decide) rfl rfl (by decide) (by decide) (q := 127) rfl ?_
    intro T453 h453 a453 g453 X453 e453 E453 A453
    have z454 : n0 ≤ h204.size := Nat.le_trans z206 E204.1
    have z455 : n0 ≤ h210.size := Nat.le_trans z454 (Nat.le_of_eq W210.size.symm)
    have r456 : n0 ≤ a453 := Nat.le_trans z455 (Nat.le_of_eq g453.symm)
    have k457 : Keep h0 h204 [a1] := k209.ext E204
    have k458 : Keep h0 h210 [a1] := k457.wr W210 (Or.inl (List.mem_of_getElem? (i := 0) rfl))
    have y456 : h0.size ≤ a453 := Nat.le_trans k458.1 (Nat.le_of_eq g453.symm)
    have f460 := F8.other W104 (Or.inr (Jvm.RoadKit.slot_ne (Or.inr (word hw 42 rfl)) (Or.inr (word hw 12 rfl)) (by decide) (t := (.array (.array .double))) (t' := .int) (by decide) (by decide)))
    have f461 := f460.other W107 (Or.inr (Jvm.RoadKit.slot_ne (Or.inr (word hw 42 rfl)) (Or.inr (word hw 14 rfl)) (by decide) (t := (.array (.array .double))) (t' := .int) (by decide) (by decide)))
    have f462 := f461.ext E110
    have f463 := f462.other W116 (Or.inr (Jvm.RoadKit.slot_ne (Or.inr (word hw 42 rfl)) (Or.inl (word hw 16 rfl)) (by decide) (t := (.array (.array .double))) (t' := (.array .double)) (by decide) (by decide)))
    have f464 := f463.ext E122
    have f465 := f464.keep K135 (ninS ne145 nin0)
    have f466 := f465.other W137 (Or.inr (Jvm.RoadKit.slot_ne (Or.inr (word hw 42 rfl)) (Or.inr (word hw 31 rfl)) (by decide) (t := (.array (.array .double))) (t' := (.object "com/example/ratewright/ratewright/inference/GradientCorrection$NormalEquations")) (by decide) (by decide)))
    have f467 := f466.ext E148
    have f468 := f467.keep K162 (ninS ne175 nin0)
    have f469 := f468.other W164 (Or.inr (Jvm.RoadKit.slot_ne (Or.inr (word hw 42 rfl)) (Or.inr (word hw 33 rfl)) (by decide) (t := (.array (.array .double))) (t' := (.object "com/example/ratewright/ratewright/inference/GradientCorrection$NormalEquations")) (by decide) (by decide)))
    have f470 := f469.ext E180
    have f471 := f470.other W187 (Or.inr (Jvm.RoadKit.slot_ne (Or.inr (word hw 42 rfl)) (Or.inr (word hw 37 rfl)) (by decide) (t := (.array (.array .double))) (t' := (.array (.array .double))) (by decide) (by decide)))
    have f472 := f471.ext E204
    have f473 := f472.other W210 (Or.inr (Jvm.RoadKit.slot_ne (Or.inr (word hw 42 rfl)) (Or.inr (word hw 39 rfl)) (by decide) (t := (.array (.array .double))) (t' := (.array .double)) (by decide) (by decide)))
    have f474 := f473.ext E453
    have f475 := f225.wr W210
    have f476 := f475.ext E453
    refine Go.putf X453 hx hZ hown (word hw 41 rfl) e453 f474 f476 (Or.inr ⟨(word hw 42 rfl), rfl, hnm⟩) (word hw 3 rfl) (ty := (.array (.array .double))) (by decide) rfl rfl (Jvm.hb hby d1_127) (q := 130) rfl ?_
    intro T459 h459 X459 e459 W459
    have N459 := Fr.snoc X459 N210 g1
    have F459 := f474.same W459
    refine Go.aloadN X459.here hx (Jvm.hb hby d1_130) rfl rfl (q := 131) rfl ?_
    refine Go.iload X459.here hx (Jvm.hb hby d1_131) rfl (q := 133) rfl ?_
    refine Go.newarr X459 hx hZ (aty := .double) (word hw 0 rfl) e459 (Jvm.hb hby d1_133) (by decide) (k := 2) (by decide) (by decide) (by decide) (by decide) (ad := "[D") (by decide) (q := 135) rfl ?_
    intro T477 h477 a477 kk477 g477 X477 e477 E477 R477 A477
    have z478 : n0 ≤ h453.size := Nat.le_trans z455 E453.1
    have z479 : n0 ≤ h459.size := Nat.le_trans z478 (Nat.le_of_eq W459.size.symm)
    have r480 : n0 ≤ a477 := Nat.le_trans z479 (Nat.le_of_eq g477.symm)
    have k481 : Keep h0 h453 [a1] := k458.ext E453
    have k482 : Keep h0 h459 [a1] := k481.wr W459 (Or.inl (List.mem_of_getElem? (i := 0) rfl))
    have y480 : h0.size ≤ a477 := Nat.le_trans k482.1 (Nat.le_of_eq g477.symm)
    have R477 : Row Z h477 a477 .double kk477 [(.double (0 : UInt64)), (.double (0 : UInt64))] := R477
    have f484 := F9.other W104 (Or.inr (Jvm.RoadKit.slot_ne (Or.inr (word hw 44 rfl)) (Or.inr (word hw 12 rfl)) (by decide) (t := (.array .double)) (t' := .int) (by decide) (by decide)))
    have f485 := f484.other W107 (Or.inr (Jvm.RoadKit.slot_ne (Or.inr (word hw 44 rfl)) (Or.inr (word hw 14 rfl)) (by decide) (t := (.array .double)) (t' := .int) (by decide) (by decide)))
    have f486 := f485.ext E110
    have f487 := f486.other W116 (Or.inr (Jvm.RoadKit.slot_ne (Or.inr (word hw 44 rfl)) (Or.inl (word hw 16 rfl)) (by decide) (t := (.array .double)) (t' := (.array .double)) (by decide) (by decide)))
    have f488 := f487.ext E122
    have f489 := f488.keep K135 (ninS ne145 nin0)
    have f490 := f489.other W137 (Or.inr (Jvm.RoadKit.slot_ne (Or.inr (word hw 44 rfl)) (Or.inr (word hw 31 rfl)) (by decide) (t := (.array .double)) (t' := (.object "com/example/ratewright/ratewright/inference/GradientCorrection$NormalEquations")) (by decide) (by decide)))
    have f491 := f490.ext E148
    have f492 := f491.keep K162 (ninS ne175 nin0)
    have f493 := f492.other W164 (Or.inr (Jvm.RoadKit.slot_ne (Or.inr (word hw 44 rfl)) (Or.inr (word hw 33 rfl)) (by decide) (t := (.array .double)) (t' := (.object "com/example/ratewright/ratewright/inference/GradientCorrection$NormalEquations")) (by decide) (by decide)))
    have f494 := f493.ext E180
    have f495 := f494.other W187 (Or.inr (Jvm.RoadKit.slot_ne (Or.inr (word hw 44 rfl)) (Or.inr (word hw 37 rfl)) (by decide) (t := (.array .double)) (t' := (.array (.array .double))) (by decide) (by decide)))
    have f496 := f495.ext E204
    have f497 := f496.other W210 (Or.inr (Jvm.RoadKit.slot_ne (Or.inr (word hw 44 rfl)) (Or.inr (word hw 39 rfl)) (by decide) (t := (.array .double)) (t' := (.array .double)) (by decide) (by decide)))
    have f498 := f497.ext E453
    have f499 := f498.other W459 (Or.inr (Jvm.RoadKit.slot_ne (Or.inr (word hw 44 rfl)) (Or.inr (word hw 42 rfl)) (by decide) (t := (.array .double)) (t' := (.array (.array .double))) (by decide) (by decide)))
    have f500 := f499.ext E477
    have f501 := f476.wr W459
    have f502 := f501.ext E477
    refine Go.putf X477 hx hZ hown (word hw 43 rfl) e477 f500 f502 (Or.inr ⟨(word hw 44 rfl), rfl, hnm⟩) (word hw 3 rfl) (ty := (.array .double)) (by decide) rfl rfl (Jvm.hb hby d1_135) (q := 138) rfl ?_
    intro T483 h483 X483 e483 W483
    have N483 := Fr.snoc X483 N459 g1
    have F483 := f500.same W483
    have k503 : Keep h0 h477 [a1] := k482.ext E477
    have k504 : Keep h0 h483 [a1] := k503.wr W483 (Or.inl (List.mem_of_getElem? (i := 0) rfl))
    have f505 := f502.wr W483
    have f506 := F104.other W107 (Or.inr (Jvm.RoadKit.slot_ne (Or.inr (word hw 12 rfl)) (Or.inr (word hw 14 rfl)) (by decide) (t := .int) (t' := .int) (by decide) (by decide)))
    have f507 := f506.ext E110
    have f508 := f507.other W116 (Or.inr (Jvm.RoadKit.slot_ne (Or.inr (word hw 12 rfl)) (Or.inl (word hw 16 rfl)) (by decide) (t := .int) (t' := (.array .double)) (by decide) (by decide)))
    have f509 := f508.ext E122
    have f510 := f509.keep K135 (ninS ne145 nin0)
    have f511 := f510.other W137 (Or.inr (Jvm.RoadKit.slot_ne (Or.inr (word hw 12 rfl)) (Or.inr (word hw 31 rfl)) (by decide) (t := .int) (t' := (.object "com/example/ratewright/ratewright/inference/GradientCorrection$NormalEquations")) (by decide) (by decide)))
    have f512 := f511.ext E148
    have f513 := f512.keep K162 (ninS ne175 nin0)
    have f514 := f513.other W164 (Or.inr (Jvm.RoadKit.slot_ne (Or.inr (word hw 12 rfl)) (Or.inr (word hw 33 rfl)) (by decide) (t := .int) (t' := (.object "com/example/ratewright/ratewright/inference/GradientCorrection$NormalEquations")) (by decide) (by decide)))
    have f515 := f514.ext E180
    have f516 := f515.other W187 (Or.inr (Jvm.RoadKit.slot_ne (Or.inr (word hw 12 rfl)) (Or.inr (word hw 37 rfl)) (by decide) (t := .int) (t' := (.array (.array .double))) (by decide) (by decide)))
    have f517 := f516.ext E204
    have f518 := f517.other W210 (Or.inr (Jvm.RoadKit.slot_ne (Or.inr (word hw 12 rfl)) (Or.inr (word hw 39 rfl)) (by decide) (t := .int) (t' := (.array .double)) (by decide) (by decide)))
    have f519 := f518.ext E453
    have f520 := f519.other W459 (Or.inr (Jvm.RoadKit.slot_ne (Or.inr (word hw 12 rfl)) (Or.inr (word hw 42 rfl)) (by decide) (t := .int) (t' := (.array (.array .double))) (by decide) (by decide)))
    have f521 := f520.ext E477
    have f522 := f521.other W483 (Or.inr (Jvm.RoadKit.slot_ne (Or.inr (word hw 12 rfl)) (Or.inr (word hw 44 rfl)) (by decide) (t := .int) (t' := (.array .double)) (by decide) (by decide)))
    have f523 := F116.ext E122
    have f524 := f523.keep K135 (ninS ne145 nin0)
    have f525 := f524.other W137 (Or.inr (Jvm.RoadKit.slot_ne (Or.inl (word hw 16 rfl)) (Or.inr (word hw 31 rfl)) (by decide) (t := (.array .double)) (t' := (.object "com/example/ratewright/ratewright/inference/GradientCorrection$NormalEquations")) (by decide) (by decide)))
    have f526 := f525.ext E148
    have f527 := f526.keep K162 (ninS ne175 nin0)
    have f528 := f527.other W164 (Or.inr (Jvm.RoadKit.slot_ne (Or.inl (word hw 16 rfl)) (Or.inr (word hw 33 rfl)) (by decide) (t := (.array .double)) (t' := (.object "com/example/ratewright/ratewright/inference/GradientCorrection$NormalEquations")) (by decide) (by decide)))
    have f529 := f528.ext E180
    have f530 := f529.other W187 (Or.inr (Jvm.RoadKit.slot_ne (Or.inl (word hw 16 rfl)) (Or.inr (word hw 37 rfl)) (by decide) (t := (.array .double)) (t' := (.array (.array .double))) (by decide) (by decide)))
    have f531 := f530.ext E204
    have f532 := f531.other W210 (Or.inr (Jvm.RoadKit.slot_ne (Or.inl (word hw 16 rfl)) (Or.inr (word hw 39 rfl)) (by decide) (t := (.array .double)) (t' := (.array .double)) (by decide) (by decide)))
    have f533 := f532.ext E453
    have f534 := f533.other W459 (Or.inr (Jvm.RoadKit.slot_ne (Or.inl (word hw 16 rfl)) (Or.inr (word hw 42 rfl)) (by decide) (t := (.array .double)) (t' := (.array (.array .double))) (by decide) (by decide)))
    have f535 := f534.ext E477
    have f536 := f535.other W483 (Or.inr (Jvm.RoadKit.slot_ne (Or.inl (word hw 16 rfl)) (Or.inr (word hw 44 rfl)) (by decide) (t := (.array .double)) (t' := (.array .double)) (by decide) (by decide)))
    have ne538 : a1 ≠ a110 := Nat.ne_of_lt (Nat.lt_of_lt_of_le f120.lt (Nat.le_of_eq g110.symm))
    have f537 := R110.other W116 (Ne.symm ne538)
    have f539 := f537.ext E122
    have ne541 : a110 ≠ a122 := Nat.ne_of_lt (Nat.lt_of_lt_of_le f537.lt (Nat.le_of_eq g122.symm))
    have f540 := f539.keep K135 (ninS ne541 nin0)
    have f542 := f540.other W137 (Ne.symm ne538)
    have f543 := f542.ext E148
    have ne545 : a110 ≠ a148 := Nat.ne_of_lt (Nat.lt_of_lt_of_le f542.lt (Nat.le_of_eq g148.symm))
    have f544 := f543.keep K162 (ninS ne545 nin0)
    have f546 := f544.other W164 (Ne.symm ne538)
    have f547 := f546.ext E180
    have f548 := f547.other W187 (Ne.symm ne538)
    have f549 := f548.ext E204
    have f550 := f549.other W210 (Ne.symm ne538)
    have f551 := f550.ext E453
    have f552 := f551.other W459 (Ne.symm ne538)
    have f553 := f552.ext E477
    have f554 := f553.other W483 (Ne.symm ne538)
    refine Go.retV X483 hx hret hlk (Jvm.hb hby d1_138) (by decide) (by decide) ?_
    rw [e483]
    exact ⟨a110, kk110, rfl, N483, k504, y113, f505, f522, f536, f554⟩
  · -- w2 = 3
    refine Go.iload X210.here hx (Jvm.hb hby d1_117) rfl (q := 119) rfl ?_
    refine Go.aloadN X210.here hx (Jvm.hb hby d1_119) rfl rfl (q := 120) rfl ?_
    have f556 := f161.keep K162 (ninS ne175 nin0)
    have f557 := f556.other W164 (Or.inr (Jvm.RoadKit.slot_ne (Or.inr (word hw 14 rfl)) (Or.inr (word hw 33 rfl)) (by decide) (t := .int) (t' := (.object "com/example/ratewright/ratewright/inference/GradientCorrection$NormalEquations")) (by decide) (by decide)))
    have f558 := f557.ext E180
    have f559 := f558.other W187 (Or.inr (Jvm.RoadKit.slot_ne (Or.inr (word hw 14 rfl)) (Or.inr (word hw 37 rfl)) (by decide) (t := .int) (t' := (.array (.array .double))) (by decide) (by decide)))
    have f560 := f559.ext E204
    have f561 := f560.other W210 (Or.inr (Jvm.RoadKit.slot_ne (Or.inr (word hw 14 rfl)) (Or.inr (word hw 39 rfl)) (by decide) (t := .int) (t' := (.array .double)) (by decide) (by decide)))
    refine Go.getf X210 hx hZ hown (word hw 13 rfl) e210 f561 (Jvm.hb hby d1_120) (q := 123) rfl ?_
    intro T555 X555 e555
    refine Go.grid X555 hx hZ hown (ty := .double) (C := "[D") (by decide) (by decide) (word hw 40 rfl) (word hw 35 rfl) (word hw 0 rfl) e555 (Jvm.hb hby d1_123) (by decide) (by decide) (N := 3) (by decide) (K := 12) (by decide) (by decide) (by decide) rfl rfl (by decide) (by decide) (q := 127) rfl ?_
    intro T562 h562 a562 g562 X562 e562 E562 A562
    have z563 : n0 ≤ h204.size := Nat.le_trans z206 E204.1
    have z564 : n0 ≤ h210.size := Nat.le_trans z563 (Nat.le_of_eq W210.size.symm)
    have r565 : n0 ≤ a562 := Nat.le_trans z564 (Nat.le_of_eq g562.symm)
    have k566 : Keep h0 h204 [a1] := k209.ext E204
    have k567 : Keep h0 h210 [a1] := k566.wr W210 (Or.inl (List.mem_of_getElem? (i := 0) rfl))
    have y565 : h0.size ≤ a562 := Nat.le_trans k567.1 (Nat.le_of_eq g562.symm)
    have f569 := F8.other W104 (Or.inr (Jvm.RoadKit.slot_ne (Or.inr (word hw 42 rfl)) (Or.inr (word hw 12 rfl)) (by decide) (t := (.array (.array .double))) (t' := .int) (by decide) (by decide)))
    have f570 := f569.other W107 (Or.inr (Jvm.RoadKit.slot_ne (Or.inr (word hw 42 rfl)) (Or.inr (word hw 14 rfl)) (by decide) (t := (.array (.array .double))) (t' := .int) (by decide) (by decide)))
    have f571 := f570.ext E110
    have f572 := f571.other W116 (Or.inr (Jvm.RoadKit.slot_ne (Or.inr (word hw 42 rfl)) (Or.inl (word hw 16 rfl)) (by decide) (t := (.array (.array .double))) (t' := (.array .double)) (by decide) (by decide)))
    have f573 := f572.ext E122
    have f574 := f573.keep K135 (ninS ne145 nin0)
    have f575 := f574.other W137 (Or.inr (Jvm.RoadKit.slot_ne (Or.inr (word hw 42 rfl)) (Or.inr (word hw 31 rfl)) (by decide) (t := (.array (.array .double))) (t' := (.object "com/example/ratewright/ratewright/inference/GradientCorrection$NormalEquations")) (by decide) (by decide)))
    have f576 := f575.ext E148
    have f577 := f576.keep K162 (ninS ne175 nin0)
    have f578 := f577.other W164 (Or.inr (Jvm.RoadKit.slot_ne (Or.inr (word hw 42 rfl)) (Or.inr (word hw 33 rfl)) (by decide) (t := (.array (.array .double))) (t' := (.object "com/example/ratewright/ratewright/inference/GradientCorrection$NormalEquations")) (by decide) (by decide)))
    have f579 := f578.ext E180
    have f580 := f579.other W187 (Or.inr (Jvm.RoadKit.slot_ne (Or.inr (word hw 42 rfl)) (Or.inr (word hw 37 rfl)) (by decide) (t := (.array (.array .double))) (t' := (.array (.array .double))) (by decide) (by decide)))
    have f581 := f580.ext E204
    have f582 := f581.other W210 (Or.inr (Jvm.RoadKit.slot_ne (Or.inr (word hw 42 rfl)) (Or.inr (word hw 39 rfl)) (by decide) (t := (.array (.array .double))) (t' := (.array .double)) (by decide) (by decide)))
    have f583 := f582.ext E562
    have f584 := f225.wr W210
    have f585 := f584.ext E562
    refine Go.putf X562 hx hZ hown (word hw 41 rfl) e562 f583 f585 (Or.inr ⟨(word hw 42 rfl), rfl, hnm⟩) (word hw 3 rfl) (ty := (.array (.array .double))) (by decide) rfl rfl (Jvm.hb hby d1_127) (q := 130) rfl ?_
    intro T568 h568 X568 e568 W568
    have N568 := Fr.snoc X568 N210 g1
    have F568 := f583.same W568
    refine Go.aloadN X568.here hx (Jvm.hb hby d1_130) rfl rfl (q := 131) rfl ?_
    refine Go.iload X568.here hx (Jvm.hb hby d1_131) rfl (q := 133) rfl ?_
    refine Go.newarr X568 hx hZ (aty := .double) (word hw 0 rfl) e568 (Jvm.hb hby d1_133) (by decide) (k := 3) (by decide) (by decide) (by decide) (by decide) (ad := "[D") (by decide) (q := 135) rfl ?_
    intro T586 h586 a586 kk586 g586 X586 e586 E586 R586 A586
    have z587 : n0 ≤ h562.size := Nat.le_trans z564 E562.1
    have z588 : n0 ≤ h568.size := Nat.le_trans z587 (Nat.le_of_eq W568.size.symm)
    have r589 : n0 ≤ a586 := Nat.le_trans z588 (Nat.le_of_eq g586.symm)
    have k590 : Keep h0 h562 [a1] := k567.ext E562
    have k591 : Keep h0 h568 [a1] := k590.wr W568 (Or.inl (List.mem_of_getElem? (i := 0) rfl))
    have y589 : h0.size ≤ a586 := Nat.le_trans k591.1 (Nat.le_of_eq g586.symm)
    have R586 : Row Z h586 a586 .double kk586 [(.double (0 : UInt64)), (.double (0 : UInt64)), (.double (0 : UInt64))] := R586
    have f593 := F9.other W104 (Or.inr (Jvm.RoadKit.slot_ne (Or.inr (word hw 44 rfl)) (Or.inr (word hw 12 rfl)) (by decide) (t := (.array .double)) (t' := .int) (by decide) (by decide)))
    have f594 := f593.other W107 (Or.inr (Jvm.RoadKit.slot_ne (Or.inr (word hw 44 rfl)) (Or.inr (word hw 14 rfl)) (by decide) (t := (.array .double)) (t' := .int) (by decide) (by decide)))
    have f595 := f594.ext E110
    have f596 := f595.other W116 (Or.inr (Jvm.RoadKit.slot_ne (Or.inr (word hw 44 rfl)) (Or.inl (word hw 16 rfl)) (by decide) (t := (.array .double)) (t' := (.array .double)) (by decide) (by decide)))
    have f597 := f596.ext E122
    have f598 := f597.keep K135 (ninS ne145 nin0)
    have f599 := f598.other W137 (Or.inr (Jvm.RoadKit.slot_ne (Or.inr (word hw 44 rfl)) (Or.inr (word hw 31 rfl)) (by decide) (t := (.array .double)) (t' := (.object "com/example/ratewright/ratewright/inference/GradientCorrection$NormalEquations")) (by decide) (by decide)))
    have f600 := f599.ext E148
    have f601 := f600.keep K162 (ninS ne175 nin0)
    have f602 := f601.other W164 (Or.inr (Jvm.RoadKit.slot_ne (Or.inr (word hw 44 rfl)) (Or.inr (word hw 33 rfl)) (by decide) (t := (.array .double)) (t' := (.object "com/example/ratewright/ratewright/inference/GradientCorrection$NormalEquations")) (by decide) (by decide)))
    have f603 := f602.ext E180
    have f604 := f603.other W187 (Or.inr (Jvm.RoadKit.slot_ne (Or.inr (word hw 44 rfl)) (Or.inr (word hw 37 rfl)) (by decide) (t := (.array .double)) (t' := (.array (.array .double))) (by decide) (by decide)))
    have f605 := f604.ext E204
    have f606 := f605.other W210 (Or.inr (Jvm.RoadKit.slot_ne (Or.inr (word hw 44 rfl)) (Or.inr (word hw 39 rfl)) (by decide) (t := (.array .double)) (t' := (.array .double)) (by decide) (by decide)))
    have f607 := f606.ext E562
    have f608 := f607.other W568 (Or.inr (Jvm.RoadKit.slot_ne (Or.inr (word hw 44 rfl)) (Or.inr (word hw 42 rfl)) (by decide) (t := (.array .double)) (t' := (.array (.array .double))) (by decide) (by decide)))
    have f609 := f608.ext E586
    have f610 := f585.wr W568
    have f611 := f610.ext E586
    refine Go.putf X586 hx hZ hown (word hw 43 rfl) e586 f609 f611 (Or.inr ⟨(word hw 44 rfl), rfl, hnm⟩) (word hw 3 rfl) (ty := (.array .double)) (by decide) rfl rfl (Jvm.hb hby d1_135) (q := 138) rfl ?_
    intro T592 h592 X592 e592 W592
    have N592 := Fr.snoc X592 N568 g1
    have F592 := f609.same W592
    have k612 : Keep h0 h586 [a1] := k591.ext E586
    have k613 : Keep h0 h592 [a1] := k612.wr W592 (Or.inl (List.mem_of_getElem? (i := 0) rfl))
    have f614 := f611.wr W592
    have f615 := F104.other W107 (Or.inr (Jvm.RoadKit.slot_ne (Or.inr (word hw 12 rfl)) (Or.inr (word hw 14 rfl)) (by decide) (t := .int) (t' := .int) (by decide) (by decide)))
    have f616 := f615.ext E110
    have f617 := f616.other W116 (Or.inr (Jvm.RoadKit.slot_ne (Or.inr (word hw 12 rfl)) (Or.inl (word hw 16 rfl)) (by decide) (t := .int) (t' := (.array .double)) (by decide) (by decide)))
    have f618 := f617.ext E122
    have f619 := f618.keep K135 (ninS ne145 nin0)
    have f620 := f619.other W137 (Or.inr (Jvm.RoadKit.slot_ne (Or.inr (word hw 12 rfl)) (Or.inr (word hw 31 rfl)) (by decide) (t := .int) (t' := (.object "com/example/ratewright/ratewright/inference/GradientCorrection$NormalEquations")) (by decide) (by decide)))
    have f621 := f620.ext E148
    have f622 := f621.keep K162 (ninS ne175 nin0)
    have f623 := f622.other W164 (Or.inr (Jvm.RoadKit.slot_ne (Or.inr (word hw 12 rfl)) (Or.inr (word hw 33 rfl)) (by decide) (t := .int) (t' := (.object "com/example/ratewright/ratewright/inference/GradientCorrection$NormalEquations")) (by decide) (by decide)))
    have f624 := f623.ext E180
    have f625 := f624.other W187 (Or.inr (Jvm.RoadKit.slot_ne (Or.inr (word hw 12 rfl)) (Or.inr (word hw 37 rfl)) (by decide) (t := .int) (t' := (.array (.array .double))) (by decide) (by decide)))
    have f626 := f625.ext E204
    have f627 := f626.other W210 (Or.inr (Jvm.RoadKit.slot_ne (Or.inr (word hw 12 rfl)) (Or.inr (word hw 39 rfl)) (by decide) (t := .int) (t' := (.array .double)) (by decide) (by decide)))
    have f628 := f627.ext E562
    have f629 := f628.other W568 (Or.inr (Jvm.RoadKit.slot_ne (Or.inr (word hw 12 rfl)) (Or.inr (word hw 42 rfl)) (by decide) (t := .int) (t' := (.array (.array .double))) (by decide) (by decide)))
    have f630 := f629.ext E586
    have f631 := f630.other W592 (Or.inr (Jvm.RoadKit.slot_ne (Or.inr (word hw 12 rfl)) (Or.inr (word hw 44 rfl)) (by decide) (t := .int) (t' := (.array .double)) (by decide) (by decide)))
    have f632 := F116.ext E122
    have f633 := f632.keep K135 (ninS ne145 nin0)
    have f634 := f633.other W137 (Or.inr (Jvm.RoadKit.slot_ne (Or.inl (word hw 16 rfl)) (Or.inr (word hw 31 rfl)) (by decide) (t := (.array .double)) (t' := (.object "com/example/ratewright/ratewright/inference/GradientCorrection$NormalEquations")) (by decide) (by decide)))
    have f635 := f634.ext E148
    have f636 := f635.keep K162 (ninS ne175 nin0)
    have f637 := f636.other W164 (Or.inr (Jvm.RoadKit.slot_ne (Or.inl (word hw 16 rfl)) (Or.inr (word hw 33 rfl)) (by decide) (t := (.array .double)) (t' := (.object "com/example/ratewright/ratewright/inference/GradientCorrection$NormalEquations")) (by decide) (by decide)))
    have f638 := f637.ext E180
    have f639 := f638.other W187 (Or.inr (Jvm.RoadKit.slot_ne (Or.inl (word hw 16 rfl)) (Or.inr (word hw 37 rfl)) (by decide) (t := (.array .double)) (t' := (.array (.array .double))) (by decide) (by decide)))
    have f640 := f639.ext E204
    have f641 := f640.other W210 (Or.inr (Jvm.RoadKit.slot_ne (Or.inl (word hw 16 rfl)) (Or.inr (word hw 39 rfl)) (by decide) (t := (.array .double)) (t' := (.array .double)) (by decide) (by decide)))
    have f642 := f641.ext E562
    have f643 := f642.other W568 (Or.inr (Jvm.RoadKit.slot_ne (Or.inl (word hw 16 rfl)) (Or.inr (word hw 42 rfl)) (by decide) (t := (.array .double)) (t' := (.array (.array .double))) (by decide) (by decide)))
    have f644 := f643.ext E586
    have f645 := f644.other W592 (Or.inr (Jvm.RoadKit.slot_ne (Or.inl (word hw 16 rfl)) (Or.inr (word hw 44 rfl)) (by decide) (t := (.array .double)) (t' := (.array .double)) (by decide) (by decide)))
    have ne647 : a1 ≠ a110 := Nat.ne_of_lt (Nat.lt_of_lt_of_le f120.lt (Nat.le_of_eq g110.symm))
    have f646 := R110.other W116 (Ne.symm ne647)
    have f648 := f646.ext E122
    have ne650 : a110 ≠ a122 := Nat.ne_of_lt (Nat.lt_of_lt_of_le f646.lt (Nat.le_of_eq g122.symm))
    have f649 := f648.keep K135 (ninS ne650 nin0)
    have f651 := f649.other W137 (Ne.symm ne647)
    have f652 := f651.ext E148
    have ne654 : a110 ≠ a148 := Nat.ne_of_lt (Nat.lt_of_lt_of_le f651.lt (Nat.le_of_eq g148.symm))
    have f653 := f652.keep K162 (ninS ne654 nin0)
    have f655 := f653.other W164 (Ne.symm ne647)
    have f656 := f655.ext E180
    have f657 := f656.other W187 (Ne.symm ne647)
    have f658 := f657.ext E204
    have f659 := f658.other W210 (Ne.symm ne647)
    have f660 := f659.ext E562
    have f661 := f660.other W568 (Ne.symm ne647)
    have f662 := f661.ext E586
    have f663 := f662.other W592 (Ne.symm ne647)
    refine Go.retV X592 hx hret hlk (Jvm.hb hby d1_138) (by decide) (by decide) ?_
    rw [e592]
    exact ⟨a110, kk110, rfl, N592, k613, y113, f614, f631, f645, f663⟩
set_option maxRecDepth 65536 in
set_option maxHeartbeats 40000000 in
theorem rm_app3 (l : Launch) (Z : State) (a0 : Array Value) (hw : ∀ d ∈ tables_1, d.before a0 Z = true) (a1 : Addr) (ax : Addr) (ag : Addr) (ak : Addr) (ac : Addr) (kx : ClassId) (kg : ClassId) (kk : ClassId) (kc : ClassId) (g0 : UInt64) (g1 : UInt64) (g2 : UInt64) (g3 : UInt64) (g4 : UInt64) (x0 : UInt64) (x1 : UInt64) (x2 : UInt64) (x3 : UInt64) (x4 : UInt64) (c0 : UInt64) (c1 : UInt64) (c2 : UInt64) (c3 : UInt64) (c4 : UInt64) (h0 : Heap) (n0 : Nat) (Z0 : n0 ≤ h0.size) (F1 : Fld Z h0 a1 "com/example/ratewright/ratewright/inference/GradientCorrection" "dimension" "I" (.int (3 : Int32))) (F2 : Fld Z h0 a1 "com/example/ratewright/ratewright/inference/GradientCorrection" "coefficients" "[D" (.ref ac)) (R1 : Row Z h0 ax .double kx [(.double x0), (.double x1), (.double x2), (.double x3), (.double x4)]) (R2 : Row Z h0 ag .double kg [(.double g0), (.double g1), (.double g2), (.double g3), (.double g4)]) (R3 : Row Z h0 ak .double kk [(.double c0), (.double c1), (.double c2), (.double c3), (.double c4)]) (R4 : Row Z h0 ac .double kc [(.double (0 : UInt64)), (.double (0 : UInt64)), (.double (0 : UInt64)), (.double (0 : UInt64)), (.double (0 : UInt64)), (.double (0 : UInt64)), (.double (0 : UInt64)), (.double (0 : UInt64)), (.double (0 : UInt64)), (.double (0 : UInt64)), (.double (0 : UInt64)), (.double (0 : UInt64))]) (i1 : ak ≠ ax) (i2 : ak ≠ ag) (i3 : ak ≠ ac) (i4 : ak ≠ a1) (fr1 : n0 ≤ ak) (hn : own_ok g0 x0 ∧ own_ok g1 x1 ∧ own_ok g2 x2 ∧ True) :
    Con l Z (⟨"com/example/ratewright/ratewright/inference/GradientCorrection", "apply", "([D[D[D)V"⟩ : MethodName) prog_4_method_2_code 9 none ({ frames := 0, cells := 0, slots := 0, locals := 0 } : Room) #[(.ref a1), (.ref ax), (.ref ag), (.ref ak)] h0 (fun vR hR LR => vR = none ∧ Fr n0 LR ∧ Keep h0 hR [ak] ∧ Row Z hR ak .double kk [(.double (own_r g0 x0)), (.double (own_r g1 x1)), (.double (own_r g2 x2)), (.double c3), (.double c4)]) := by
  refine enter (l := l) (Z := Z) (y := (⟨"com/example/ratewright/ratewright/inference/GradientCorrection", "apply", "([D[D[D)V"⟩ : MethodName)) (bytes := prog_4_method_2_code) (maxL := 9) (ret := none) (ws := []) (rm := ({ frames := 0, cells := 0, slots := 0, locals := 0 } : Room)) (as' := #[(.ref a1), (.ref ax), (.ref ag), (.ref ak)]) (h0 := h0) (Qv := (fun vR hR LR => vR = none ∧ Fr n0 LR ∧ Keep h0 hR [ak] ∧ Row Z hR ak .double kk [(.double (own_r g0 x0)), (.double (own_r g1 x1)), (.double (own_r g2 x2)), (.double c3), (.double c4)])) (kc := 0) (ks := 0) (by first | exact plainFor_of_name (by first | (simp [plainName, overriddenIn]; done) | decide +kernel) | decide +kernel) (Ls := #[.val (.ref a1), .val (.ref ax), .val (.ref ag), .val (.ref ak), .unset, .unset, .unset, .unset, .unset]) (fun m => by first | (simp [entryFrame, mkF, argsToLocals, Value.category]; done) | rfl) ?_
  intro p e s m below meth c s₁ hx hby hml hown hnm hret hlk hZ X0 e0
  have hown : s.vm.findClass "com/example/ratewright/ratewright/inference/GradientCorrection" = some m.cls := hown
  have hml : c.maxLocals = 9 := hml
  have N0 := Fr.nil n0
  refine Go.iconst X0.here hx (Jvm.hb hby d4_0) (v := (0 : Int32)) rfl (q := 1) rfl ?_
  refine Go.istore X0.here hx (Jvm.hb hby d4_1) (l2 := #[.val (.ref a1), .val (.ref ax), .val (.ref ag), .val (.ref ak), .val (.int (0 : Int32)), .unset, .unset, .unset, .unset]) rfl (q := 3) rfl ?_
  refine Go.iload X0.here hx (Jvm.hb hby d4_3) rfl (q := 5) rfl ?_
  refine Go.aloadN X0.here hx (Jvm.hb hby d4_5) rfl rfl (q := 6) rfl ?_
  refine Go.getf X0 hx hZ hown (word hw 11 rfl) e0 F1 (Jvm.hb hby d4_6) (q := 9) rfl ?_
  intro T101 X101 e101
  have hc9_103 : (0 : Int32) < (3 : Int32) := by decide
  refine Go.icmpN X101.here hx (Jvm.hb hby d4_9) (tlt hc9_103).2.1 (q := 12) rfl ?_
  refine Go.aloadN X101.here hx (Jvm.hb hby d4_12) rfl rfl (q := 13) rfl ?_
  refine Go.iload X101.here hx (Jvm.hb hby d4_13) rfl (q := 15) rfl ?_
  refine Go.daload X101 hx hZ e101 R2 (Jvm.hb hby d4_15) (i := 0) (by decide) (by decide) rfl (q := 16) rfl ?_
  refine Go.dstore X101.here hx (Jvm.hb hby d4_16) (l2 := #[.val (.ref a1), .val (.ref ax), .val (.ref ag), .val (.ref ak), .val (.int (0 : Int32)), .val (.double g0), .second, .unset, .unset]) rfl (q := 18) rfl ?_
  refine Go.aloadN X101.here hx (Jvm.hb hby d4_18) rfl rfl (q := 19) rfl ?_
  refine Go.iload X101.here hx (Jvm.hb hby d4_19) rfl (q := 21) rfl ?_
  refine Go.daload X101 hx hZ e101 R1 (Jvm.hb hby d4_21) (i := 0) (by decide) (by decide) rfl (q := 22) rfl ?_
  refine Go.dstore X101.here hx (Jvm.hb hby d4_22) (l2 := #[.val (.ref a1), .val (.ref ax), .val (.ref ag), .val (.ref ak), .val (.int (0 : Int32)), .val (.double g0), .second, .val (.double x0), .second]) rfl (q := 24) rfl ?_
  refine Go.aloadN X101.here hx (Jvm.hb hby d4_24) rfl rfl (q := 25) rfl ?_
  refine Go.iload X101.here hx (Jvm.hb hby d4_25) rfl (q := 27) rfl ?_
  refine Go.dload X101.here hx (Jvm.hb hby d4_27) rfl (q := 29) rfl ?_
  refine Go.aloadN X101.here hx (Jvm.hb hby d4_29) rfl rfl (q := 30) rfl ?_
  refine Go.getf X101 hx hZ hown (word hw 15 rfl) e101 F2 (Jvm.hb hby d4_30) (q := 33) rfl ?_
  intro T104 X104 e104
  refine Go.iload X104.here hx (Jvm.hb hby d4_33) rfl (q := 35) rfl ?_
  refine Go.daload X104 hx hZ e104 R4 (Jvm.hb hby d4_35) (i := 0) (by decide) (by decide) rfl (q := 36) rfl ?_
  obtain ⟨u36, hu36⟩ : ∃ zq, FP.dadd g0 (0 : UInt64) = zq := ⟨_, rfl⟩
  refine Go.dadd X104.here hx (Jvm.hb hby d4_36) (by subst_vars; first | exact hn.1.1 | exact hn.2.1.1 | exact hn.2.2.1.1) hu36 (q := 37) rfl ?_
  refine Go.aloadN X104.here hx (Jvm.hb hby d4_37) rfl rfl (q := 38) rfl ?_
  refine Go.getf X104 hx hZ hown (word hw 15 rfl) e104 F2 (Jvm.hb hby d4_38) (q := 41) rfl ?_
  intro T105 X105 e105
  refine Go.aloadN X105.here hx (Jvm.hb hby d4_41) rfl rfl (q := 42) rfl ?_
  refine Go.getf X105 hx hZ hown (word hw 11 rfl) e105 F1 (Jvm.hb hby d4_42) (q := 45) rfl ?_
  intro T106 X106 e106
  refine Go.iload X106.here hx (Jvm.hb hby d4_45) rfl (q := 47) rfl ?_
  refine Go.iadd X106.here hx (Jvm.hb hby d4_47) (v := (3 : Int32)) (by decide) (q := 48) rfl ?_
  refine Go.daload X106 hx hZ e106 R4 (Jvm.hb hby d4_48) (i := 3) (by decide) (by decide) rfl (q := 49) rfl ?_
  refine Go.dload X106.here hx (Jvm.hb hby d4_49) rfl (q := 51) rfl ?_
  obtain ⟨u51, hu51⟩ : ∃ zq, FP.dmul (0 : UInt64) x0 = zq := ⟨_, rfl⟩
  refine Go.dmul X106.here hx (Jvm.hb hby d4_51) (by subst_vars; first | exact hn.1.2.1 | exact hn.2.1.2.1 | exact hn.2.2.1.2.1) hu51 (q := 52) rfl ?_
  obtain ⟨u52, hu52⟩ : ∃ zq, FP.dadd u36 u51 = zq := ⟨_, rfl⟩
  refine Go.dadd X106.here hx (Jvm.hb hby d4_52) (by subst_vars; first | exact hn.1.2.2.1 | exact hn.2.1.2.2.1 | exact hn.2.2.1.2.2.1) hu52 (q := 53) rfl ?_
  refine Go.aloadN X106.here hx (Jvm.hb hby d4_53) rfl rfl (q := 54) rfl ?_
  refine Go.getf X106 hx hZ hown (word hw 15 rfl) e106 F2 (Jvm.hb hby d4_54) (q := 57) rfl ?_
  intro T107 X107 e107
  refine Go.iconst X107.here hx (Jvm.hb hby d4_57) (v := (2 : Int32)) rfl (q := 58) rfl ?_
  refine Go.aloadN X107.here hx (Jvm.hb hby d4_58) rfl rfl (q := 59) rfl ?_
  refine Go.getf X107 hx hZ hown (word hw 11 rfl) e107 F1 (Jvm.hb hby d4_59) (q := 62) rfl ?_
  intro T108 X108 e108
  refine Go.imul X108.here hx (Jvm.hb hby d4_62) (v := (6 : Int32)) (by decide) (q := 63) rfl ?_
  refine Go.iload X108.here hx (Jvm.hb hby d4_63) rfl (q := 65) rfl ?_
  refine Go.iadd X108.here hx (Jvm.hb hby d4_65) (v := (6 : Int32)) (by decide) (q := 66) rfl ?_
  refine Go.daload X108 hx hZ e108 R4 (Jvm.hb hby d4_66) (i := 6) (by decide) (by decide) rfl (q := 67) rfl ?_
  refine Go.dload X108.here hx (Jvm.hb hby d4_67) rfl (q := 69) rfl ?_
  obtain ⟨u69, hu69⟩ : ∃ zq, FP.dmul (0 : UInt64) g0 = zq := ⟨_, rfl⟩
  refine Go.dmul X108.here hx (Jvm.hb hby d4_69) (by subst_vars; first | exact hn.1.2.2.2.1 | exact hn.2.1.2.2.2.1 | exact hn.2.2.1.2.2.2.1) hu69 (q := 70) rfl ?_
  obtain ⟨u70, hu70⟩ : ∃ zq, FP.dadd u52 u69 = zq := ⟨_, rfl⟩
  refine Go.dadd X108.here hx (Jvm.hb hby d4_70) (by subst_vars; first | exact hn.1.2.2.2.2.1 | exact hn.2.1.2.2.2.2.1 | exact hn.2.2.1.2.2.2.2.1) hu70 (q := 71) rfl ?_
  refine Go.aloadN X108.here hx (Jvm.hb hby d4_71) rfl rfl (q := 72) rfl ?_
  refine Go.getf X108 hx hZ hown (word hw 15 rfl) e108 F2 (Jvm.hb hby d4_72) (q := 75) rfl ?_
  intro T109 X109 e109
  refine Go.iconst X109.here hx (Jvm.hb hby d4_75) (v := (3 : Int32)) rfl (q := 76) rfl ?_
  refine Go.aloadN X109.here hx (Jvm.hb hby d4_76) rfl rfl (q := 77) rfl ?_
  refine Go.getf X109 hx hZ hown (word hw 11 rfl) e109 F1 (Jvm.hb hby d4_77) (q := 80) rfl ?_
  intro T110 X110 e110
  refine Go.imul X110.here hx (Jvm.hb hby d4_80) (v := (9 : Int32)) (by decide) (q := 81) rfl ?_
  refine Go.iload X110.here hx (Jvm.hb hby d4_81) rfl (q := 83) rfl ?_
  refine Go.iadd X110.here hx (Jvm.hb hby d4_83) (v := (9 : Int32)) (by decide) (q := 84) rfl ?_
  refine Go.daload X110 hx hZ e110 R4 (Jvm.hb hby d4_84) (i := 9) (by decide) (by decide) rfl (q := 85) rfl ?_
  refine Go.dload X110.here hx (Jvm.hb hby d4_85) rfl (q := 87) rfl ?_
  obtain ⟨u87, hu87⟩ : ∃ zq, FP.dmul (0 : UInt64) x0 = zq := ⟨_, rfl⟩
  refine Go.dmul X110.here hx (Jvm.hb hby d4_87) (by subst_vars; first | exact hn.1.2.1 | exact hn.2.1.2.1 | exact hn.2.2.1.2.1) hu87 (q := 88) rfl ?_
  refine Go.dload X110.here hx (Jvm.hb hby d4_88) rfl (q := 90) rfl ?_
  obtain ⟨u90, hu90⟩ : ∃ zq, FP.dmul u87 g0 = zq := ⟨_, rfl⟩
  refine Go.dmul X110.here hx (Jvm.hb hby d4_90) (by subst_vars; first | exact hn.1.2.2.2.2.2.1 | exact hn.2.1.2.2.2.2.2.1 | exact hn.2.2.1.2.2.2.2.2.1) hu90 (q := 91) rfl ?_
  obtain ⟨u91, hu91⟩ : ∃ zq, FP.dadd u70 u90 = zq := ⟨_, rfl⟩
  refine Go.dadd X110.here hx (Jvm.hb hby d4_91) (by subst_vars; first | exact hn.1.2.2.2.2.2.2 | exact hn.2.1.2.2.2.2.2.2 | exact hn.2.2.1.2.2.2.2.2.2) hu91 (q := 92) rfl ?_
  refine Go.dastore X110 hx hZ e110 R3 (Jvm.hb hby d4_92) (i := 0) (by decide) (by decide) rfl (q := 93) rfl ?_
  intro T111 h111 X111 e111 W111 R111
  have N111 := Fr.snoc X111 N0 fr1
  have R111 : Row Z h111 ak .double kk [(.double u91), (.double c1), (.double c2), (.double c3), (.double c4)] := R111
  refine Go.iinc X111.here hx (Jvm.hb hby d4_93) rfl (v := (1 : Int32)) (by decide) (l2 := #[.val (.ref a1), .val (.ref ax), .val (.ref ag), .val (.ref ak), .val (.int (1 : Int32)), .val (.double g0), .second, .val (.double x0), .second]) rfl (q := 96) rfl ?_
  refine Go.goto X111.here hx (Jvm.hb hby d4_96) (by decide) (q := 3) rfl ?_
  refine Go.iload X111.here hx (Jvm.hb hby d4_3) rfl (q := 5) rfl ?_
  refine Go.aloadN X111.here hx (Jvm.hb hby d4_5) rfl rfl (q := 6) rfl ?_
  have f113 := F1.other W111 (Or.inl (Ne.symm i4))
  refine Go.getf X111 hx hZ hown (word hw 11 rfl) e111 f113 (Jvm.hb hby d4_6) (q := 9) rfl ?_
  intro T112 X112 e112
  have hc9_115 : (1 : Int32) < (3 : Int32) := by decide
  refine Go.icmpN X112.here hx (Jvm.hb hby d4_9) (tlt hc9_115).2.1 (q := 12) rfl ?_
  refine Go.aloadN X112.here hx (Jvm.hb hby d4_12) rfl rfl (q := 13) rfl ?_
  refine Go.iload X112.here hx (Jvm.hb hby d4_13) rfl (q := 15) rfl ?_
  have f116 := R2.other W111 (Ne.symm i2)
  refine Go.daload X112 hx hZ e112 f116 (Jvm.hb hby d4_15) (i := 1) (by decide) (by decide) rfl (q := 16) rfl ?_
  refine Go.dstore X112.here hx (Jvm.hb hby d4_16) (l2 := #[.val (.ref a1), .val (.ref ax), .val (.ref ag), .val (.ref ak), .val (.int (1 : Int32)), .val (.double g1), .second, .val (.double x0), .second]) rfl (q := 18) rfl ?_
  refine Go.aloadN X112.here hx (Jvm.hb hby d4_18) rfl rfl (q := 19) rfl ?_
  refine Go.iload X112.here hx (Jvm.hb hby d4_19) rfl (q := 21) rfl ?_
  have f117 := R1.other W111 (Ne.symm i1)
  refine Go.daload X112 hx hZ e112 f117 (Jvm.hb hby d4_21) (i := 1) (by decide) (by decide) rfl (q := 22) rfl ?_
  refine Go.dstore X112.here hx (Jvm.hb hby d4_22) (l2 := #[.val (.ref a1), .val (.ref ax), .val (.ref ag), .val (.ref ak), .val (.int (1 : Int32)), .val (.double g1), .second, .val (.double x1), .second]) rfl (q := 24) rfl ?_
  refine Go.aloadN X112.here hx (Jvm.hb hby d4_24) rfl rfl (q := 25) rfl ?_
  refine Go.iload X112.here hx (Jvm.hb hby d4_25) rfl (q := 27) rfl ?_
  refine Go.dload X112.here hx (Jvm.hb hby d4_27) rfl (q := 29) rfl ?_
  refine Go.aloadN X112.here hx (Jvm.hb hby d4_29) rfl rfl (q := 30) rfl ?_
  have f119 := F2.other W111 (Or.inl (Ne.symm i4))
  refine Go.getf X112 hx hZ hown (word hw 15 rfl) e112 f119 (Jvm.hb hby d4_30) (q := 33) rfl ?_
  intro T118 X118 e118
  refine Go.iload X118.here hx (Jvm.hb hby d4_33) rfl (q := 35) rfl ?_
  have f120 := R4.other W111 (Ne.symm i3)
  refine Go.daload X118 hx hZ e118 f120 (Jvm.hb hby d4_35) (i := 1) (by decide) (by decide) rfl (q := 36) rfl ?_
  obtain ⟨u36_1, hu36_1⟩ : ∃ zq, FP.dadd g1 (0 : UInt64) = zq := ⟨_, rfl⟩
  refine Go.dadd X118.here hx (Jvm.hb hby d4_36) (by subst_vars; first | exact hn.1.1 | exact hn.2.1.1 | exact hn.2.2.1.1) hu36_1 (q := 37) rfl ?_
  refine Go.aloadN X118.here hx (Jvm.hb hby d4_37) rfl rfl (q := 38) rfl ?_
  refine Go.getf X118 hx hZ hown (word hw 15 rfl) e118 f119 (Jvm.hb hby d4_38) (q := 41) rfl ?_
  intro T121 X121 e121
  refine Go.aloadN X121.here hx (Jvm.hb hby d4_41) rfl rfl (q := 42) rfl ?_
  refine Go.getf X121 hx hZ hown (word hw 11 rfl) e121 f113 (Jvm.hb hby d4_42) (q := 45) rfl ?_
  intro T122 X122 e122
  refine Go.iload X122.here hx (Jvm.hb hby d4_45) rfl (q := 47) rfl ?_
  refine Go.iadd X122.here hx (Jvm.hb hby d4_47) (v := (4 : Int32)) (by decide) (q := 48) rfl ?_
  refine Go.daload X122 hx hZ e122 f120 (Jvm.hb hby d4_48) (i := 4) (by decide) (by decide) rfl (q := 49) rfl ?_
  refine Go.dload X122.here hx (Jvm.hb hby d4_49) rfl (q := 51) rfl ?_
  obtain ⟨u51_1, hu51_1⟩ : ∃ zq, FP.dmul (0 : UInt64) x1 = zq := ⟨_, rfl⟩
  refine Go.dmul X122.here hx (Jvm.hb hby d4_51) (by subst_vars; first | exact hn.1.2.1 | exact hn.2.1.2.1 | exact hn.2.2.1.2.1) hu51_1 (q := 52) rfl ?_
  obtain ⟨u52_1, hu52_1⟩ : ∃ zq, FP.dadd u36_1 u51_1 = zq := ⟨_, rfl⟩
  refine Go.dadd X122.here hx (Jvm.hb hby d4_52) (by subst_vars; first | exact hn.1.2.2.1 | exact hn.2.1.2.2.1 | exact hn.2.2.1.2.2.1) hu52_1 (q := 53) rfl ?_
  refine Go.aloadN X122.here hx (Jvm.hb hby d4_53) rfl rfl (q := 54) rfl ?_
  refine Go.getf X122 hx hZ hown (word hw 15 rfl) e122 f119 (Jvm.hb hby d4_54) (q := 57) rfl ?_
  intro T123 X123 e123
  refine Go.iconst X123.here hx (Jvm.hb hby d4_57) (v := (2 : Int32)) rfl (q := 58) rfl ?_
  refine Go.aloadN X123.here hx (Jvm.hb hby d4_58) rfl rfl (q := 59) rfl ?_
  refine Go.getf X123 hx hZ hown (word hw 11 rfl) e123 f113 (Jvm.hb hby d4_59) (q := 62) rfl ?_
  intro T124 X124 e124
  refine Go.imul X124.here hx (Jvm.hb hby d4_62) (v := (6 : Int32)) (by decide) (q := 63) rfl ?_
  refine Go.iload X124.here hx (Jvm.hb hby d4_63) rfl (q := 65) rfl ?_
  refine Go.iadd X124.here hx (Jvm.hb hby d4_65) (v := (7 : Int32)) (by decide) (q := 66) rfl ?_
  refine Go.daload X124 hx hZ e124 f120 (Jvm.hb hby d4_66) (i := 7) (by decide) (by decide) rfl (q := 67) rfl ?_
  refine Go.dload X124.here hx (Jvm.hb hby d4_67) rfl (q := 69) rfl ?_
  obtain ⟨u69_1, hu69_1⟩ : ∃ zq, FP.dmul (0 : UInt64) g1 = zq := ⟨_, rfl⟩
  refine Go.dmul X124.here hx (Jvm.hb hby d4_69) (by subst_vars; first | exact hn.1.2.2.2.1 | exact hn.2.1.2.2.2.1 | exact hn.2.2.1.2.2.2.1) hu69_1 (q := 70) rfl ?_
  obtain ⟨u70_1, hu70_1⟩ : ∃ zq, FP.dadd u52_1 u69_1 = zq := ⟨_, rfl⟩
  refine Go.dadd X124.here hx (Jvm.hb hby d4_70) (by subst_vars; first | exact hn.1.2.2.2.2.1 | exact hn.2.1.2.2.2.2.1 | exact hn.2.2.1.2.2.2.2.1) hu70_1 (q := 71) rfl ?_
  refine Go.aloadN X124.here hx (Jvm.hb hby d4_71) rfl rfl (q := 72) rfl ?_
  refine Go.getf X124 hx hZ hown (word hw 15 rfl) e124 f119 (Jvm.hb hby d4_72) (q := 75) rfl ?_
  intro T125 X125 e125
  refine Go.iconst X125.here hx (Jvm.hb hby d4_75) (v := (3 : Int32)) rfl (q := 76) rfl ?_
  refine Go.aloadN X125.here hx (Jvm.hb hby d4_76) rfl rfl (q := 77) rfl ?_
  refine Go.getf X125 hx hZ hown (word hw 11 rfl) e125 f113 (Jvm.hb hby d4_77) (q := 80) rfl ?_
  intro T126 X126 e126
  refine Go.imul X126.here hx (Jvm.hb hby d4_80) (v := (9 : Int32)) (by decide) (q := 81) rfl ?_
  refine Go.iload X126.here hx (Jvm.hb hby d4_81) rfl (q := 83) rfl ?_
  refine Go.iadd X126.here hx (Jvm.hb hby d4_83) (v := (10 : Int32)) (by decide) (q := 84) rfl ?_
  refine Go.daload X126 hx hZ e126 f120 (Jvm.hb hby d4_84) (i := 10) (by decide) (by decide) rfl (q := 85) rfl ?_
  refine Go.dload X126.here hx (Jvm.hb hby d4_85) rfl (q := 87) rfl ?_
  obtain ⟨u87_1, hu87_1⟩ : ∃ zq, FP.dmul (0 : UInt64) x1 = zq := ⟨_, rfl⟩
  refine Go.dmul X126.here hx (Jvm.hb hby d4_87) (by subst_vars; first | exact hn.1.2.1 | exact hn.2.1.2.1 | exact hn.2.2.1.2.1) hu87_1 (q := 88) rfl ?_
  refine Go.dload X126.here hx (Jvm.hb hby d4_88) rfl (q := 90) rfl ?_
  obtain ⟨u90_1, hu90_1⟩ : ∃ zq, FP.dmul u87_1 g1 = zq := ⟨_, rfl⟩
  refine Go.dmul X126.here hx (Jvm.hb hby d4_90) (by subst_vars; first | exact hn.1.2.2.2.2.2.1 | exact hn.2.1.2.2.2.2.2.1 | exact hn.2.2.1.2.2.2.2.2.1) hu90_1 (q := 91) rfl ?_
  obtain ⟨u91_1, hu91_1⟩ : ∃ zq, FP.dadd u70_1 u90_1 = zq := ⟨_, rfl⟩
  refine Go.dadd X126.here hx (Jvm.hb hby d4_91) (by subst_vars; first | exact hn.1.2.2.2.2.2.2 | exact hn.2.1.2.2.2.2.2.2 | exact hn.2.2.1.2.2.2.2.2.2) hu91_1 (q := 92) rfl ?_
  refine Go.dastore X126 hx hZ e126 R111 (Jvm.hb hby d4_92) (i := 1) (by decide) (by decide) rfl (q := 93) rfl ?_
  intro T127 h127 X127 e127 W127 R127
  have N127 := Fr.snoc X127 N111 fr1
  have R127 : Row Z h127 ak .double kk [(.double u91), (.double u91_1), (.double c2), (.double c3), (.double c4)] := R127
  refine Go.iinc X127.here hx (Jvm.hb hby d4_93) rfl (v := (2 : Int32)) (by decide) (l2 := #[.val (.ref a1), .val (.ref ax), .val (.ref ag), .val (.ref ak), .val (.int (2 : Int32)), .val (.double g1), .second, .val (.double x1), .second]) rfl (q := 96) rfl ?_
  refine Go.goto X127.here hx (Jvm.hb hby d4_96) (by decide) (q := 3) rfl ?_
  refine Go.iload X127.here hx (Jvm.hb hby d4_3) rfl (q := 5) rfl ?_
  refine Go.aloadN X127.here hx (Jvm.hb hby d4_5) rfl rfl (q := 6) rfl ?_
  have f129 := f113.other W127 (Or.inl (Ne.symm i4))
  refine Go.getf X127 hx hZ hown (word hw 11 rfl) e127 f129 (Jvm.hb hby d4_6) (q := 9) rfl ?_
  intro T128 X128 e128
  have hc9_131 : (2 : Int32) < (3 : Int32) := by decide
  refine Go.icmpN X128.here hx (Jvm.hb hby d4_9) (tlt hc9_131).2.1 (q := 12) rfl ?_
  refine Go.aloadN X128.here hx (Jvm.hb hby d4_12) rfl rfl (q := 13) rfl ?_
  refine Go.iload X128.here hx (Jvm.hb hby d4_13) rfl (q := 15) rfl ?_
  have f132 := f116.other W127 (Ne.symm i2)
  refine Go.daload X128 hx hZ e128 f132 (Jvm.hb hby d4_15) (i := 2) (by decide) (by decide) rfl (q := 16) rfl ?_
  refine Go.dstore X128.here hx (Jvm.hb hby d4_16) (l2 := #[.val (.ref a1), .val (.ref ax), .val (.ref ag), .val (.ref ak), .val (.int (2 : Int32)), .val (.double g2), .second, .val (.double x1), .second]) rfl (q := 18) rfl ?_
  refine Go.aloadN X128.here hx (Jvm.hb hby d4_18) rfl rfl (q := 19) rfl ?_
  refine Go.iload X128.here hx (Jvm.hb hby d4_19) rfl (q := 21) rfl ?_
  have f133 := f117.other W127 (Ne.symm i1)
  refine Go.daload X128 hx hZ e128 f133 (Jvm.hb hby d4_21) (i := 2) (by decide) (by decide) rfl (q := 22) rfl ?_
  refine Go.dstore X128.here hx (Jvm.hb hby d4_22) (l2 := #[.val (.ref a1), .val (.ref ax), .val (.ref ag), .val (.ref ak), .val (.int (2 : Int32)), .val (.double g2), .second, .val (.double x2), .second]) rfl (q := 24) rfl ?_
  refine Go.aloadN X128.here hx (Jvm.hb hby d4_24) rfl rfl (q := 25) rfl ?_
  refine Go.iload X128.here hx (Jvm.hb hby d4_25) rfl (q := 27) rfl ?_
  refine Go.dload X128.here hx (Jvm.hb hby d4_27) rfl (q := 29) rfl ?_
  refine Go.aloadN X128.here hx (Jvm.hb hby d4_29) rfl rfl (q := 30) rfl ?_
  have f135 := f119.other W127 (Or.inl (Ne.symm i4))
  refine Go.getf X128 hx hZ hown (word hw 15 rfl) e128 f135 (Jvm.hb hby d4_30) (q := 33) rfl ?_
  intro T134 X134 e134
  refine Go.iload X134.here hx (Jvm.hb hby d4_33) rfl (q := 35) rfl ?_
  have f136 := f120.other W127 (Ne.symm i3)
  refine Go.daload X134 hx hZ e134 f136 (Jvm.hb hby d4_35) (i := 2) (by decide) (by decide) rfl (q := 36) rfl ?_
  obtain ⟨u36_2, hu36_2⟩ : ∃ zq, FP.dadd g2 (0 : UInt64) = zq := ⟨_, rfl⟩
  refine Go.dadd X134.here hx (Jvm.hb hby d4_36) (by subst_vars; first | exact hn.1.1 | exact hn.2.1.1 | exact hn.2.2.1.1) hu36_2 (q := 37) rfl ?_
  refine Go.aloadN X134.here hx (Jvm.hb hby d4_37) rfl rfl (q := 38) rfl ?_
  refine Go.getf X134 hx hZ hown (word hw 15 rfl) e134 f135 (Jvm.hb hby d4_38) (q := 41) rfl ?_
  intro T137 X137 e137
  refine Go.aloadN X137.here hx (Jvm.hb hby d4_41) rfl rfl (q := 42) rfl ?_
  refine Go.getf X137 hx hZ hown (word hw 11 rfl) e137 f129 (Jvm.hb hby d4_42) (q := 45) rfl ?_
  intro T138 X138 e138
  refine Go.iload X138.here hx (Jvm.hb hby d4_45) rfl (q := 47) rfl ?_
  refine Go.iadd X138.here hx (Jvm.hb hby d4_47) (v := (5 : Int32)) (by decide) (q := 48) rfl ?_
  refine Go.daload X138 hx hZ e138 f136 (Jvm.hb hby d4_48) (i := 5) (by decide) (by decide) rfl (q := 49) rfl ?_
  refine Go.dload X138.here hx (Jvm.hb hby d4_49) rfl (q := 51) rfl ?_
  obtain ⟨u51_2, hu51_2⟩ : ∃ zq, FP.dmul (0 : UInt64) x2 = zq := ⟨_, rfl⟩
  refine Go.dmul X138.here hx (Jvm.hb hby d4_51) (by subst_vars; first | exact hn.1.2.1 | exact hn.2.1.2.1 | exact hn.2.2.1.2.1) hu51_2 (q := 52) rfl ?_
  obtain ⟨u52_2, hu52_2⟩ : ∃ zq, FP.dadd u36_2 u51_2 = zq := ⟨_, rfl⟩
  refine Go.dadd X138.here hx (Jvm.hb hby d4_52) (by subst_vars; first | exact hn.1.2.2.1 | exact hn.2.1.2.2.1 | exact hn.2.2.1.2.2.1) hu52_2 (q := 53) rfl ?_
  refine Go.aloadN X138.here hx (Jvm.hb hby d4_53) rfl rfl (q := 54) rfl ?_
  refine Go.getf X138 hx hZ hown (word hw 15 rfl) e138 f135 (Jvm.hb hby d4_54) (q := 57) rfl ?_
  intro T139 X139 e139
  refine Go.iconst X139.here hx (Jvm.hb hby d4_57) (v := (2 : Int32)) rfl (q := 58) rfl ?_
  refine Go.aloadN X139.here hx (Jvm.hb hby d4_58) rfl rfl (q := 59) rfl ?_
  refine Go.getf X139 hx hZ hown (word hw 11 rfl) e139 f129 (Jvm.hb hby d4_59) (q := 62) rfl ?_
  intro T140 X140 e140
  refine Go.imul X140.here hx (Jvm.hb hby d4_62) (v := (6 : Int32)) (by decide) (q := 63) rfl ?_
  refine Go.iload X140.here hx (Jvm.hb hby d4_63) rfl (q := 65) rfl ?_
  refine Go.iadd X140.here hx (Jvm.hb hby d4_65) (v := (8 : Int32)) (by decide) (q := 66) rfl ?_
  refine Go.daload X140 hx hZ e140 f136 (Jvm.hb hby d4_66) (i := 8) (by decide) (by decide) rfl (q := 67) rfl ?_
  refine Go.dload X140.here hx (Jvm.hb hby d4_67) rfl (q := 69) rfl ?_
  obtain ⟨u69_2, hu69_2⟩ : ∃ zq, FP.dmul (0 : UInt64) g2 = zq := ⟨_, rfl⟩
  refine Go.dmul X140.here hx (Jvm.hb hby d4_69) (by subst_vars; first | exact hn.1.2.2.2.1 | exact hn.2.1.2.2.2.1 | exact hn.2.2.1.2.2.2.1) hu69_2 (q := 70) rfl ?_
  obtain ⟨u70_2, hu70_2⟩ : ∃ zq, FP.dadd u52_2 u69_2 = zq := ⟨_, rfl⟩
  refine Go.dadd X140.here hx (Jvm.hb hby d4_70) (by subst_vars; first | exact hn.1.2.2.2.2.1 | exact hn.2.1.2.2.2.2.1 | exact hn.2.2.1.2.2.2.2.1) hu70_2 (q := 71) rfl ?_
  refine Go.aloadN X140.here hx (Jvm.hb hby d4_71) rfl rfl (q := 72) rfl ?_
  refine Go.getf X140 hx hZ hown (word hw 15 rfl) e140 f135 (Jvm.hb hby d4_72) (q := 75) rfl ?_
  intro T141 X141 e141
  refine Go.iconst X141.here hx (Jvm.hb hby d4_75) (v := (3 : Int32)) rfl (q := 76) rfl ?_
  refine Go.aloadN X141.here hx (Jvm.hb hby d4_76) rfl rfl (q := 77) rfl ?_
  refine Go.getf X141 hx hZ hown (word hw 11 rfl) e141 f129 (Jvm.hb hby d4_77) (q := 80) rfl ?_
  intro T142 X142 e142
  refine Go.imul X142.here hx (Jvm.hb hby d4_80) (v := (9 : Int32)) (by decide) (q := 81) rfl ?_
  refine Go.iload X142.here hx (Jvm.hb hby d4_81) rfl (q := 83) rfl ?_
  refine Go.iadd X142.here hx (Jvm.hb hby d4_83) (v := (11 : Int32)) (by decide) (q := 84) rfl ?_
  refine Go.daload X142 hx hZ e142 f136 (Jvm.hb hby d4_84) (i := 11) (by decide) (by decide) rfl (q := 85) rfl ?_
  refine Go.dload X142.here hx (Jvm.hb hby d4_85) rfl (q := 87) rfl ?_
  obtain ⟨u87_2, hu87_2⟩ : ∃ zq, FP.dmul (0 : UInt64) x2 = zq := ⟨_, rfl⟩
  refine Go.dmul X142.here hx (Jvm.hb hby d4_87) (by subst_vars; first | exact hn.1.2.1 | exact hn.2.1.2.1 | exact hn.2.2.1.2.1) hu87_2 (q := 88) rfl ?_
  refine Go.dload X142.here hx (Jvm.hb hby d4_88) rfl (q := 90) rfl ?_
  obtain ⟨u90_2, hu90_2⟩ : ∃ zq, FP.dmul u87_2 g2 = zq := ⟨_, rfl⟩
  refine Go.dmul X142.here hx (Jvm.hb hby d4_90) (by subst_vars; first | exact hn.1.2.2.2.2.2.1 | exact hn.2.1.2.2.2.2.2.1 | exact hn.2.2.1.2.2.2.2.2.1) hu90_2 (q := 91) rfl ?_
  obtain ⟨u91_2, hu91_2⟩ : ∃ zq, FP.dadd u70_2 u90_2 = zq := ⟨_, rfl⟩
  refine Go.dadd X142.here hx (Jvm.hb hby d4_91) (by subst_vars; first | exact hn.1.2.2.2.2.2.2 | exact hn.2.1.2.2.2.2.2.2 | exact hn.2.2.1.2.2.2.2.2.2) hu91_2 (q := 92) rfl ?_
  refine Go.dastore X142 hx hZ e142 R127 (Jvm.hb hby d4_92) (i := 2) (by decide) (by decide) rfl (q := 93) rfl ?_
  intro T143 h143 X143 e143 W143 R143
  have N143 := Fr.snoc X143 N127 fr1
  have R143 : Row Z h143 ak .double kk [(.double u91), (.double u91_1), (.double u91_2), (.double c3), (.double c4)] := R143
  refine Go.iinc X143.here hx (Jvm.hb hby d4_93) rfl (v := (3 : Int32)) (by decide) (l2 := #[.val (.ref a1), .val (.ref ax), .val (.ref ag), .val (.ref ak), .val (.int (3 : Int32)), .val (.double g2), .second, .val (.double x2), .second]) rfl (q := 96) rfl ?_
  refine Go.goto X143.here hx (Jvm.hb hby d4_96) (by decide) (q := 3) rfl ?_
  refine Go.iload X143.here hx (Jvm.hb hby d4_3) rfl (q := 5) rfl ?_
  refine Go.aloadN X143.here hx (Jvm.hb hby d4_5) rfl rfl (q := 6) rfl ?_
  have f145 := f129.other W143 (Or.inl (Ne.symm i4))
  refine Go.getf X143 hx hZ hown (word hw 11 rfl) e143 f145 (Jvm.hb hby d4_6) (q := 9) rfl ?_
  intro T144 X144 e144
  have hc9_147 : ¬ ((3 : Int32) < (3 : Int32)) := by decide
  refine Go.icmpY X144.here hx (Jvm.hb hby d4_9) (flt hc9_147).2.1 (by decide) (q := 99) rfl ?_
  subst hu36 hu51 hu52 hu69 hu70 hu87 hu90 hu91 hu36_1 hu51_1 hu52_1 hu69_1 hu70_1 hu87_1 hu90_1 hu91_1 hu36_2 hu51_2 hu52_2 hu69_2 hu70_2 hu87_2 hu90_2 hu91_2
  have k148 : Keep h0 h111 [ak] := (Keep.refl h0 [ak]).wr W111 (Or.inl (List.mem_of_getElem? (i := 0) rfl))
  have k149 : Keep h0 h127 [ak] := k148.wr W127 (Or.inl (List.mem_of_getElem? (i := 0) rfl))
  have k150 : Keep h0 h143 [ak] := k149.wr W143 (Or.inl (List.mem_of_getElem? (i := 0) rfl))
  refine Go.retV X144 hx hret hlk (Jvm.hb hby d4_99) (by decide) (by decide) ?_
  rw [e144]
  exact ⟨rfl, N143, k150, R143⟩
set_option maxRecDepth 65536 in
set_option maxHeartbeats 40000000 in
theorem rm_ne4 (l : Launch) (Z : State) (a0 : Array Value) (hw : ∀ d ∈ tables_1, d.before a0 Z = true) (a1 : Addr) (o1 : Value) (o2 : Value) (o3 : Value) (h0 : Heap) (n0 : Nat) (Z0 : n0 ≤ h0.size) (E1 : Exa Z h0 a1 "com/example/ratewright/ratewright/inference/GradientCorrection$NormalEquations") (F1 : Fld Z h0 a1 "com/example/ratewright/ratewright/inference/GradientCorrection$NormalEquations" "size" "I" o1) (F2 : Fld Z h0 a1 "com/example/ratewright/ratewright/inference/GradientCorrection$NormalEquations" "products" "[D" o2) (F3 : Fld Z h0 a1 "com/example/ratewright/ratewright/inference/GradientCorrection$NormalEquations" "right" "[D" o3) (g1 : n0 ≤ a1) :
    Con l Z (⟨"com/example/ratewright/ratewright/inference/GradientCorrection$NormalEquations", "<init>", "(I)V"⟩ : MethodName) prog_5_method_1_code 2 none ({ frames := 1, cells := 2, slots := 152, locals := 12 } : Room) #[(.ref a1), (.int (16 : Int32))] h0 (fun vR hR LR => vR = none ∧ Fr n0 LR ∧ Keep h0 hR [a1] ∧ Exa Z hR a1 "com/example/ratewright/ratewright/inference/GradientCorrection$NormalEquations") := by
  refine enter (l := l) (Z := Z) (y := (⟨"com/example/ratewright/ratewright/inference/GradientCorrection$NormalEquations", "<init>", "(I)V"⟩ : MethodName)) (bytes := prog_5_method_1_code) (maxL := 2) (ret := none) (ws := []) (rm := ({ frames := 1, cells := 2, slots := 152, locals := 12 } : Room)) (as' := #[(.ref a1), (.int (16 : Int32))]) (h0 := h0) (Qv := (fun vR hR LR => vR = none ∧ Fr n0 LR ∧ Keep h0 hR [a1] ∧ Exa Z hR a1 "com/example/ratewright/ratewright/inference/GradientCorrection$NormalEquations")) (kc := 2) (ks := 152) (by first | exact plainFor_of_name (by first | (simp [plainName, overriddenIn]; done) | decide +kernel) | decide +kernel) (Ls := #[.val (.ref a1), .val (.int (16 : Int32))]) (fun m => by first | (simp [entryFrame, mkF, argsToLocals, Value.category]; done) | rfl) ?_
  intro p e s m below meth c s₁ hx hby hml hown hnm hret hlk hZ X0 e0
  have hown : s.vm.findClass "com/example/ratewright/ratewright/inference/GradientCorrection$NormalEquations" = some m.cls := hown
  have hml : c.maxLocals = 2 := hml
  have N0 := Fr.nil n0
  refine Go.aloadN X0.here hx (Jvm.hb hby d3_0) rfl rfl (q := 1) rfl ?_
  refine Go.init X0 hx hZ hown (word hw 23 rfl) (word hw 9 rfl) (word hw 10 rfl) e0 (Jvm.hb hby d3_1) (by rw [hml]; rfl) (by decide) (W := 0) (Nat.le_of_eq rfl) (by decide) (q := 4) rfl ?_
  intro T101 X101 e101
  refine Go.aloadN X101.here hx (Jvm.hb hby d3_4) rfl rfl (q := 5) rfl ?_
  refine Go.iloadN X101.here hx (Jvm.hb hby d3_5) rfl (q := 6) rfl ?_
  refine Go.putf X101 hx hZ hown (word hw 24 rfl) e101 F1 E1 (Or.inr ⟨(word hw 25 rfl), rfl, hnm⟩) (word hw 18 rfl) (ty := .int) (by decide) rfl rfl (Jvm.hb hby d3_6) (q := 9) rfl ?_
  intro T102 h102 X102 e102 W102
  have N102 := Fr.snoc X102 N0 g1
  have F102 := F1.same W102
  refine Go.aloadN X102.here hx (Jvm.hb hby d3_9) rfl rfl (q := 10) rfl ?_
  refine Go.iloadN X102.here hx (Jvm.hb hby d3_10) rfl (q := 11) rfl ?_
  refine Go.iloadN X102.here hx (Jvm.hb hby d3_11) rfl (q := 12) rfl ?_
  refine Go.iconst X102.here hx (Jvm.hb hby d3_12) (v := (1 : Int32)) rfl (q := 13) rfl ?_
  refine Go.iadd X102.here hx (Jvm.hb hby d3_13) (v := (17 : Int32)) (by decide) (q := 14) rfl ?_
  refine Go.imul X102.here hx (Jvm.hb hby d3_14) (v := (272 : Int32)) (by decide) (q := 15) rfl ?_
  refine Go.iconst X102.here hx (Jvm.hb hby d3_15) (v := (2 : Int32)) rfl (q := 16) rfl ?_
  refine Go.idiv X102.here hx (Jvm.hb hby d3_16) (by decide) (v := (136 : Int32)) (by decide) (q := 17) rfl ?_
  refine Go.newarr X102 hx hZ (aty := .double) (word hw 0 rfl) e102 (Jvm.hb hby d3_17) (by decide) (k := 136) (by decide) (by decide) (by decide) (by decide) (ad := "[D") (by decide) (q := 19) rfl ?_
  intro T103 h103 a103 kk103 g103 X103 e103 E103 R103 A103
  have z104 : n0 ≤ h102.size := Nat.le_trans Z0 (Nat.le_of_eq W102.size.symm)
  have r105 : n0 ≤ a103 := Nat.le_trans z104 (Nat.le_of_eq g103.symm)
  have k106 : Keep h0 h102 [a1] := (Keep.refl h0 [a1]).wr W102 (Or.inl (List.mem_of_getElem? (i := 0) rfl))
  have y105 : h0.size ≤ a103 := Nat.le_trans k106.1 (Nat.le_of_eq g103.symm)
  have f108 := F2.other W102 (Or.inr (Jvm.RoadKit.slot_ne (Or.inr (word hw 27 rfl)) (Or.inr (word hw 25 rfl)) (by decide) (t := (.array .double)) (t' := .int) (by decide) (by decide)))
  have f109 := f108.ext E103
  have f110 := E1.wr W102
  have f111 := f110.ext E103
  refine Go.putf X103 hx hZ hown (word hw 26 rfl) e103 f109 f111 (Or.inr ⟨(word hw 27 rfl), rfl, hnm⟩) (word hw 18 rfl) (ty := (.array .double)) (by decide) rfl rfl (Jvm.hb hby d3_19) (q := 22) rfl ?_
  intro T107 h107 X107 e107 W107
  have N107 := Fr.snoc X107 N102 g1
  have F107 := f109.same W107
  refine Go.aloadN X107.here hx (Jvm.hb hby d3_22) rfl rfl (q := 23) rfl ?_
  refine Go.iloadN X107.here hx (Jvm.hb hby d3_23) rfl (q := 24) rfl ?_
  refine Go.newarr X107 hx hZ (aty := .double) (word hw 0 rfl) e107 (Jvm.hb hby d3_24) (by decide) (k := 16) (by decide) (by decide) (by decide) (by decide) (ad := "[D") (by decide) (q := 26) rfl ?_
  intro T112 h112 a112 kk112 g112 X112 e112 E112 R112 A112
  have z113 : n0 ≤ h103.size := Nat.le_trans z104 E103.1
  have z114 : n0 ≤ h107.size := Nat.le_trans z113 (Nat.le_of_eq W107.size.symm)
  have r115 : n0 ≤ a112 := Nat.le_trans z114 (Nat.le_of_eq g112.symm)
  have k116 : Keep h0 h103 [a1] := k106.ext E103
  have k117 : Keep h0 h107 [a1] := k116.wr W107 (Or.inl (List.mem_of_getElem? (i := 0) rfl))
  have y115 : h0.size ≤ a112 := Nat.le_trans k117.1 (Nat.le_of_eq g112.symm)
  have R112 : Row Z h112 a112 .double kk112 [(.double (0 : UInt64)), (.double (0 : UInt64)), (.double (0 : UInt64)), (.double (0 : UInt64)), (.double (0 : UInt64)), (.double (0 : UInt64)), (.double (0 : UInt64)), (.double (0 : UInt64)), (.double (0 : UInt64)), (.double (0 : UInt64)), (.double (0 : UInt64)), (.double (0 : UInt64)), (.double (0 : UInt64)), (.double (0 : UInt64)), (.double (0 : UInt64)), (.double (0 : UInt64))] := R112
  have f119 := F3.other W102 (Or.inr (Jvm.RoadKit.slot_ne (Or.inr (word hw 29 rfl)) (Or.inr (word hw 25 rfl)) (by decide) (t := (.array .double)) (t' := .int) (by decide) (by decide)))
  have f120 := f119.ext E103
  have f121 := f120.other W107 (Or.inr (Jvm.RoadKit.slot_ne (Or.inr (word hw 29 rfl)) (Or.inr (word hw 27 rfl)) (by decide) (t := (.array .double)) (t' := (.array .double)) (by decide) (by decide)))
  have f122 := f121.ext E112
  have f123 := f111.wr W107
  have f124 := f123.ext E112
  refine Go.putf X112 hx hZ hown (word hw 28 rfl) e112 f122 f124 (Or.inr ⟨(word hw 29 rfl), rfl, hnm⟩) (word hw 18 rfl) (ty := (.array .double)) (by decide) rfl rfl (Jvm.hb hby d3_26) (q := 29) rfl ?_
  intro T118 h118 X118 e118 W118
  have N118 := Fr.snoc X118 N107 g1
  have F118 := f122.same W118
  have k125 : Keep h0 h112 [a1] := k117.ext E112
  have k126 : Keep h0 h118 [a1] := k125.wr W118 (Or.inl (List.mem_of_getElem? (i := 0) rfl))
  have f127 := f124.wr W118
  refine Go.retV X118 hx hret hlk (Jvm.hb hby d3_29) (by decide) (by decide) ?_
  rw [e118]
  exact ⟨rfl, N118, k126, f127⟩
set_option maxRecDepth 65536 in
set_option maxHeartbeats 40000000 in
theorem rm_init4 (l : Launch) (Z : State) (a0 : Array Value) (hw : ∀ d ∈ tables_1, d.before a0 Z = true) (a1 : Addr) (w2 : Int32) (o1 : Value) (o2 : Value) (o3 : Value) (o4 : Value) (o5 : Value) (o6 : Value) (o7 : Value) (o8 : Value) (o9 : Value) (h0 : Heap) (n0 : Nat) (Z0 : n0 ≤ h0.size) (E1 : Exa Z h0 a1 "com/example/ratewright/ratewright/inference/GradientCorrection") (F1 : Fld Z h0 a1 "com/example/ratewright/ratewright/inference/GradientCorrection" "dimension" "I" o1) (F2 : Fld Z h0 a1 "com/example/ratewright/ratewright/inference/GradientCorrection" "unknowns" "I" o2) (F3 : Fld Z h0 a1 "com/example/ratewright/ratewright/inference/GradientCorrection" "coefficients" "[D" o3) (F4 : Fld Z h0 a1 "com/example/ratewright/ratewright/inference/GradientCorrection" "fitted" "Lcom/example/ratewright/ratewright/inference/GradientCorrection$NormalEquations;" o4) (F5 : Fld Z h0 a1 "com/example/ratewright/ratewright/inference/GradientCorrection" "heldOut" "Lcom/example/ratewright/ratewright/inference/GradientCorrection$NormalEquations;" o5) (F6 : Fld Z h0 a1 "com/example/ratewright/ratewright/inference/GradientCorrection" "heldOutTerms" "[[D" o6) (F7 : Fld Z h0 a1 "com/example/ratewright/ratewright/inference/GradientCorrection" "heldOutMisses" "[D" o7) (F8 : Fld Z h0 a1 "com/example/ratewright/ratewright/inference/GradientCorrection" "pendingTerms" "[[D" o8) (F9 : Fld Z h0 a1 "com/example/ratewright/ratewright/inference/GradientCorrection" "pendingMisses" "[D" o9) (g1 : n0 ≤ a1) (hm : w2 = 0 ∨ w2 = 1 ∨ w2 = 2 ∨ w2 = 3) :
    Con l Z (⟨"com/example/ratewright/ratewright/inference/GradientCorrection", "<init>", "(II)V"⟩ : MethodName) prog_4_method_1_code 5 none ({ frames := 3, cells := 20, slots := 2500, locals := 60 } : Room) #[(.ref a1), (.int (4 : Int32)), (.int w2)] h0 (fun vR hR LR => ∃ (ac : Addr) (kc : ClassId), vR = none ∧ Fr n0 LR ∧ Keep h0 hR [a1] ∧ h0.size ≤ ac ∧ Exa Z hR a1 "com/example/ratewright/ratewright/inference/GradientCorrection" ∧ Fld Z hR a1 "com/example/ratewright/ratewright/inference/GradientCorrection" "dimension" "I" (.int (4 : Int32)) ∧ Fld Z hR a1 "com/example/ratewright/ratewright/inference/GradientCorrection" "coefficients" "[D" (.ref ac) ∧ Row Z hR ac .double kc [(.double (0 : UInt64)), (.double (0 : UInt64)), (.double (0 : UInt64)), (.double (0 : UInt64)), (.double (0 : UInt64)), (.double (0 : UInt64)), (.double (0 : UInt64)), (.double (0 : UInt64)), (.double (0 : UInt64)), (.double (0 : UInt64)), (.double (0 : UInt64)), (.double (0 : UInt64)), (.double (0 : UInt64)), (.double (0 : UInt64)), (.double (0 : UInt64)), (.double (0 : UInt64))]) := by
  refine enter (l := l) (Z := Z) (y := (⟨"com/example/ratewright/ratewright/inference/GradientCorrection", "<init>", "(II)V"⟩ : MethodName)) (bytes := prog_4_method_1_code) (maxL := 5) (ret := none) (ws := []) (rm := ({ frames := 3, cells := 20, slots := 2500, locals := 60 } : Room)) (as' := #[(.ref a1), (.int (4 : Int32)), (.int w2)]) (h0 := h0) (Qv := (fun vR hR LR => ∃ (ac : Addr) (kc : ClassId), vR = none ∧ Fr n0 LR ∧ Keep h0 hR [a1] ∧ h0.size ≤ ac ∧ Exa Z hR a1 "com/example/ratewright/ratewright/inference/GradientCorrection" ∧ Fld Z hR a1 "com/example/ratewright/ratewright/inference/GradientCorrection" "dimension" "I" (.int (4 : Int32)) ∧ Fld Z hR a1 "com/example/ratewright/ratewright/inference/GradientCorrection" "coefficients" "[D" (.ref ac) ∧ Row Z hR ac .double kc [(.double (0 : UInt64)), (.double (0 : UInt64)), (.double (0 : UInt64)), (.double (0 : UInt64)), (.double (0 : UInt64)), (.double (0 : UInt64)), (.double (0 : UInt64)), (.double (0 : UInt64)), (.double (0 : UInt64)), (.double (0 : UInt64)), (.double (0 : UInt64)), (.double (0 : UInt64)), (.double (0 : UInt64)), (.double (0 : UInt64)), (.double (0 : UInt64)), (.double (0 : UInt64))])) (kc := 20) (ks := 2500) (by first | exact plainFor_of_name (by first | (simp [plainName, overriddenIn]; done) | decide +kernel) | decide +kernel) (Ls := #[.val (.ref a1), .val (.int (4 : Int32)), .val (.int w2), .unset, .unset]) (fun m => by first | (simp [entryFrame, mkF, argsToLocals, Value.category]; done) | rfl) ?_
  intro p e s m below meth c s₁ hx hby hml hown hnm hret hlk hZ X0 e0
  have hown : s.vm.findClass "com/example/ratewright/ratewright/inference/GradientCorrection" = some m.cls := hown
  have hml : c.maxLocals = 5 := hml
  have N0 := Fr.nil n0
  refine Go.aloadN X0.here hx (Jvm.hb hby d1_0) rfl rfl (q := 1) rfl ?_
  refine Go.init X0 hx hZ hown (word hw 8 rfl) (word hw 9 rfl) (word hw 10 rfl) e0 (Jvm.hb hby d1_1) (by rw [hml]; rfl) (by decide) (W := 0) (Nat.le_of_eq rfl) (by decide) (q := 4) rfl ?_
  intro T101 X101 e101
  refine Go.iloadN X101.here hx (Jvm.hb hby d1_4) rfl (q := 5) rfl ?_
  refine Go.sipush X101.here hx (Jvm.hb hby d1_5) (v := (512 : Int32)) rfl (q := 8) rfl ?_
  have hc8_103 : ¬ ((512 : Int32) < (4 : Int32)) := by decide
  refine Go.icmpN X101.here hx (Jvm.hb hby d1_8) (flt hc8_103).2.2.1 (q := 11) rfl ?_
  refine Go.iconst X101.here hx (Jvm.hb hby d1_11) (v := (1 : Int32)) rfl (q := 12) rfl ?_
  refine Go.goto X101.here hx (Jvm.hb hby d1_12) (by decide) (q := 16) rfl ?_
  refine Go.istoreN X101.here hx (Jvm.hb hby d1_16) (l2 := #[.val (.ref a1), .val (.int (4 : Int32)), .val (.int w2), .val (.int (1 : Int32)), .unset]) rfl (q := 17) rfl ?_
  refine Go.aloadN X101.here hx (Jvm.hb hby d1_17) rfl rfl (q := 18) rfl ?_
  refine Go.iloadN X101.here hx (Jvm.hb hby d1_18) rfl (q := 19) rfl ?_
  refine Go.putf X101 hx hZ hown (word hw 11 rfl) e101 F1 E1 (Or.inr ⟨(word hw 12 rfl), rfl, hnm⟩) (word hw 3 rfl) (ty := .int) (by decide) rfl rfl (Jvm.hb hby d1_19) (q := 22) rfl ?_
  intro T104 h104 X104 e104 W104
  have N104 := Fr.snoc X104 N0 g1
  have F104 := F1.same W104
  refine Go.aloadN X104.here hx (Jvm.hb hby d1_22) rfl rfl (q := 23) rfl ?_
  refine Go.iloadN X104.here hx (Jvm.hb hby d1_23) rfl (q := 24) rfl ?_
  have hc24_106 : ¬ ((1 : Int32) = (0 : Int32)) := by decide
  refine Go.ifN X104.here hx (Jvm.hb hby d1_24) ((if0 _ _).trans (feq hc24_106).1) (q := 27) rfl ?_
  refine Go.iconst X104.here hx (Jvm.hb hby d1_27) (v := (4 : Int32)) rfl (q := 28) rfl ?_
  refine Go.iloadN X104.here hx (Jvm.hb hby d1_28) rfl (q := 29) rfl ?_
  refine Go.imul X104.here hx (Jvm.hb hby d1_29) (v := (16 : Int32)) (by decide) (q := 30) rfl ?_
  refine Go.goto X104.here hx (Jvm.hb hby d1_30) (by decide) (q := 34) rfl ?_
  have f108 := F2.other W104 (Or.inr (Jvm.RoadKit.slot_ne (Or.inr (word hw 14 rfl)) (Or.inr (word hw 12 rfl)) (by decide) (t := .int) (t' := .int) (by decide) (by decide)))
  have f109 := E1.wr W104
  refine Go.putf X104 hx hZ hown (word hw 13 rfl) e104 f108 f109 (Or.inr ⟨(word hw 14 rfl), rfl, hnm⟩) (word hw 3 rfl) (ty := .int) (by decide) rfl rfl (Jvm.hb hby d1_34) (q := 37) rfl ?_
  intro T107 h107 X107 e107 W107
  have N107 := Fr.snoc X107 N104 g1
  have F107 := f108.same W107
  refine Go.aloadN X107.here hx (Jvm.hb hby d1_37) rfl rfl (q := 38) rfl ?_
  refine Go.iconst X107.here hx (Jvm.hb hby d1_38) (v := (4 : Int32)) rfl (q := 39) rfl ?_
  refine Go.iloadN X107.here hx (Jvm.hb hby d1_39) rfl (q := 40) rfl ?_
  refine Go.imul X107.here hx (Jvm.hb hby d1_40) (v := (16 : Int32)) (by decide) (q := 41) rfl ?_
  refine Go.newarr X107 hx hZ (aty := .double) (word hw 0 rfl) e107 (Jvm.hb hby d1_41) (by decide) (k := 16) (by decide) (by decide) (by decide) (by decide) (ad := "[D") (by decide) (q := 43) rfl ?_
  intro T110 h110 a110 kk110 g110 X110 e110 E110 R110 A110
  have z111 : n0 ≤ h104.size := Nat.le_trans Z0 (Nat.le_of_eq W104.size.symm)
  have z112 : n0 ≤ h107.size := Nat.le_trans z111 (Nat.le_of_eq W107.size.symm)
  have r113 : n0 ≤ a110 := Nat.le_trans z112 (Nat.le_of_eq g110.symm)
  have k114 : Keep h0 h104 [a1] := (Keep.refl h0 [a1]).wr W104 (Or.inl (List.mem_of_getElem? (i := 0) rfl))
  have k115 : Keep h0 h107 [a1] := k114.wr W107 (Or.inl (List.mem_of_getElem? (i := 0) rfl))
  have y113 : h0.size ≤ a110 := Nat.le_trans k115.1 (Nat.le_of_eq g110.symm)
  have R110 : Row Z h110 a110 .double kk110 [(.double (0 : UInt64)), (.double (0 : UInt64)), (.double (0 : UInt64)), (.double (0 : UInt64)), (.double (0 : UInt64)), (.double (0 : UInt64)), (.double (0 : UInt64)), (.double (0 : UInt64)), (.double (0 : UInt64)), (.double (0 : UInt64)), (.double (0 : UInt64)), (.double (0 : UInt64)), (.double (0 : UInt64)), (.double (0 : UInt64)), (.double (0 : UInt64)), (.double (0 : UInt64))] := R110
  have f117 := F3.other W104 (Or.inr (Jvm.RoadKit.slot_ne (Or.inl (word hw 16 rfl)) (Or.inr (word hw 12 rfl)) (by decide) (t := (.array .double)) (t' := .int) (by decide) (by decide)))
  have f118 := f117.other W107 (Or.inr (Jvm.RoadKit.slot_ne (Or.inl (word hw 16 rfl)) (Or.inr (word hw 14 rfl)) (by decide) (t := (.array .double)) (t' := .int) (by decide) (by decide)))
  have f119 := f118.ext E110
  have f120 := f109.wr W107
  have f121 := f120.ext E110
  refine Go.putf X110 hx hZ hown (word hw 15 rfl) e110 f119 f121 (Or.inl (word hw 16 rfl)) (word hw 3 rfl) (ty := (.array .double)) (by decide) rfl rfl (Jvm.hb hby d1_43) (q := 46) rfl ?_
  intro T116 h116 X116 e116 W116
  have N116 := Fr.snoc X116 N107 g1
  have F116 := f119.same W116
  refine Go.aloadN X116.here hx (Jvm.hb hby d1_46) rfl rfl (q := 47) rfl ?_
  refine Go.new X116 hx hZ hown (word hw 17 rfl) (word hw 18 rfl) (word hw 19 rfl) e116 (Jvm.hb hby d1_47) (by decide) (by decide) (q := 50) rfl ?_
  intro T122 h122 a122 g122 X122 e122 E122 A122 D122
  have z123 : n0 ≤ h110.size := Nat.le_trans z112 E110.1
  have z124 : n0 ≤ h116.size := Nat.le_trans z123 (Nat.le_of_eq W116.size.symm)
  have r125 : n0 ≤ a122 := Nat.le_trans z124 (Nat.le_of_eq g122.symm)
  have k126 : Keep h0 h110 [a1] := k115.ext E110
  have k127 : Keep h0 h116 [a1] := k126.wr W116 (Or.inl (List.mem_of_getElem? (i := 0) rfl))
  have y125 : h0.size ≤ a122 := Nat.le_trans k127.1 (Nat.le_of_eq g122.symm)
  have F128 : Fld Z h122 a122 "com/example/ratewright/ratewright/inference/GradientCorrection$NormalEquations" "size" "I" (.int (0 : Int32)) := D122 (Or.inr (word hw 25 rfl)) (ty := .int) (by decide)
  have F129 : Fld Z h122 a122 "com/example/ratewright/ratewright/inference/GradientCorrection$NormalEquations" "products" "[D" .null := D122 (Or.inr (word hw 27 rfl)) (ty := (.array .double)) (by decide)
  have F130 : Fld Z h122 a122 "com/example/ratewright/ratewright/inference/GradientCorrection$NormalEquations" "right" "[D" .null := D122 (Or.inr (word hw 29 rfl)) (ty := (.array .double)) (by decide)
  refine Go.dup X122.here hx (Jvm.hb hby d1_50) rfl (q := 51) rfl ?_
  refine Go.aloadN X122.here hx (Jvm.hb hby d1_51) rfl rfl (q := 52) rfl ?_
  have f132 := F107.ext E110
  have f133 := f132.other W116 (Or.inr (Jvm.RoadKit.slot_ne (Or.inr (word hw 14 rfl)) (Or.inl (word hw 16 rfl)) (by decide) (t := .int) (t' := (.array .double)) (by decide) (by decide)))
  have f134 := f133.ext E122
  refine Go.getf X122 hx hZ hown (word hw 13 rfl) e122 f134 (Jvm.hb hby d1_52) (q := 55) rfl ?_
  intro T131 X131 e131
  have z136 : n0 ≤ h122.size := Nat.le_trans z124 E122.1
  refine Go.special X131 hx hZ (y := (⟨"com/example/ratewright/ratewright/inference/GradientCorrection$NormalEquations", "<init>", "(I)V"⟩ : MethodName)) rfl hown (word hw 20 rfl) (word hw 21 rfl) (word hw 22 rfl) (word hw 19 rfl) (by decide) (rm_ne4 l Z a0 hw a122 (.int (0 : Int32)) .null .null h122 n0 z136 A122 F128 F129 F130 r125) e131 (a := a122) (argsL := [(.int (16 : Int32))]) (rest := [(.ref a122), (.ref a1)]) (W := 2) (Jvm.hb hby d1_55) rfl rfl (lenOf (pd0) rfl) (by rw [hml]; rfl) (Nat.le_of_eq rfl) (by decide) (by decide) (by decide) (by decide) (q := 58) rfl ?_
  intro T135 L135 w135 X135 hQ135
  obtain ⟨rfl, M135, K135, P135_0⟩ := hQ135
  have N135 := Fr.app N116 M135
  show Go p e below _ (T135.setTop (mkF m 58 #[.val (.ref a1), .val (.int (4 : Int32)), .val (.int w2), .val (.int (1 : Int32)), .unset] [(.ref a122), (.ref a1)]))
  have f138 := F4.other W104 (Or.inr (Jvm.RoadKit.slot_ne (Or.inr (word hw 31 rfl)) (Or.inr (word hw 12 rfl)) (by decide) (t := (.object "com/example/ratewright/ratewright/inference/GradientCorrection$NormalEquations")) (t' := .int) (by decide) (by decide)))
  have f139 := f138.other W107 (Or.inr (Jvm.RoadKit.slot_ne (Or.inr (word hw 31 rfl)) (Or.inr (word hw 14 rfl)) (by decide) (t := (.object "com/example/ratewright/ratewright/inference/GradientCorrection$NormalEquations")) (t' := .int) (by decide) (by decide)))
  have f140 := f139.ext E110
  have f141 := f140.other W116 (Or.inr (Jvm.RoadKit.slot_ne (Or.inr (word hw 31 rfl)) (Or.inl (word hw 16 rfl)) (by decide) (t := (.object "com/example/ratewright/ratewright/inference/GradientCorrection$NormalEquations")) (t' := (.array .double)) (by decide) (by decide)))
  have f142 := f141.ext E122
  have f144 := f121.wr W116
  have ne145 : a1 ≠ a122 := Nat.ne_of_lt (Nat.lt_of_lt_of_le f144.lt (Nat.le_of_eq g122.symm))
  have f143 := f142.keep K135 (ninS ne145 nin0)
  have f146 := f144.ext E122
  have f147 := f146.keep K135
  refine Go.putf X135 hx hZ hown (word hw 30 rfl) rfl f143 f147 (Or.inr ⟨(word hw 31 rfl), rfl, hnm⟩) (word hw 3 rfl) (ty := (.object "com/example/ratewright/ratewright/inference/GradientCorrection$NormalEquations")) (by decide) rfl rfl (Jvm.hb hby d1_58) (q := 61) rfl ?_
  intro T137 h137 X137 e137 W137
  have N137 := Fr.snoc X137 N135 g1
  have F137 := f143.same W137
  refine Go.aloadN X137.here hx (Jvm.hb hby d1_61) rfl rfl (q := 62) rfl ?_
  refine Go.new X137 hx hZ hown (word hw 17 rfl) (word hw 18 rfl) (word hw 19 rfl) e137 (Jvm.hb hby d1_62) (by decide) (by decide) (q := 65) rfl ?_
  intro T148 h148 a148 g148 X148 e148 E148 A148 D148
  have z149 : n0 ≤ T135.heap.size := Nat.le_trans z136 K135.1
  have z150 : n0 ≤ h137.size := Nat.le_trans z149 (Nat.le_of_eq W137.size.symm)
  have r151 : n0 ≤ a148 := Nat.le_trans z150 (Nat.le_of_eq g148.symm)
  have k152 : Keep h0 h122 [a1] := k127.ext E122
  have k153 : Keep h0 T135.heap [a1] := k152.trans K135 (allS (Or.inr y125) all0)
  have k154 : Keep h0 h137 [a1] := k153.wr W137 (Or.inl (List.mem_of_getElem? (i := 0) rfl))
  have y151 : h0.size ≤ a148 := Nat.le_trans k154.1 (Nat.le_of_eq g148.symm)
  have F155 : Fld Z h148 a148 "com/example/ratewright/ratewright/inference/GradientCorrection$NormalEquations" "size" "I" (.int (0 : Int32)) := D148 (Or.inr (word hw 25 rfl)) (ty := .int) (by decide)
  have F156 : Fld Z h148 a148 "com/example/ratewright/ratewright/inference/GradientCorrection$NormalEquations" "products" "[D" .null := D148 (Or.inr (word hw 27 rfl)) (ty := (.array .double)) (by decide)
  have F157 : Fld Z h148 a148 "com/example/ratewright/ratewright/inference/GradientCorrection$NormalEquations" "right" "[D" .null := D148 (Or.inr (word hw 29 rfl)) (ty := (.array .double)) (by decide)
  refine Go.dup X148.here hx (Jvm.hb hby d1_65) rfl (q := 66) rfl ?_
  refine Go.aloadN X148.here hx (Jvm.hb hby d1_66) rfl rfl (q := 67) rfl ?_
  have f159 := f134.keep K135 (ninS ne145 nin0)
  have f160 := f159.other W137 (Or.inr (Jvm.RoadKit.slot_ne (Or.inr (word hw 14 rfl)) (Or.inr (word hw 31 rfl)) (by decide) (t := .int) (t' := (.object "com/example/ratewright/ratewright/inference/GradientCorrection$NormalEquations")) (by decide) (by decide)))
  have f161 := f160.ext E148
  refine Go.getf X148 hx hZ hown (word hw 13 rfl) e148 f161 (Jvm.hb hby d1_67) (q := 70) rfl ?_
  intro T158 X158 e158
  have z163 : n0 ≤ h148.size := Nat.le_trans z150 E148.1
  refine Go.special X158 hx hZ (y := (⟨"com/example/ratewright/ratewright/inference/GradientCorrection$NormalEquations", "<init>", "(I)V"⟩ : MethodName)) rfl hown (word hw 20 rfl) (word hw 21 rfl) (word hw 22 rfl) (word hw 19 rfl) (by decide) (rm_ne4 l Z a0 hw a148 (.int (0 : Int32)) .null .null h148 n0 z163 A148 F155 F156 F157 r151) e158 (a := a148) (argsL := [(.int (16 : Int32))]) (rest := [(.ref a148), (.ref a1)]) (W := 2) (Jvm.hb hby d1_70) rfl rfl (lenOf (pd0) rfl) (by rw [hml]; rfl) (Nat.le_of_eq rfl) (by decide) (by decide) (by decide) (by decide) (q := 73) rfl ?_
  intro T162 L162 w162 X162 hQ162
  obtain ⟨rfl, M162, K162, P162_0⟩ := hQ162
  have N162 := Fr.app N137 M162
  show Go p e below _ (T162.setTop (mkF m 73 #[.val (.ref a1), .val (.int (4 : Int32)), .val (.int w2), .val (.int (1 : Int32)), .unset] [(.ref a148), (.ref a1)]))
  have f165 := F5.other W104 (Or.inr (Jvm.RoadKit.slot_ne (Or.inr (word hw 33 rfl)) (Or.inr (word hw 12 rfl)) (by decide) (t := (.object "com/example/ratewright/ratewright/inference/GradientCorrection$NormalEquations")) (t' := .int) (by decide) (by decide)))
  have f166 := f165.other W107 (Or.inr (Jvm.RoadKit.slot_ne (Or.inr (word hw 33 rfl)) (Or.inr (word hw 14 rfl)) (by decide) (t := (.object "com/example/ratewright/ratewright/inference/GradientCorrection$NormalEquations")) (t' := .int) (by decide) (by decide)))
  have f167 := f166.ext E110
  have f168 := f167.other W116 (Or.inr (Jvm.RoadKit.slot_ne (Or.inr (word hw 33 rfl)) (Or.inl (word hw 16 rfl)) (by decide) (t := (.object "com/example/ratewright/ratewright/inference/GradientCorrection$NormalEquations")) (t' := (.array .double)) (by decide) (by decide)))
  have f169 := f168.ext E122
  have f170 := f169.keep K135 (ninS ne145 nin0)
  have f171 := f170.other W137 (Or.inr (Jvm.RoadKit.slot_ne (Or.inr (word hw 33 rfl)) (Or.inr (word hw 31 rfl)) (by decide) (t := (.object "com/example/ratewright/ratewright/inference/GradientCorrection$NormalEquations")) (t' := (.object "com/example/ratewright/ratewright/inference/GradientCorrection$NormalEquations")) (by decide) (by decide)))
  have f172 := f171.ext E148
  have f174 := f147.wr W137
  have ne175 : a1 ≠ a148 := Nat.ne_of_lt (Nat.lt_of_lt_of_le f174.lt (Nat.le_of_eq g148.symm))
  have f173 := f172.keep K162 (ninS ne175 nin0)
  have f176 := f174.ext E148
  have f177 := f176.keep K162
  refine Go.putf X162 hx hZ hown (word hw 32 rfl) rfl f173 f177 (Or.inr ⟨(word hw 33 rfl), rfl, hnm⟩) (word hw 3 rfl) (ty := (.object "com/example/ratewright/ratewright/inference/GradientCorrection$NormalEquations")) (by decide) rfl rfl (Jvm.hb hby d1_73) (q := 76) rfl ?_
  intro T164 h164 X164 e164 W164
  have N164 := Fr.snoc X164 N162 g1
  have F164 := f173.same W164
  refine Go.aloadN X164.here hx (Jvm.hb hby d1_76) rfl rfl (q := 77) rfl ?_
  refine Go.iloadN X164.here hx (Jvm.hb hby d1_77) rfl (q := 78) rfl ?_
  have hc78_179 : ¬ ((1 : Int32) = (0 : Int32)) := by decide
  refine Go.ifN X164.here hx (Jvm.hb hby d1_78) ((if0 _ _).trans (feq hc78_179).1) (q := 81) rfl ?_
  refine Go.sipush X164.here hx (Jvm.hb hby d1_81) (v := (1000 : Int32)) rfl (q := 84) rfl ?_
  refine Go.goto X164.here hx (Jvm.hb hby d1_84) (by decide) (q := 88) rfl ?_
  refine Go.newarrs X164 hx hZ hown (ty := .double) (C := "[D") (by decide) (word hw 34 rfl) (word hw 35 rfl) e164 (Jvm.hb hby d1_88) (by decide) (k := 1000) (by decide) (by decide) (by decide) (by decide) (ad := "[[D") (by decide) (q := 91) rfl ?_
  intro T180 h180 a180 kk180 g180 X180 e180 E180 R180 A180
  have z181 : n0 ≤ T162.heap.size := Nat.le_trans z163 K162.1
  have z182 : n0 ≤ h164.size := Nat.le_trans z181 (Nat.le_of_eq W164.size.symm)
  have r183 : n0 ≤ a180 := Nat.le_trans z182 (Nat.le_of_eq g180.symm)
  have k184 : Keep h0 h148 [a1] := k154.ext E148
  have k185 : Keep h0 T162.heap [a1] := k184.trans K162 (allS (Or.inr y151) all0)
  have k186 : Keep h0 h164 [a1] := k185.wr W164 (Or.inl (List.mem_of_getElem? (i := 0) rfl))
  have y183 : h0.size ≤ a180 := Nat.le_trans k186.1 (Nat.le_of_eq g180.symm)
  have f188 := F6.other W104 (Or.inr (Jvm.RoadKit.slot_ne (Or.inr (word hw 37 rfl)) (Or.inr (word hw 12 rfl)) (by decide) (t := (.array (.array .double))) (t' := .int) (by decide) (by decide)))
  have f189 := f188.other W107 (Or.inr (Jvm.RoadKit.slot_ne (Or.inr (word hw 37 rfl)) (Or.inr (word hw 14 rfl)) (by decide) (t := (.array (.array .double))) (t' := .int) (by decide) (by decide)))
  have f190 := f189.ext E110
  have f191 := f190.other W116 (Or.inr (Jvm.RoadKit.slot_ne (Or.inr (word hw 37 rfl)) (Or.inl (word hw 16 rfl)) (by decide) (t := (.array (.array .double))) (t' := (.array .double)) (by decide) (by decide)))
  have f192 := f191.ext E122
  have f193 := f192.keep K135 (ninS ne145 nin0)
  have f194 := f193.other W137 (Or.inr (Jvm.RoadKit.slot_ne (Or.inr (word hw 37 rfl)) (Or.inr (word hw 31 rfl)) (by decide) (t := (.array (.array .double))) (t' := (.object "com/example/ratewright/ratewright/inference/GradientCorrection$NormalEquations")) (by decide) (by decide)))
  have f195 := f194.ext E148
  have f196 := f195.keep K162 (ninS ne175 nin0)
  have f197 := f196.other W164 (Or.inr (Jvm.RoadKit.slot_ne (Or.inr (word hw 37 rfl)) (Or.inr (word hw 33 rfl)) (by decide) (t := (.array (.array .double))) (t' := (.object "com/example/ratewright/ratewright/inference/GradientCorrection$NormalEquations")) (by decide) (by decide)))
  have f198 := f197.ext E180
  have f199 := f177.wr W164
  have f200 := f199.ext E180
  refine Go.putf X180 hx hZ hown (word hw 36 rfl) e180 f198 f200 (Or.inr ⟨(word hw 37 rfl), rfl, hnm⟩) (word hw 3 rfl) (ty := (.array (.array .double))) (by decide) rfl rfl (Jvm.hb hby d1_91) (q := 94) rfl ?_
  intro T187 h187 X187 e187 W187
  have N187 := Fr.snoc X187 N164 g1
  have F187 := f198.same W187
  refine Go.aloadN X187.here hx (Jvm.hb hby d1_94) rfl rfl (q := 95) rfl ?_
  refine Go.aloadN X187.here hx (Jvm.hb hby d1_95) rfl rfl (q := 96) rfl ?_
  refine Go.getf X187 hx hZ hown (word hw 36 rfl) e187 F187 (Jvm.hb hby d1_96) (q := 99) rfl ?_
  intro T201 X201 e201
  have ne203 : a1 ≠ a180 := Nat.ne_of_lt (Nat.lt_of_lt_of_le f199.lt (Nat.le_of_eq g180.symm))
  have f202 := R180.other W187 (Ne.symm ne203)
  refine Go.alen X201 hx hZ e201 f202 (Jvm.hb hby d1_99) (n := (1000 : Int32)) (by rw [List.length_replicate]; decide) (q := 100) rfl ?_
  refine Go.newarr X201 hx hZ (aty := .double) (word hw 0 rfl) e201 (Jvm.hb hby d1_100) (by decide) (k := 1000) (by decide) (by decide) (by decide) (by decide) (ad := "[D") (by decide) (q := 102) rfl ?_
  intro T204 h204 a204 kk204 g204 X204 e204 E204 R204 A204
  have z205 : n0 ≤ h180.size := Nat.le_trans z182 E180.1
  have z206 : n0 ≤ h187.size := Nat.le_trans z205 (Nat.le_of_eq W187.size.symm)
  have r207 : n0 ≤ a204 := Nat.le_trans z206 (Nat.le_of_eq g204.symm)
  have k208 : Keep h0 h180 [a1] := k186.ext E180
  have k209 : Keep h0 h187 [a1] := k208.wr W187 (Or.inl (List.mem_of_getElem? (i := 0) rfl))
  have y207 : h0.size ≤ a204 := Nat.le_trans k209.1 (Nat.le_of_eq g204.symm)
  have f211 := F7.other W104 (Or.inr (Jvm.RoadKit.slot_ne (Or.inr (word hw 39 rfl)) (Or.inr (word hw 12 rfl)) (by decide) (t := (.array .double)) (t' := .int) (by decide) (by decide)))
  have f212 := f211.other W107 (Or.inr (Jvm.RoadKit.slot_ne (Or.inr (word hw 39 rfl)) (Or.inr (word hw 14 rfl)) (by decide) (t := (.array .double)) (t' := .int) (by decide) (by decide)))
  have f213 := f212.ext E110
  have f214 := f213.other W116 (Or.inr (Jvm.RoadKit.slot_ne (Or.inr (word hw 39 rfl)) (Or.inl (word hw 16 rfl)) (by decide) (t := (.array .double)) (t' := (.array .double)) (by decide) (by decide)))
  have f215 := f214.ext E122
  have f216 := f215.keep K135 (ninS ne145 nin0)
  have f217 := f216.other W137 (Or.inr (Jvm.RoadKit.slot_ne (Or.inr (word hw 39 rfl)) (Or.inr (word hw 31 rfl)) (by decide) (t := (.array .double)) (t' := (.object "com/example/ratewright/ratewright/inference/GradientCorrection$NormalEquations")) (by decide) (by decide)))
  have f218 := f217.ext E148
  have f219 := f218.keep K162 (ninS ne175 nin0)
  have f220 := f219.other W164 (Or.inr (Jvm.RoadKit.slot_ne (Or.inr (word hw 39 rfl)) (Or.inr (word hw 33 rfl)) (by decide) (t := (.array .double)) (t' := (.object "com/example/ratewright/ratewright/inference/GradientCorrection$NormalEquations")) (by decide) (by decide)))
  have f221 := f220.ext E180
  have f222 := f221.other W187 (Or.inr (Jvm.RoadKit.slot_ne (Or.inr (word hw 39 rfl)) (Or.inr (word hw 37 rfl)) (by decide) (t := (.array .double)) (t' := (.array (.array .double))) (by decide) (by decide)))
  have f223 := f222.ext E204
  have f224 := f200.wr W187
  have f225 := f224.ext E204
  refine Go.putf X204 hx hZ hown (word hw 38 rfl) e204 f223 f225 (Or.inr ⟨(word hw 39 rfl), rfl, hnm⟩) (word hw 3 rfl) (ty := (.array .double)) (by decide) rfl rfl (Jvm.hb hby d1_102) (q := 105) rfl ?_
  intro T210 h210 X210 e210 W210
  have N210 := Fr.snoc X210 N187 g1
  have F210 := f223.same W210
  refine Go.iloadN X210.here hx (Jvm.hb hby d1_105) rfl (q := 106) rfl ?_
  have hc106_227 : ¬ ((1 : Int32) = (0 : Int32)) := by decide
  refine Go.ifN X210.here hx (Jvm.hb hby d1_106) ((if0 _ _).trans (feq hc106_227).1) (q := 109) rfl ?_
  refine Go.iloadN X210.here hx (Jvm.hb hby d1_109) rfl (q := 110) rfl ?_
  refine Go.goto X210.here hx (Jvm.hb hby d1_110) (by decide) (q := 114) rfl ?_
  refine Go.istore X210.here hx (Jvm.hb hby d1_114) (l2 := #[.val (.ref a1), .val (.int (4 : Int32)), .val (.int w2), .val (.int (1 : Int32)), .val (.int w2)]) rfl (q := 116) rfl ?_
  refine Go.aloadN X210.here hx (Jvm.hb hby d1_116) rfl rfl (q := 117) rfl ?_
  rcases hm with rfl | rfl | rfl | rfl
  · -- w2 = 0
    refine Go.iload X210.here hx (Jvm.hb hby d1_117) rfl (q := 119) rfl ?_
    refine Go.aloadN X210.here hx (Jvm.hb hby d1_119) rfl rfl (q := 120) rfl ?_
    have f229 := f161.keep K162 (ninS ne175 nin0)
    have f230 := f229.other W164 (Or.inr (Jvm.RoadKit.slot_ne (Or.inr (word hw 14 rfl)) (Or.inr (word hw 33 rfl)) (by decide) (t := .int) (t' := (.object "com/example/ratewright/ratewright/inference/GradientCorrection$NormalEquations")) (by decide) (by decide)))
    have f231 := f230.ext E180
    have f232 := f231.other W187 (Or.inr (Jvm.RoadKit.slot_ne (Or.inr (word hw 14 rfl)) (Or.inr (word hw 37 rfl)) (by decide) (t := .int) (t' := (.array (.array .double))) (by decide) (by decide)))
    have f233 := f232.ext E204
    have f234 := f233.other W210 (Or.inr (Jvm.RoadKit.slot_ne (Or.inr (word hw 14 rfl)) (Or.inr (word hw 39 rfl)) (by decide) (t := .int) (t' := (.array .double)) (by decide) (by decide)))
    refine Go.getf X210 hx hZ hown (word hw 13 rfl) e210 f234 (Jvm.hb hby d1_120) (q := 123) rfl ?_
    intro T228 X228 e228
    refine Go.grid X228 hx hZ hown (ty := .double) (C := "[D") (by decide) (by decide) (word hw 40 rfl) (word hw 35 rfl) (word hw 0 rfl) e228 (Jvm.hb hby d1_123) (by decide) (by decide) (N := 0) (by decide) (K := 16) (by decide) (by decide) (by decide) rfl rfl (by decide) (by decide) (q := 127) rfl ?_
    intro T235 h235 a235 g235 X235 e235 E235 A235
    have z236 : n0 ≤ h204.size := Nat.le_trans z206 E204.1
    have z237 : n0 ≤ h210.size := Nat.le_trans z236 (Nat.le_of_eq W210.size.symm)
    have r238 : n0 ≤ a235 := Nat.le_trans z237 (Nat.le_of_eq g235.symm)
    have k239 : Keep h0 h204 [a1] := k209.ext E204
    have k240 : Keep h0 h210 [a1] := k239.wr W210 (Or.inl (List.mem_of_getElem? (i := 0) rfl))
    have y238 : h0.size ≤ a235 := Nat.le_trans k240.1 (Nat.le_of_eq g235.symm)
    have f242 := F8.other W104 (Or.inr (Jvm.RoadKit.slot_ne (Or.inr (word hw 42 rfl)) (Or.inr (word hw 12 rfl)) (by decide) (t := (.array (.array .double))) (t' := .int) (by decide) (by decide)))
    have f243 := f242.other W107 (Or.inr (Jvm.RoadKit.slot_ne (Or.inr (word hw 42 rfl)) (Or.inr (word hw 14 rfl)) (by decide) (t := (.array (.array .double))) (t' := .int) (by decide) (by decide)))
    have f244 := f243.ext E110
    have f245 := f244.other W116 (Or.inr (Jvm.RoadKit.slot_ne (Or.inr (word hw 42 rfl)) (Or.inl (word hw 16 rfl)) (by decide) (t := (.array (.array .double))) (t' := (.array .double)) (by decide) (by decide)))
    have f246 := f245.ext E122
    have f247 := f246.keep K135 (ninS ne145 nin0)
    have f248 := f247.other W137 (Or.inr (Jvm.RoadKit.slot_ne (Or.inr (word hw 42 rfl)) (Or.inr (word hw 31 rfl)) (by decide) (t := (.array (.array .double))) (t' := (.object "com/example/ratewright/ratewright/inference/GradientCorrection$NormalEquations")) (by decide) (by decide)))
    have f249 := f248.ext E148
    have f250 := f249.keep K162 (ninS ne175 nin0)
    have f251 := f250.other W164 (Or.inr (Jvm.RoadKit.slot_ne (Or.inr (word hw 42 rfl)) (Or.inr (word hw 33 rfl)) (by decide) (t := (.array (.array .double))) (t' := (.object "com/example/ratewright/ratewright/inference/GradientCorrection$NormalEquations")) (by decide) (by decide)))
    have f252 := f251.ext E180
    have f253 := f252.other W187 (Or.inr (Jvm.RoadKit.slot_ne (Or.inr (word hw 42 rfl)) (Or.inr (word hw 37 rfl)) (by decide) (t := (.array (.array .double))) (t' := (.array (.array .double))) (by decide) (by decide)))
    have f254 := f253.ext E204
    have f255 := f254.other W210 (Or.inr (Jvm.RoadKit.slot_ne (Or.inr (word hw 42 rfl)) (Or.inr (word hw 39 rfl)) (by decide) (t := (.array (.array .double))) (t' := (.array .double)) (by decide) (by decide)))
    have f256 := f255.ext E235
    have f257 := f225.wr W210
    have f258 := f257.ext E235
    refine Go.putf X235 hx hZ hown (word hw 41 rfl) e235 f256 f258 (Or.inr ⟨(word hw 42 rfl), rfl, hnm⟩) (word hw 3 rfl) (ty := (.array (.array .double))) (by decide) rfl rfl (Jvm.hb hby d1_127) (q := 130) rfl ?_
    intro T241 h241 X241 e241 W241
    have N241 := Fr.snoc X241 N210 g1
    have F241 := f256.same W241
    refine Go.aloadN X241.here hx (Jvm.hb hby d1_130) rfl rfl (q := 131) rfl ?_
    refine Go.iload X241.here hx (Jvm.hb hby d1_131) rfl (q := 133) rfl ?_
    refine Go.newarr X241 hx hZ (aty := .double) (word hw 0 rfl) e241 (Jvm.hb hby d1_133) (by decide) (k := 0) (by decide) (by decide) (by decide) (by decide) (ad := "[D") (by decide) (q := 135) rfl ?_
    intro T259 h259 a259 kk259 g259 X259 e259 E259 R259 A259
    have z260 : n0 ≤ h235.size := Nat.le_trans z237 E235.1
    have z261 : n0 ≤ h241.size := Nat.le_trans z260 (Nat.le_of_eq W241.size.symm)
    have r262 : n0 ≤ a259 := Nat.le_trans z261 (Nat.le_of_eq g259.symm)
    have k263 : Keep h0 h235 [a1] := k240.ext E235
    have k264 : Keep h0 h241 [a1] := k263.wr W241 (Or.inl (List.mem_of_getElem? (i := 0) rfl))
    have y262 : h0.size ≤ a259 := Nat.le_trans k264.1 (Nat.le_of_eq g259.symm)
    have R259 : Row Z h259 a259 .double kk259 [] := R259
    have f266 := F9.other W104 (Or.inr (Jvm.RoadKit.slot_ne (Or.inr (word hw 44 rfl)) (Or.inr (word hw 12 rfl)) (by decide) (t := (.array .double)) (t' := .int) (by decide) (by decide)))
    have f267 := f266.other W107 (Or.inr (Jvm.RoadKit.slot_ne (Or.inr (word hw 44 rfl)) (Or.inr (word hw 14 rfl)) (by decide) (t := (.array .double)) (t' := .int) (by decide) (by decide)))
    have f268 := f267.ext E110
    have f269 := f268.other W116 (Or.inr (Jvm.RoadKit.slot_ne (Or.inr (word hw 44 rfl)) (Or.inl (word hw 16 rfl)) (by decide) (t := (.array .double)) (t' := (.array .double)) (by decide) (by decide)))
    have f270 := f269.ext E122
    have f271 := f270.keep K135 (ninS ne145 nin0)
    have f272 := f271.other W137 (Or.inr (Jvm.RoadKit.slot_ne (Or.inr (word hw 44 rfl)) (Or.inr (word hw 31 rfl)) (by decide) (t := (.array .double)) (t' := (.object "com/example/ratewright/ratewright/inference/GradientCorrection$NormalEquations")) (by decide) (by decide)))
    have f273 := f272.ext E148
    have f274 := f273.keep K162 (ninS ne175 nin0)
    have f275 := f274.other W164 (Or.inr (Jvm.RoadKit.slot_ne (Or.inr (word hw 44 rfl)) (Or.inr (word hw 33 rfl)) (by decide) (t := (.array .double)) (t' := (.object "com/example/ratewright/ratewright/inference/GradientCorrection$NormalEquations")) (by decide) (by decide)))
    have f276 := f275.ext E180
    have f277 := f276.other W187 (Or.inr (Jvm.RoadKit.slot_ne (Or.inr (word hw 44 rfl)) (Or.inr (word hw 37 rfl)) (by decide) (t := (.array .double)) (t' := (.array (.array .double))) (by decide) (by decide)))
    have f278 := f277.ext E204
    have f279 := f278.other W210 (Or.inr (Jvm.RoadKit.slot_ne (Or.inr (word hw 44 rfl)) (Or.inr (word hw 39 rfl)) (by decide) (t := (.array .double)) (t' := (.array .double)) (by decide) (by decide)))
    have f280 := f279.ext E235
    have f281 := f280.other W241 (Or.inr (Jvm.RoadKit.slot_ne (Or.inr (word hw 44 rfl)) (Or.inr (word hw 42 rfl)) (by decide) (t := (.array .double)) (t' := (.array (.array .double))) (by decide) (by decide)))
    have f282 := f281.ext E259
    have f283 := f258.wr W241
    have f284 := f283.ext E259
    refine Go.putf X259 hx hZ hown (word hw 43 rfl) e259 f282 f284 (Or.inr ⟨(word hw 44 rfl), rfl, hnm⟩) (word hw 3 rfl) (ty := (.array .double)) (by decide) rfl rfl (Jvm.hb hby d1_135) (q := 138) rfl ?_
    intro T265 h265 X265 e265 W265
    have N265 := Fr.snoc X265 N241 g1
    have F265 := f282.same W265
    have k285 : Keep h0 h259 [a1] := k264.ext E259
    have k286 : Keep h0 h265 [a1] := k285.wr W265 (Or.inl (List.mem_of_getElem? (i := 0) rfl))
    have f287 := f284.wr W265
    have f288 := F104.other W107 (Or.inr (Jvm.RoadKit.slot_ne (Or.inr (word hw 12 rfl)) (Or.inr (word hw 14 rfl)) (by decide) (t := .int) (t' := .int) (by decide) (by decide)))
    have f289 := f288.ext E110
    have f290 := f289.other W116 (Or.inr (Jvm.RoadKit.slot_ne (Or.inr (word hw 12 rfl)) (Or.inl (word hw 16 rfl)) (by decide) (t := .int) (t' := (.array .double)) (by decide) (by decide)))
    have f291 := f290.ext E122
    have f292 := f291.keep K135 (ninS ne145 nin0)
    have f293 := f292.other W137 (Or.inr (Jvm.RoadKit.slot_ne (Or.inr (word hw 12 rfl)) (Or.inr (word hw 31 rfl)) (by decide) (t := .int) (t' := (.object "com/example/ratewright/ratewright/inference/GradientCorrection$NormalEquations")) (by decide) (by decide)))
    have f294 := f293.ext E148
    have f295 := f294.keep K162 (ninS ne175 nin0)
    have f296 := f295.other W164 (Or.inr (Jvm.RoadKit.slot_ne (Or.inr (word hw 12 rfl)) (Or.inr (word hw 33 rfl)) (by decide) (t := .int) (t' := (.object "com/example/ratewright/ratewright/inference/GradientCorrection$NormalEquations")) (by decide) (by decide)))
    have f297 := f296.ext E180
    have f298 := f297.other W187 (Or.inr (Jvm.RoadKit.slot_ne (Or.inr (word hw 12 rfl)) (Or.inr (word hw 37 rfl)) (by decide) (t := .int) (t' := (.array (.array .double))) (by decide) (by decide)))
    have f299 := f298.ext E204
    have f300 := f299.other W210 (Or.inr (Jvm.RoadKit.slot_ne (Or.inr (word hw 12 rfl)) (Or.inr (word hw 39 rfl)) (by decide) (t := .int) (t' := (.array .double)) (by decide) (by decide)))
    have f301 := f300.ext E235
    have f302 := f301.other W241 (Or.inr (Jvm.RoadKit.slot_ne (Or.inr (word hw 12 rfl)) (Or.inr (word hw 42 rfl)) (by decide) (t := .int) (t' := (.array (.array .double))) (by decide) (by decide)))
    have f303 := f302.ext E259
    have f304 := f303.other W265 (Or.inr (Jvm.RoadKit.slot_ne (Or.inr (word hw 12 rfl)) (Or.inr (word hw 44 rfl)) (by decide) (t := .int) (t' := (.array .double)) (by decide) (by decide)))
    have f305 := F116.ext E122
    have f306 := f305.keep K135 (ninS ne145 nin0)
    have f307 := f306.other W137 (Or.inr (Jvm.RoadKit.slot_ne (Or.inl (word hw 16 rfl)) (Or.inr (word hw 31 rfl)) (by decide) (t := (.array .double)) (t' := (.object "com/example/ratewright/ratewright/inference/GradientCorrection$NormalEquations")) (by decide) (by decide)))
    have f308 := f307.ext E148
    have f309 := f308.keep K162 (ninS ne175 nin0)
    have f310 := f309.other W164 (Or.inr (Jvm.RoadKit.slot_ne (Or.inl (word hw 16 rfl)) (Or.inr (word hw 33 rfl)) (by decide) (t := (.array .double)) (t' := (.object "com/example/ratewright/ratewright/inference/GradientCorrection$NormalEquations")) (by decide) (by decide)))
    have f311 := f310.ext E180
    have f312 := f311.other W187 (Or.inr (Jvm.RoadKit.slot_ne (Or.inl (word hw 16 rfl)) (Or.inr (word hw 37 rfl)) (by decide) (t := (.array .double)) (t' := (.array (.array .double))) (by decide) (by decide)))
    have f313 := f312.ext E204
    have f314 := f313.other W210 (Or.inr (Jvm.RoadKit.slot_ne (Or.inl (word hw 16 rfl)) (Or.inr (word hw 39 rfl)) (by decide) (t := (.array .double)) (t' := (.array .double)) (by decide) (by decide)))
    have f315 := f314.ext E235
    have f316 := f315.other W241 (Or.inr (Jvm.RoadKit.slot_ne (Or.inl (word hw 16 rfl)) (Or.inr (word hw 42 rfl)) (by decide) (t := (.array .double)) (t' := (.array (.array .double))) (by decide) (by decide)))
    have f317 := f316.ext E259
    have f318 := f317.other W265 (Or.inr (Jvm.RoadKit.slot_ne (Or.inl (word hw 16 rfl)) (Or.inr (word hw 44 rfl)) (by decide) (t := (.array .double)) (t' := (.array .double)) (by decide) (by decide)))
    have ne320 : a1 ≠ a110 := Nat.ne_of_lt (Nat.lt_of_lt_of_le f120.lt (Nat.le_of_eq g110.symm))
    have f319 := R110.other W116 (Ne.symm ne320)
    have f321 := f319.ext E122
    have ne323 : a110 ≠ a122 := Nat.ne_of_lt (Nat.lt_of_lt_of_le f319.lt (Nat.le_of_eq g122.symm))
    have f322 := f321.keep K135 (ninS ne323 nin0)
    have f324 := f322.other W137 (Ne.symm ne320)
    have f325 := f324.ext E148
    have ne327 : a110 ≠ a148 := Nat.ne_of_lt (Nat.lt_of_lt_of_le f324.lt (Nat.le_of_eq g148.symm))
    have f326 := f325.keep K162 (ninS ne327 nin0)
    have f328 := f326.other W164 (Ne.symm ne320)
    have f329 := f328.ext E180
    have f330 := f329.other W187 (Ne.symm ne320)
    have f331 := f330.ext E204
    have f332 := f331.other W210 (Ne.symm ne320)
    have f333 := f332.ext E235
    have f334 := f333.other W241 (Ne.symm ne320)
    have f335 := f334.ext E259
    have f336 := f335.other W265 (Ne.symm ne320)
    refine Go.retV X265 hx hret hlk (Jvm.hb hby d1_138) (by decide) (by decide) ?_
    rw [e265]
    exact ⟨a110, kk110, rfl, N265, k286, y113, f287, f304, f318, f336⟩
  · -- w2 = 1
    refine Go.iload X210.here hx (Jvm.hb hby d1_117) rfl (q := 119) rfl ?_
    refine Go.aloadN X210.here hx (Jvm.hb hby d1_119) rfl rfl (q := 120) rfl ?_
    have f338 := f161.keep K162 (ninS ne175 nin0)
    have f339 := f338.other W164 (Or.inr (Jvm.RoadKit.slot_ne (Or.inr (word hw 14 rfl)) (Or.inr (word hw 33 rfl)) (by decide) (t := .int) (t' := (.object "com/example/ratewright/ratewright/inference/GradientCorrection$NormalEquations")) (by decide) (by decide)))
    have f340 := f339.ext E180
    have f341 := f340.other W187 (Or.inr (Jvm.RoadKit.slot_ne (Or.inr (word hw 14 rfl)) (Or.inr (word hw 37 rfl)) (by decide) (t := .int) (t' := (.array (.array .double))) (by decide) (by decide)))
    have f342 := f341.ext E204
    have f343 := f342.other W210 (Or.inr (Jvm.RoadKit.slot_ne (Or.inr (word hw 14 rfl)) (Or.inr (word hw 39 rfl)) (by decide) (t := .int) (t' := (.array .double)) (by decide) (by decide)))
    refine Go.getf X210 hx hZ hown (word hw 13 rfl) e210 f343 (Jvm.hb hby d1_120) (q := 123) rfl ?_
    intro T337 X337 e337
    refine Go.grid X337 hx hZ hown (ty := .double) (C := "[D") (by decide) (by decide) (word hw 40 rfl) (word hw 35 rfl) (word hw 0 rfl) e337 (Jvm.hb hby d1_123) (by decide) (by decide) (N := 1) (by decide) (K := 16) (by decide) (by decide) (by decide) rfl rfl (by decide) (by decide) (q := 127) rfl ?_
    intro T344 h344 a344 g344 X344 e344 E344 A344
    have z345 : n0 ≤ h204.size := Nat.le_trans z206 E204.1
    have z346 : n0 ≤ h210.size := Nat.le_trans z345 (Nat.le_of_eq W210.size.symm)
    have r347 : n0 ≤ a344 := Nat.le_trans z346 (Nat.le_of_eq g344.symm)
    have k348 : Keep h0 h204 [a1] := k209.ext E204
    have k349 : Keep h0 h210 [a1] := k348.wr W210 (Or.inl (List.mem_of_getElem? (i := 0) rfl))
    have y347 : h0.size ≤ a344 := Nat.le_trans k349.1 (Nat.le_of_eq g344.symm)
    have f351 := F8.other W104 (Or.inr (Jvm.RoadKit.slot_ne (Or.inr (word hw 42 rfl)) (Or.inr (word hw 12 rfl)) (by decide) (t := (.array (.array .double))) (t' := .int) (by decide) (by decide)))
    have f352 := f351.other W107 (Or.inr (Jvm.RoadKit.slot_ne (Or.inr (word hw 42 rfl)) (Or.inr (word hw 14 rfl)) (by decide) (t := (.array (.array .double))) (t' := .int) (by decide) (by decide)))
    have f353 := f352.ext E110
    have f354 := f353.other W116 (Or.inr (Jvm.RoadKit.slot_ne (Or.inr (word hw 42 rfl)) (Or.inl (word hw 16 rfl)) (by decide) (t := (.array (.array .double))) (t' := (.array .double)) (by decide) (by decide)))
    have f355 := f354.ext E122
    have f356 := f355.keep K135 (ninS ne145 nin0)
    have f357 := f356.other W137 (Or.inr (Jvm.RoadKit.slot_ne (Or.inr (word hw 42 rfl)) (Or.inr (word hw 31 rfl)) (by decide) (t := (.array (.array .double))) (t' := (.object "com/example/ratewright/ratewright/inference/GradientCorrection$NormalEquations")) (by decide) (by decide)))
    have f358 := f357.ext E148
    have f359 := f358.keep K162 (ninS ne175 nin0)
    have f360 := f359.other W164 (Or.inr (Jvm.RoadKit.slot_ne (Or.inr (word hw 42 rfl)) (Or.inr (word hw 33 rfl)) (by decide) (t := (.array (.array .double))) (t' := (.object "com/example/ratewright/ratewright/inference/GradientCorrection$NormalEquations")) (by decide) (by decide)))
    have f361 := f360.ext E180
    have f362 := f361.other W187 (Or.inr (Jvm.RoadKit.slot_ne (Or.inr (word hw 42 rfl)) (Or.inr (word hw 37 rfl)) (by decide) (t := (.array (.array .double))) (t' := (.array (.array .double))) (by decide) (by decide)))
    have f363 := f362.ext E204
    have f364 := f363.other W210 (Or.inr (Jvm.RoadKit.slot_ne (Or.inr (word hw 42 rfl)) (Or.inr (word hw 39 rfl)) (by decide) (t := (.array (.array .double))) (t' := (.array .double)) (by decide) (by decide)))
    have f365 := f364.ext E344
    have f366 := f225.wr W210
    have f367 := f366.ext E344
    refine Go.putf X344 hx hZ hown (word hw 41 rfl) e344 f365 f367 (Or.inr ⟨(word hw 42 rfl), rfl, hnm⟩) (word hw 3 rfl) (ty := (.array (.array .double))) (by decide) rfl rfl (Jvm.hb hby d1_127) (q := 130) rfl ?_
    intro T350 h350 X350 e350 W350
    have N350 := Fr.snoc X350 N210 g1
    have F350 := f365.same W350
    refine Go.aloadN X350.here hx (Jvm.hb hby d1_130) rfl rfl (q := 131) rfl ?_
    refine Go.iload X350.here hx (Jvm.hb hby d1_131) rfl (q := 133) rfl ?_
    refine Go.newarr X350 hx hZ (aty := .double) (word hw 0 rfl) e350 (Jvm.hb hby d1_133) (by decide) (k := 1) (by decide) (by decide) (by decide) (by decide) (ad := "[D") (by decide) (q := 135) rfl ?_
    intro T368 h368 a368 kk368 g368 X368 e368 E368 R368 A368
    have z369 : n0 ≤ h344.size := Nat.le_trans z346 E344.1
    have z370 : n0 ≤ h350.size := Nat.le_trans z369 (Nat.le_of_eq W350.size.symm)
    have r371 : n0 ≤ a368 := Nat.le_trans z370 (Nat.le_of_eq g368.symm)
    have k372 : Keep h0 h344 [a1] := k349.ext E344
    have k373 : Keep h0 h350 [a1] := k372.wr W350 (Or.inl (List.mem_of_getElem? (i := 0) rfl))
    have y371 : h0.size ≤ a368 := Nat.le_trans k373.1 (Nat.le_of_eq g368.symm)
    have R368 : Row Z h368 a368 .double kk368 [(.double (0 : UInt64))] := R368
    have f375 := F9.other W104 (Or.inr (Jvm.RoadKit.slot_ne (Or.inr (word hw 44 rfl)) (Or.inr (word hw 12 rfl)) (by decide) (t := (.array .double)) (t' := .int) (by decide) (by decide)))
    have f376 := f375.other W107 (Or.inr (Jvm.RoadKit.slot_ne (Or.inr (word hw 44 rfl)) (Or.inr (word hw 14 rfl)) (by decide) (t := (.array .double)) (t' := .int) (by decide) (by decide)))
    have f377 := f376.ext E110
    have f378 := f377.other W116 (Or.inr (Jvm.RoadKit.slot_ne (Or.inr (word hw 44 rfl)) (Or.inl (word hw 16 rfl)) (by decide) (t := (.array .double)) (t' := (.array .double)) (by decide) (by decide)))
    have f379 := f378.ext E122
    have f380 := f379.keep K135 (ninS ne145 nin0)
    have f381 := f380.other W137 (Or.inr (Jvm.RoadKit.slot_ne (Or.inr (word hw 44 rfl)) (Or.inr (word hw 31 rfl)) (by decide) (t := (.array .double)) (t' := (.object "com/example/ratewright/ratewright/inference/GradientCorrection$NormalEquations")) (by decide) (by decide)))
    have f382 := f381.ext E148
    have f383 := f382.keep K162 (ninS ne175 nin0)
    have f384 := f383.other W164 (Or.inr (Jvm.RoadKit.slot_ne (Or.inr (word hw 44 rfl)) (Or.inr (word hw 33 rfl)) (by decide) (t := (.array .double)) (t' := (.object "com/example/ratewright/ratewright/inference/GradientCorrection$NormalEquations")) (by decide) (by decide)))
    have f385 := f384.ext E180
    have f386 := f385.other W187 (Or.inr (Jvm.RoadKit.slot_ne (Or.inr (word hw 44 rfl)) (Or.inr (word hw 37 rfl)) (by decide) (t := (.array .double)) (t' := (.array (.array .double))) (by decide) (by decide)))
    have f387 := f386.ext E204
    have f388 := f387.other W210 (Or.inr (Jvm.RoadKit.slot_ne (Or.inr (word hw 44 rfl)) (Or.inr (word hw 39 rfl)) (by decide) (t := (.array .double)) (t' := (.array .double)) (by decide) (by decide)))
    have f389 := f388.ext E344
    have f390 := f389.other W350 (Or.inr (Jvm.RoadKit.slot_ne (Or.inr (word hw 44 rfl)) (Or.inr (word hw 42 rfl)) (by decide) (t := (.array .double)) (t' := (.array (.array .double))) (by decide) (by decide)))
    have f391 := f390.ext E368
    have f392 := f367.wr W350
    have f393 := f392.ext E368
    refine Go.putf X368 hx hZ hown (word hw 43 rfl) e368 f391 f393 (Or.inr ⟨(word hw 44 rfl), rfl, hnm⟩) (word hw 3 rfl) (ty := (.array .double)) (by decide) rfl rfl (Jvm.hb hby d1_135) (q := 138) rfl ?_
    intro T374 h374 X374 e374 W374
    have N374 := Fr.snoc X374 N350 g1
    have F374 := f391.same W374
    have k394 : Keep h0 h368 [a1] := k373.ext E368
    have k395 : Keep h0 h374 [a1] := k394.wr W374 (Or.inl (List.mem_of_getElem? (i := 0) rfl))
    have f396 := f393.wr W374
    have f397 := F104.other W107 (Or.inr (Jvm.RoadKit.slot_ne (Or.inr (word hw 12 rfl)) (Or.inr (word hw 14 rfl)) (by decide) (t := .int) (t' := .int) (by decide) (by decide)))
    have f398 := f397.ext E110
    have f399 := f398.other W116 (Or.inr (Jvm.RoadKit.slot_ne (Or.inr (word hw 12 rfl)) (Or.inl (word hw 16 rfl)) (by decide) (t := .int) (t' := (.array .double)) (by decide) (by decide)))
    have f400 := f399.ext E122
    have f401 := f400.keep K135 (ninS ne145 nin0)
    have f402 := f401.other W137 (Or.inr (Jvm.RoadKit.slot_ne (Or.inr (word hw 12 rfl)) (Or.inr (word hw 31 rfl)) (by decide) (t := .int) (t' := (.object "com/example/ratewright/ratewright/inference/GradientCorrection$NormalEquations")) (by decide) (by decide)))
    have f403 := f402.ext E148
    have f404 := f403.keep K162 (ninS ne175 nin0)
    have f405 := f404.other W164 (Or.inr (Jvm.RoadKit.slot_ne (Or.inr (word hw 12 rfl)) (Or.inr (word hw 33 rfl)) (by decide) (t := .int) (t' := (.object "com/example/ratewright/ratewright/inference/GradientCorrection$NormalEquations")) (by decide) (by decide)))
    have f406 := f405.ext E180
    have f407 := f406.other W187 (Or.inr (Jvm.RoadKit.slot_ne (Or.inr (word hw 12 rfl)) (Or.inr (word hw 37 rfl)) (by decide) (t := .int) (t' := (.array (.array .double))) (by decide) (by decide)))
    have f408 := f407.ext E204
    have f409 := f408.other W210 (Or.inr (Jvm.RoadKit.slot_ne (Or.inr (word hw 12 rfl)) (Or.inr (word hw 39 rfl)) (by decide) (t := .int) (t' := (.array .double)) (by decide) (by decide)))
    have f410 := f409.ext E344
    have f411 := f410.other W350 (Or.inr (Jvm.RoadKit.slot_ne (Or.inr (word hw 12 rfl)) (Or.inr (word hw 42 rfl)) (by decide) (t := .int) (t' := (.array (.array .double))) (by decide) (by decide)))
    have f412 := f411.ext E368
    have f413 := f412.other W374 (Or.inr (Jvm.RoadKit.slot_ne (Or.inr (word hw 12 rfl)) (Or.inr (word hw 44 rfl)) (by decide) (t := .int) (t' := (.array .double)) (by decide) (by decide)))
    have f414 := F116.ext E122
    have f415 := f414.keep K135 (ninS ne145 nin0)
    have f416 := f415.other W137 (Or.inr (Jvm.RoadKit.slot_ne (Or.inl (word hw 16 rfl)) (Or.inr (word hw 31 rfl)) (by decide) (t := (.array .double)) (t' := (.object "com/example/ratewright/ratewright/inference/GradientCorrection$NormalEquations")) (by decide) (by decide)))
    have f417 := f416.ext E148
    have f418 := f417.keep K162 (ninS ne175 nin0)
    have f419 := f418.other W164 (Or.inr (Jvm.RoadKit.slot_ne (Or.inl (word hw 16 rfl)) (Or.inr (word hw 33 rfl)) (by decide) (t := (.array .double)) (t' := (.object "com/example/ratewright/ratewright/inference/GradientCorrection$NormalEquations")) (by decide) (by decide)))
    have f420 := f419.ext E180
    have f421 := f420.other W187 (Or.inr (Jvm.RoadKit.slot_ne (Or.inl (word hw 16 rfl)) (Or.inr (word hw 37 rfl)) (by decide) (t := (.array .double)) (t' := (.array (.array .double))) (by decide) (by decide)))
    have f422 := f421.ext E204
    have f423 := f422.other W210 (Or.inr (Jvm.RoadKit.slot_ne (Or.inl (word hw 16 rfl)) (Or.inr (word hw 39 rfl)) (by decide) (t := (.array .double)) (t' := (.array .double)) (by decide) (by decide)))
    have f424 := f423.ext E344
    have f425 := f424.other W350 (Or.inr (Jvm.RoadKit.slot_ne (Or.inl (word hw 16 rfl)) (Or.inr (word hw 42 rfl)) (by decide) (t := (.array .double)) (t' := (.array (.array .double))) (by decide) (by decide)))
    have f426 := f425.ext E368
    have f427 := f426.other W374 (Or.inr (Jvm.RoadKit.slot_ne (Or.inl (word hw 16 rfl)) (Or.inr (word hw 44 rfl)) (by decide) (t := (.array .double)) (t' := (.array .double)) (by decide) (by decide)))
    have ne429 : a1 ≠ a110 := Nat.ne_of_lt (Nat.lt_of_lt_of_le f120.lt (Nat.le_of_eq g110.symm))
    have f428 := R110.other W116 (Ne.symm ne429)
    have f430 := f428.ext E122
    have ne432 : a110 ≠ a122 := Nat.ne_of_lt (Nat.lt_of_lt_of_le f428.lt (Nat.le_of_eq g122.symm))
    have f431 := f430.keep K135 (ninS ne432 nin0)
    have f433 := f431.other W137 (Ne.symm ne429)
    have f434 := f433.ext E148
    have ne436 : a110 ≠ a148 := Nat.ne_of_lt (Nat.lt_of_lt_of_le f433.lt (Nat.le_of_eq g148.symm))
    have f435 := f434.keep K162 (ninS ne436 nin0)
    have f437 := f435.other W164 (Ne.symm ne429)
    have f438 := f437.ext E180
    have f439 := f438.other W187 (Ne.symm ne429)
    have f440 := f439.ext E204
    have f441 := f440.other W210 (Ne.symm ne429)
    have f442 := f441.ext E344
    have f443 := f442.other W350 (Ne.symm ne429)
    have f444 := f443.ext E368
    have f445 := f444.other W374 (Ne.symm ne429)
    refine Go.retV X374 hx hret hlk (Jvm.hb hby d1_138) (by decide) (by decide) ?_
    rw [e374]
    exact ⟨a110, kk110, rfl, N374, k395, y113, f396, f413, f427, f445⟩
  · -- w2 = 2
    refine Go.iload X210.here hx (Jvm.hb hby d1_117) rfl (q := 119) rfl ?_
    refine Go.aloadN X210.here hx (Jvm.hb hby d1_119) rfl rfl (q := 120) rfl ?_
    have f447 := f161.keep K162 (ninS ne175 nin0)
    have f448 := f447.other W164 (Or.inr (Jvm.RoadKit.slot_ne (Or.inr (word hw 14 rfl)) (Or.inr (word hw 33 rfl)) (by decide) (t := .int) (t' := (.object "com/example/ratewright/ratewright/inference/GradientCorrection$NormalEquations")) (by decide) (by decide)))
    have f449 := f448.ext E180
    have f450 := f449.other W187 (Or.inr (Jvm.RoadKit.slot_ne (Or.inr (word hw 14 rfl)) (Or.inr (word hw 37 rfl)) (by decide) (t := .int) (t' := (.array (.array .double))) (by decide) (by decide)))
    have f451 := f450.ext E204
    have f452 := f451.other W210 (Or.inr (Jvm.RoadKit.slot_ne (Or.inr (word hw 14 rfl)) (Or.inr (word hw 39 rfl)) (by decide) (t := .int) (t' := (.array .double)) (by decide) (by decide)))
    refine Go.getf X210 hx hZ hown (word hw 13 rfl) e210 f452 (Jvm.hb hby d1_120) (q := 123) rfl ?_
    intro T446 X446 e446
    refine Go.grid X446 hx hZ hown (ty := .double) (C := "[D") (by decide) (by decide) (word hw 40 rfl) (word hw 35 rfl) (word hw 0 rfl) e446 (Jvm.hb hby d1_123) (by decide) (by decide) (N := 2) (by decide) (K := 16) (by decide) (by decide) (by decide) rfl rfl (by decide) (by decide) (q := 127) rfl ?_
    intro T453 h453 a453 g453 X453 e453 E453 A453
    have z454 : n0 ≤ h204.size := Nat.le_trans z206 E204.1
    have z455 : n0 ≤ h210.size := Nat.le_trans z454 (Nat.le_of_eq W210.size.symm)
    have r456 : n0 ≤ a453 := Nat.le_trans z455 (Nat.le_of_eq g453.symm)
    have k457 : Keep h0 h204 [a1] := k209.ext E204
    have k458 : Keep h0 h210 [a1] := k457.wr W210 (Or.inl (List.mem_of_getElem? (i := 0) rfl))
    have y456 : h0.size ≤ a453 := Nat.le_trans k458.1 (Nat.le_of_eq g453.symm)
    have f460 := F8.other W104 (Or.inr (Jvm.RoadKit.slot_ne (Or.inr (word hw 42 rfl)) (Or.inr (word hw 12 rfl)) (by decide) (t := (.array (.array .double))) (t' := .int) (by decide) (by decide)))
    have f461 := f460.other W107 (Or.inr (Jvm.RoadKit.slot_ne (Or.inr (word hw 42 rfl)) (Or.inr (word hw 14 rfl)) (by decide) (t := (.array (.array .double))) (t' := .int) (by decide) (by decide)))
    have f462 := f461.ext E110
    have f463 := f462.other W116 (Or.inr (Jvm.RoadKit.slot_ne (Or.inr (word hw 42 rfl)) (Or.inl (word hw 16 rfl)) (by decide) (t := (.array (.array .double))) (t' := (.array .double)) (by decide) (by decide)))
    have f464 := f463.ext E122
    have f465 := f464.keep K135 (ninS ne145 nin0)
    have f466 := f465.other W137 (Or.inr (Jvm.RoadKit.slot_ne (Or.inr (word hw 42 rfl)) (Or.inr (word hw 31 rfl)) (by decide) (t := (.array (.array .double))) (t' := (.object "com/example/ratewright/ratewright/inference/GradientCorrection$NormalEquations")) (by decide) (by decide)))
    have f467 := f466.ext E148
    have f468 := f467.keep K162 (ninS ne175 nin0)
    have f469 := f468.other W164 (Or.inr (Jvm.RoadKit.slot_ne (Or.inr (word hw 42 rfl)) (Or.inr (word hw 33 rfl)) (by decide) (t := (.array (.array .double))) (t' := (.object "com/example/ratewright/ratewright/inference/GradientCorrection$NormalEquations")) (by decide) (by decide)))
    have f470 := f469.ext E180
    have f471 := f470.other W187 (Or.inr (Jvm.RoadKit.slot_ne (Or.inr (word hw 42 rfl)) (Or.inr (word hw 37 rfl)) (by decide) (t := (.array (.array .double))) (t' := (.array (.array .double))) (by decide) (by decide)))
    have f472 := f471.ext E204
    have f473 := f472.other W210 (Or.inr (Jvm.RoadKit.slot_ne (Or.inr (word hw 42 rfl)) (Or.inr (word hw 39 rfl)) (by decide) (t := (.array (.array .double))) (t' := (.array .double)) (by decide) (by decide)))
    have f474 := f473.ext E453
    have f475 := f225.wr W210
    have f476 := f475.ext E453
    refine Go.putf X453 hx hZ hown (word hw 41 rfl) e453 f474 f476 (Or.inr ⟨(word hw 42 rfl), rfl, hnm⟩) (word hw 3 rfl) (ty := (.array (.array .double))) (by decide) rfl rfl (Jvm.hb hby d1_127) (q := 130) rfl ?_
    intro T459 h459 X459 e459 W459
    have N459 := Fr.snoc X459 N210 g1
    have F459 := f474.same W459
    refine Go.aloadN X459.here hx (Jvm.hb hby d1_130) rfl rfl (q := 131) rfl ?_
    refine Go.iload X459.here hx (Jvm.hb hby d1_131) rfl (q := 133) rfl ?_
    refine Go.newarr X459 hx hZ (aty := .double) (word hw 0 rfl) e459 (Jvm.hb hby d1_133) (by decide) (k := 2) (by decide) (by decide) (by decide) (by decide) (ad := "[D") (by decide) (q := 135) rfl ?_
    intro T477 h477 a477 kk477 g477 X477 e477 E477 R477 A477
    have z478 : n0 ≤ h453.size := Nat.le_trans z455 E453.1
    have z479 : n0 ≤ h459.size := Nat.le_trans z478 (Nat.le_of_eq W459.size.symm)
    have r480 : n0 ≤ a477 := Nat.le_trans z479 (Nat.le_of_eq g477.symm)
    have k481 : Keep h0 h453 [a1] := k458.ext E453
    have k482 : Keep h0 h459 [a1] := k481.wr W459 (Or.inl (List.mem_of_getElem? (i := 0) rfl))
    have y480 : h0.size ≤ a477 := Nat.le_trans k482.1 (Nat.le_of_eq g477.symm)
    have R477 : Row Z h477 a477 .double kk477 [(.double (0 : UInt64)), (.double (0 : UInt64))] := R477
    have f484 := F9.other W104 (Or.inr (Jvm.RoadKit.slot_ne (Or.inr (word hw 44 rfl)) (Or.inr (word hw 12 rfl)) (by decide) (t := (.array .double)) (t' := .int) (by decide) (by decide)))
    have f485 := f484.other W107 (Or.inr (Jvm.RoadKit.slot_ne (Or.inr (word hw 44 rfl)) (Or.inr (word hw 14 rfl)) (by decide) (t := (.array .double)) (t' := .int) (by decide) (by decide)))
    have f486 := f485.ext E110
    have f487 := f486.other W116 (Or.inr (Jvm.RoadKit.slot_ne (Or.inr (word hw 44 rfl)) (Or.inl (word hw 16 rfl)) (by decide) (t := (.array .double)) (t' := (.array .double)) (by decide) (by decide)))
    have f488 := f487.ext E122
    have f489 := f488.keep K135 (ninS ne145 nin0)
    have f490 := f489.other W137 (Or.inr (Jvm.RoadKit.slot_ne (Or.inr (word hw 44 rfl)) (Or.inr (word hw 31 rfl)) (by decide) (t := (.array .double)) (t' := (.object "com/example/ratewright/ratewright/inference/GradientCorrection$NormalEquations")) (by decide) (by decide)))
    have f491 := f490.ext E148
    have f492 := f491.keep K162 (ninS ne175 nin0)
    have f493 := f492.other W164 (Or.inr (Jvm.RoadKit.slot_ne (Or.inr (word hw 44 rfl)) (Or.inr (word hw 33 rfl)) (by decide) (t := (.array .double)) (t' := (.object "com/example/ratewright/ratewright/inference/GradientCorrection$NormalEquations")) (by decide) (by decide)))
    have f494 := f493.ext E180
    have f495 := f494.other W187 (Or.inr (Jvm.RoadKit.slot_ne (Or.inr (word hw 44 rfl)) (Or.inr (word hw 37 rfl)) (by decide) (t := (.array .double)) (t' := (.array (.array .double))) (by decide) (by decide)))
    have f496 := f495.ext E204
    have f497 := f496.other W210 (Or.inr (Jvm.RoadKit.slot_ne (Or.inr (word hw 44 rfl)) (Or.inr (word hw 39 rfl)) (by decide) (t := (.array .double)) (t' := (.array .double)) (by decide) (by decide)))
    have f498 := f497.ext E453
    have f499 := f498.other W459 (Or.inr (Jvm.RoadKit.slot_ne (Or.inr (word hw 44 rfl)) (Or.inr (word hw 42 rfl)) (by decide) (t := (.array .double)) (t' := (.array (.array .double))) (by decide) (by decide)))
    have f500 := f499.ext E477
    have f501 := f476.wr W459
    have f502 := f501.ext E477
    refine Go.putf X477 hx hZ hown (word hw 43 rfl) e477 f500 f502 (Or.inr ⟨(word hw 44 rfl), rfl, hnm⟩) (word hw 3 rfl) (ty := (.array .double)) (by decide) rfl rfl (Jvm.hb hby d1_135) (q := 138) rfl ?_
    intro T483 h483 X483 e483 W483
    have N483 := Fr.snoc X483 N459 g1
    have F483 := f500.same W483
    have k503 : Keep h0 h477 [a1] := k482.ext E477
    have k504 : Keep h0 h483 [a1] := k503.wr W483 (Or.inl (List.mem_of_getElem? (i := 0) rfl))
    have f505 := f502.wr W483
    have f506 := F104.other W107 (Or.inr (Jvm.RoadKit.slot_ne (Or.inr (word hw 12 rfl)) (Or.inr (word hw 14 rfl)) (by decide) (t := .int) (t' := .int) (by decide) (by decide)))
    have f507 := f506.ext E110
    have f508 := f507.other W116 (Or.inr (Jvm.RoadKit.slot_ne (Or.inr (word hw 12 rfl)) (Or.inl (word hw 16 rfl)) (by decide) (t := .int) (t' := (.array .double)) (by decide) (by decide)))
    have f509 := f508.ext E122
    have f510 := f509.keep K135 (ninS ne145 nin0)
    have f511 := f510.other W137 (Or.inr (Jvm.RoadKit.slot_ne (Or.inr (word hw 12 rfl)) (Or.inr (word hw 31 rfl)) (by decide) (t := .int) (t' := (.object "com/example/ratewright/ratewright/inference/GradientCorrection$NormalEquations")) (by decide) (by decide)))
    have f512 := f511.ext E148
    have f513 := f512.keep K162 (ninS ne175 nin0)
    have f514 := f513.other W164 (Or.inr (Jvm.RoadKit.slot_ne (Or.inr (word hw 12 rfl)) (Or.inr (word hw 33 rfl)) (by decide) (t := .int) (t' := (.object "com/example/ratewright/ratewright/inference/GradientCorrection$NormalEquations")) (by decide) (by decide)))
    have f515 := f514.ext E180
    have f516 := f515.other W187 (Or.inr (Jvm.RoadKit.slot_ne (Or.inr (word hw 12 rfl)) (Or.inr (word hw 37 rfl)) (by decide) (t := .int) (t' := (.array (.array .double))) (by decide) (by decide)))
    have f517 := f516.ext E204
    have f518 := f517.other W210 (Or.inr (Jvm.RoadKit.slot_ne (Or.inr (word hw 12 rfl)) (Or.inr (word hw 39 rfl)) (by decide) (t := .int) (t' := (.array .double)) (by decide) (by decide)))
    have f519 := f518.ext E453
    have f520 := f519.other W459 (Or.inr (Jvm.RoadKit.slot_ne (Or.inr (word hw 12 rfl)) (Or.inr (word hw 42 rfl)) (by decide) (t := .int) (t' := (.array (.array .double))) (by decide) (by decide)))
    have f521 := f520.ext E477
    have f522 := f521.other W483 (Or.inr (Jvm.RoadKit.slot_ne (Or.inr (word hw 12 rfl)) (Or.inr (word hw 44 rfl)) (by decide) (t := .int) (t' := (.array .double)) (by decide) (by decide)))
    have f523 := F116.ext E122
    have f524 := f523.keep K135 (ninS ne145 nin0)
    have f525 := f524.other W137 (Or.inr (Jvm.RoadKit.slot_ne (Or.inl (word hw 16 rfl)) (Or.inr (word hw 31 rfl)) (by decide) (t := (.array .double)) (t' := (.object "com/example/ratewright/ratewright/inference/GradientCorrection$NormalEquations")) (by decide) (by decide)))
    have f526 := f525.ext E148
    have f527 := f526.keep K162 (ninS ne175 nin0)
    have f528 := f527.other W164 (Or.inr (Jvm.RoadKit.slot_ne (Or.inl (word hw 16 rfl)) (Or.inr (word hw 33 rfl)) (by decide) (t := (.array .double)) (t' := (.object "com/example/ratewright/ratewright/inference/GradientCorrection$NormalEquations")) (by decide) (by decide)))
    have f529 := f528.ext E180
    have f530 := f529.other W187 (Or.inr (Jvm.RoadKit.slot_ne (Or.inl (word hw 16 rfl)) (Or.inr (word hw 37 rfl)) (by decide) (t := (.array .double)) (t' := (.array (.array .double))) (by decide) (by decide)))
    have f531 := f530.ext E204
    have f532 := f531.other W210 (Or.inr (Jvm.RoadKit.slot_ne (Or.inl (word hw 16 rfl)) (Or.inr (word hw 39 rfl)) (by decide) (t := (.array .double)) (t' := (.array .double)) (by decide) (by decide)))
    have f533 := f532.ext E453
    have f534 := f533.other W459 (Or.inr (Jvm.RoadKit.slot_ne (Or.inl (word hw 16 rfl)) (Or.inr (word hw 42 rfl)) (by decide) (t := (.array .double)) (t' := (.array (.array .double))) (by decide) (by decide)))
    have f535 := f534.ext E477
    have f536 := f535.other W483 (Or.inr (Jvm.RoadKit.slot_ne (Or.inl (word hw 16 rfl)) (Or.inr (word hw 44 rfl)) (by decide) (t := (.array .double)) (t' := (.array .double)) (by decide) (by decide)))
    have ne538 : a1 ≠ a110 := Nat.ne_of_lt (Nat.lt_of_lt_of_le f120.lt (Nat.le_of_eq g110.symm))
    have f537 := R110.other W116 (Ne.symm ne538)
    have f539 := f537.ext E122
    have ne541 : a110 ≠ a122 := Nat.ne_of_lt (Nat.lt_of_lt_of_le f537.lt (Nat.le_of_eq g122.symm))
    have f540 := f539.keep K135 (ninS ne541 nin0)
    have f542 := f540.other W137 (Ne.symm ne538)
    have f543 := f542.ext E148
    have ne545 : a110 ≠ a148 := Nat.ne_of_lt (Nat.lt_of_lt_of_le f542.lt (Nat.le_of_eq g148.symm))
    have f544 := f543.keep K162 (ninS ne545 nin0)
    have f546 := f544.other W164 (Ne.symm ne538)
    have f547 := f546.ext E180
    have f548 := f547.other W187 (Ne.symm ne538)
    have f549 := f548.ext E204
    have f550 := f549.other W210 (Ne.symm ne538)
    have f551 := f550.ext E453
    have f552 := f551.other W459 (Ne.symm ne538)
    have f553 := f552.ext E477
    have f554 := f553.other W483 (Ne.symm ne538)
    refine Go.retV X483 hx hret hlk (Jvm.hb hby d1_138) (by decide) (by decide) ?_
    rw [e483]
    exact ⟨a110, kk110, rfl, N483, k504, y113, f505, f522, f536, f554⟩
  · -- w2 = 3
    refine Go.iload X210.here hx (Jvm.hb hby d1_117) rfl (q := 119) rfl ?_
    refine Go.aloadN X210.here hx (Jvm.hb hby d1_119) rfl rfl (q := 120) rfl ?_
    have f556 := f161.keep K162 (ninS ne175 nin0)
    have f557 := f556.other W164 (Or.inr (Jvm.RoadKit.slot_ne (Or.inr (word hw 14 rfl)) (Or.inr (word hw 33 rfl)) (by decide) (t := .int) (t' := (.object "com/example/ratewright/ratewright/inference/GradientCorrection$NormalEquations")) (by decide) (by decide)))
    have f558 := f557.ext E180
    have f559 := f558.other W187 (Or.inr (Jvm.RoadKit.slot_ne (Or.inr (word hw 14 rfl)) (Or.inr (word hw 37 rfl)) (by decide) (t := .int) (t' := (.array (.array .double))) (by decide) (by decide)))
    have f560 := f559.ext E204
    have f561 := f560.other W210 (Or.inr (Jvm.RoadKit.slot_ne (Or.inr (word hw 14 rfl)) (Or.inr (word hw 39 rfl)) (by decide) (t := .int) (t' := (.array .double)) (by decide) (by decide)))
    refine Go.getf X210 hx hZ hown (word hw 13 rfl) e210 f561 (Jvm.hb hby d1_120) (q := 123) rfl ?_
    intro T555 X555 e555
    refine Go.grid X555 hx hZ hown (ty := .double) (C := "[D") (by decide) (by decide) (word hw 40 rfl) (word hw 35 rfl) (word hw 0 rfl) e555 (Jvm.hb hby d1_123) (by decide) (by decide) (N := 3) (by decide) (K := 16) (by decide) (by decide) (by decide) rfl rfl (by decide) (by decide) (q := 127) rfl ?_
    intro T562 h562 a562 g562 X562 e562 E562 A562
    have z563 : n0 ≤ h204.size := Nat.le_trans z206 E204.1
    have z564 : n0 ≤ h210.size := Nat.le_trans z563 (Nat.le_of_eq W210.size.symm)
    have r565 : n0 ≤ a562 := Nat.le_trans z564 (Nat.le_of_eq g562.symm)
    have k566 : Keep h0 h204 [a1] := k209.ext E204
    have k567 : Keep h0 h210 [a1] := k566.wr W210 (Or.inl (List.mem_of_getElem? (i := 0) rfl))
    have y565 : h0.size ≤ a562 := Nat.le_trans k567.1 (Nat.le_of_eq g562.symm)
    have f569 := F8.other W104 (Or.inr (Jvm.RoadKit.slot_ne (Or.inr (word hw 42 rfl)) (Or.inr (word hw 12 rfl)) (by decide) (t := (.array (.array .double))) (t' := .int) (by decide) (by decide)))
    have f570 := f569.other W107 (Or.inr (Jvm.RoadKit.slot_ne (Or.inr (word hw 42 rfl)) (Or.inr (word hw 14 rfl)) (by decide) (t := (.array (.array .double))) (t' := .int) (by decide) (by decide)))
    have f571 := f570.ext E110
    have f572 := f571.other W116 (Or.inr (Jvm.RoadKit.slot_ne (Or.inr (word hw 42 rfl)) (Or.inl (word hw 16 rfl)) (by decide) (t := (.array (.array .double))) (t' := (.array .double)) (by decide) (by decide)))
    have f573 := f572.ext E122
    have f574 := f573.keep K135 (ninS ne145 nin0)
    have f575 := f574.other W137 (Or.inr (Jvm.RoadKit.slot_ne (Or.inr (word hw 42 rfl)) (Or.inr (word hw 31 rfl)) (by decide) (t := (.array (.array .double))) (t' := (.object "com/example/ratewright/ratewright/inference/GradientCorrection$NormalEquations")) (by decide) (by decide)))
    have f576 := f575.ext E148
    have f577 := f576.keep K162 (ninS ne175 nin0)
    have f578 := f577.other W164 (Or.inr (Jvm.RoadKit.slot_ne (Or.inr (word hw 42 rfl)) (Or.inr (word hw 33 rfl)) (by decide) (t := (.array (.array .double))) (t' := (.object "com/example/ratewright/ratewright/inference/GradientCorrection$NormalEquations")) (by decide) (by decide)))
    have f579 := f578.ext E180
    have f580 := f579.other W187 (Or.inr (Jvm.RoadKit.slot_ne (Or.inr (word hw 42 rfl)) (Or.inr (word hw 37 rfl)) (by decide) (t := (.array (.array .double))) (t' := (.array (.array .double))) (by decide) (by decide)))
    have f581 := f580.ext E204
    have f582 := f581.other W210 (Or.inr (Jvm.RoadKit.slot_ne (Or.inr (word hw 42 rfl)) (Or.inr (word hw 39 rfl)) (by decide) (t := (.array (.array .double))) (t' := (.array .double)) (by decide) (by decide)))
    have f583 := f582.ext E562
    have f584 := f225.wr W210
    have f585 := f584.ext E562
    refine Go.putf X562 hx hZ hown (word hw 41 rfl) e562 f583 f585 (Or.inr ⟨(word hw 42 rfl), rfl, hnm⟩) (word hw 3 rfl) (ty := (.array (.array .double))) (by decide) rfl rfl (Jvm.hb hby d1_127) (q := 130) rfl ?_
    intro T568 h568 X568 e568 W568
    have N568 := Fr.snoc X568 N210 g1
    have F568 := f583.same W568
    refine Go.aloadN X568.here hx (Jvm.hb hby d1_130) rfl rfl (q := 131) rfl ?_
    refine Go.iload X568.here hx (Jvm.hb hby d1_131) rfl (q := 133) rfl ?_
    refine Go.newarr X568 hx hZ (aty := .double) (word hw 0 rfl) e568 (Jvm.hb hby d1_133) (by decide) (k := 3) (by decide) (by decide) (by decide) (by decide) (ad := "[D") (by decide) (q := 135) rfl ?_
    intro T586 h586 a586 kk586 g586 X586 e586 E586 R586 A586
    have z587 : n0 ≤ h562.size := Nat.le_trans z564 E562.1
    have z588 : n0 ≤ h568.size := Nat.le_trans z587 (Nat.le_of_eq W568.size.symm)
    have r589 : n0 ≤ a586 := Nat.le_trans z588 (Nat.le_of_eq g586.symm)
    have k590 : Keep h0 h562 [a1] := k567.ext E562
    have k591 : Keep h0 h568 [a1] := k590.wr W568 (Or.inl (List.mem_of_getElem? (i := 0) rfl))
    have y589 : h0.size ≤ a586 := Nat.le_trans k591.1 (Nat.le_of_eq g586.symm)
    have R586 : Row Z h586 a586 .double kk586 [(.double (0 : UInt64)), (.double (0 : UInt64)), (.double (0 : UInt64))] := R586
    have f593 := F9.other W104 (Or.inr (Jvm.RoadKit.slot_ne (Or.inr (word hw 44 rfl)) (Or.inr (word hw 12 rfl)) (by decide) (t := (.array .double)) (t' := .int) (by decide) (by decide)))
    have f594 := f593.other W107 (Or.inr (Jvm.RoadKit.slot_ne (Or.inr (word hw 44 rfl)) (Or.inr (word hw 14 rfl)) (by decide) (t := (.array .double)) (t' := .int) (by decide) (by decide)))
    have f595 := f594.ext E110
    have f596 := f595.other W116 (Or.inr (Jvm.RoadKit.slot_ne (Or.inr (word hw 44 rfl)) (Or.inl (word hw 16 rfl)) (by decide) (t := (.array .double)) (t' := (.array .double)) (by decide) (by decide)))
    have f597 := f596.ext E122
    have f598 := f597.keep K135 (ninS ne145 nin0)
    have f599 := f598.other W137 (Or.inr (Jvm.RoadKit.slot_ne (Or.inr (word hw 44 rfl)) (Or.inr (word hw 31 rfl)) (by decide) (t := (.array .double)) (t' := (.object "com/example/ratewright/ratewright/inference/GradientCorrection$NormalEquations")) (by decide) (by decide)))
    have f600 := f599.ext E148
    have f601 := f600.keep K162 (ninS ne175 nin0)
    have f602 := f601.other W164 (Or.inr (Jvm.RoadKit.slot_ne (Or.inr (word hw 44 rfl)) (Or.inr (word hw 33 rfl)) (by decide) (t := (.array .double)) (t' := (.object "com/example/ratewright/ratewright/inference/GradientCorrection$NormalEquations")) (by decide) (by decide)))
    have f603 := f602.ext E180
    have f604 := f603.other W187 (Or.inr (Jvm.RoadKit.slot_ne (Or.inr (word hw 44 rfl)) (Or.inr (word hw 37 rfl)) (by decide) (t := (.array .double)) (t' := (.array (.array .double))) (by decide) (by decide)))
    have f605 := f604.ext E204
    have f606 := f605.other W210 (Or.inr (Jvm.RoadKit.slot_ne (Or.inr (word hw 44 rfl)) (Or.inr (word hw 39 rfl)) (by decide) (t := (.array .double)) (t' := (.array .double)) (by decide) (by decide)))
    have f607 := f606.ext E562
    have f608 := f607.other W568 (Or.inr (Jvm.RoadKit.slot_ne (Or.inr (word hw 44 rfl)) (Or.inr (word hw 42 rfl)) (by decide) (t := (.array .double)) (t' := (.array (.array .double))) (by decide) (by decide)))
    have f609 := f608.ext E586
    have f610 := f585.wr W568
    have f611 := f610.ext E586
    refine Go.putf X586 hx hZ hown (word hw 43 rfl) e586 f609 f611 (Or.inr ⟨(word hw 44 rfl), rfl, hnm⟩) (word hw 3 rfl) (ty := (.array .double)) (by decide) rfl rfl (Jvm.hb hby d1_135) (q := 138) rfl ?_
    intro T592 h592 X592 e592 W592
    have N592 := Fr.snoc X592 N568 g1
    have F592 := f609.same W592
    have k612 : Keep h0 h586 [a1] := k591.ext E586
    have k613 : Keep h0 h592 [a1] := k612.wr W592 (Or.inl (List.mem_of_getElem? (i := 0) rfl))
    have f614 := f611.wr W592
    have f615 := F104.other W107 (Or.inr (Jvm.RoadKit.slot_ne (Or.inr (word hw 12 rfl)) (Or.inr (word hw 14 rfl)) (by decide) (t := .int) (t' := .int) (by decide) (by decide)))
    have f616 := f615.ext E110
    have f617 := f616.other W116 (Or.inr (Jvm.RoadKit.slot_ne (Or.inr (word hw 12 rfl)) (Or.inl (word hw 16 rfl)) (by decide) (t := .int) (t' := (.array .double)) (by decide) (by decide)))
    have f618 := f617.ext E122
    have f619 := f618.keep K135 (ninS ne145 nin0)
    have f620 := f619.other W137 (Or.inr (Jvm.RoadKit.slot_ne (Or.inr (word hw 12 rfl)) (Or.inr (word hw 31 rfl)) (by decide) (t := .int) (t' := (.object "com/example/ratewright/ratewright/inference/GradientCorrection$NormalEquations")) (by decide) (by decide)))
    have f621 := f620.ext E148
    have f622 := f621.keep K162 (ninS ne175 nin0)
    have f623 := f622.other W164 (Or.inr (Jvm.RoadKit.slot_ne (Or.inr (word hw 12 rfl)) (Or.inr (word hw 33 rfl)) (by decide) (t := .int) (t' := (.object "com/example/ratewright/ratewright/inference/GradientCorrection$NormalEquations")) (by decide) (by decide)))
    have f624 := f623.ext E180
    have f625 := f624.other W187 (Or.inr (Jvm.RoadKit.slot_ne (Or.inr (word hw 12 rfl)) (Or.inr (word hw 37 rfl)) (by decide) (t := .int) (t' := (.array (.array .double))) (by decide) (by decide)))
    have f626 := f625.ext E204
    have f627 := f626.other W210 (Or.inr (Jvm.RoadKit.slot_ne (Or.inr (word hw 12 rfl)) (Or.inr (word hw 39 rfl)) (by decide) (t := .int) (t' := (.array .double)) (by decide) (by decide)))
    have f628 := f627.ext E562
    have f629 := f628.other W568 (Or.inr (Jvm.RoadKit.slot_ne (Or.inr (word hw 12 rfl)) (Or.inr (word hw 42 rfl)) (by decide) (t := .int) (t' := (.array (.array .double))) (by decide) (by decide)))
    have f630 := f629.ext E586
    have f631 := f630.other W592 (Or.inr (Jvm.RoadKit.slot_ne (Or.inr (word hw 12 rfl)) (Or.inr (word hw 44 rfl)) (by decide) (t := .int) (t' := (.array .double)) (by decide) (by decide)))
    have f632 := F116.ext E122
    have f633 := f632.keep K135 (ninS ne145 nin0)
    have f634 := f633.other W137 (Or.inr (Jvm.RoadKit.slot_ne (Or.inl (word hw 16 rfl)) (Or.inr (word hw 31 rfl)) (by decide) (t := (.array .double)) (t' := (.object "com/example/ratewright/ratewright/inference/GradientCorrection$NormalEquations")) (by decide) (by decide)))
    have f635 := f634.ext E148
    have f636 := f635.keep K162 (ninS ne175 nin0)
    have f637 := f636.other W164 (Or.inr (Jvm.RoadKit.slot_ne (Or.inl (word hw 16 rfl)) (Or.inr (word hw 33 rfl)) (by decide) (t := (.array .double)) (t' := (.object "com/example/ratewright/ratewright/inference/GradientCorrection$NormalEquations")) (by decide) (by decide)))
    have f638 := f637.ext E180
    have f639 := f638.other W187 (Or.inr (Jvm.RoadKit.slot_ne (Or.inl (word hw 16 rfl)) (Or.inr (word hw 37 rfl)) (by decide) (t := (.array .double)) (t' := (.array (.array .double))) (by decide) (by decide)))
    have f640 := f639.ext E204
    have f641 := f640.other W210 (Or.inr (Jvm.RoadKit.slot_ne (Or.inl (word hw 16 rfl)) (Or.inr (word hw 39 rfl)) (by decide) (t := (.array .double)) (t' := (.array .double)) (by decide) (by decide)))
    have f642 := f641.ext E562
    have f643 := f642.other W568 (Or.inr (Jvm.RoadKit.slot_ne (Or.inl (word hw 16 rfl)) (Or.inr (word hw 42 rfl)) (by decide) (t := (.array .double)) (t' := (.array (.array .double))) (by decide) (by decide)))
    have f644 := f643.ext E586
    have f645 := f644.other W592 (Or.inr (Jvm.RoadKit.slot_ne (Or.inl (word hw 16 rfl)) (Or.inr (word hw 44 rfl)) (by decide) (t := (.array .double)) (t' := (.array .double)) (by decide) (by decide)))
    have ne647 : a1 ≠ a110 := Nat.ne_of_lt (Nat.lt_of_lt_of_le f120.lt (Nat.le_of_eq g110.symm))
    have f646 := R110.other W116 (Ne.symm ne647)
    have f648 := f646.ext E122
    have ne650 : a110 ≠ a122 := Nat.ne_of_lt (Nat.lt_of_lt_of_le f646.lt (Nat.le_of_eq g122.symm))
    have f649 := f648.keep K135 (ninS ne650 nin0)
    have f651 := f649.other W137 (Ne.symm ne647)
    have f652 := f651.ext E148
    have ne654 : a110 ≠ a148 := Nat.ne_of_lt (Nat.lt_of_lt_of_le f651.lt (Nat.le_of_eq g148.symm))
    have f653 := f652.keep K162 (ninS ne654 nin0)
    have f655 := f653.other W164 (Ne.symm ne647)
    have f656 := f655.ext E180
    have f657 := f656.other W187 (Ne.symm ne647)
    have f658 := f657.ext E204
    have f659 := f658.other W210 (Ne.symm ne647)
    have f660 := f659.ext E562
    have f661 := f660.other W568 (Ne.symm ne647)
    have f662 := f661.ext E586
    have f663 := f662.other W592 (Ne.symm ne647)
    refine Go.retV X592 hx hret hlk (Jvm.hb hby d1_138) (by decide) (by decide) ?_
    rw [e592]
    exact ⟨a110, kk110, rfl, N592, k613, y113, f614, f631, f645, f663⟩
set_option maxRecDepth 65536 in
set_option maxHeartbeats 40000000 in
theorem rm_app4 (l : Launch) (Z : State) (a0 : Array Value) (hw : ∀ d ∈ tables_1, d.before a0 Z = true) (a1 : Addr) (ax : Addr) (ag : Addr) (ak : Addr) (ac : Addr) (kx : ClassId) (kg : ClassId) (kk : ClassId) (kc : ClassId) (g0 : UInt64) (g1 : UInt64) (g2 : UInt64) (g3 : UInt64) (g4 : UInt64) (x0 : UInt64) (x1 : UInt64) (x2 : UInt64) (x3 : UInt64) (x4 : UInt64) (c0 : UInt64) (c1 : UInt64) (c2 : UInt64) (c3 : UInt64) (c4 : UInt64) (h0 : Heap) (n0 : Nat) (Z0 : n0 ≤ h0.size) (F1 : Fld Z h0 a1 "com/example/ratewright/ratewright/inference/GradientCorrection" "dimension" "I" (.int (4 : Int32))) (F2 : Fld Z h0 a1 "com/example/ratewright/ratewright/inference/GradientCorrection" "coefficients" "[D" (.ref ac)) (R1 : Row Z h0 ax .double kx [(.double x0), (.double x1), (.double x2), (.double x3), (.double x4)]) (R2 : Row Z h0 ag .double kg [(.double g0), (.double g1), (.double g2), (.double g3), (.double g4)]) (R3 : Row Z h0 ak .double kk [(.double c0), (.double c1), (.double c2), (.double c3), (.double c4)]) (R4 : Row Z h0 ac .double kc [(.double (0 : UInt64)), (.double (0 : UInt64)), (.double (0 : UInt64)), (.double (0 : UInt64)), (.double (0 : UInt64)), (.double (0 : UInt64)), (.double (0 : UInt64)), (.double (0 : UInt64)), (.double (0 : UInt64)), (.double (0 : UInt64)), (.double (0 : UInt64)), (.double (0 : UInt64)), (.double (0 : UInt64)), (.double (0 : UInt64)), (.double (0 : UInt64)), (.double (0 : UInt64))]) (i1 : ak ≠ ax) (i2 : ak ≠ ag) (i3 : ak ≠ ac) (i4 : ak ≠ a1) (fr1 : n0 ≤ ak) (hn : own_ok g0 x0 ∧ own_ok g1 x1 ∧ own_ok g2 x2 ∧ own_ok g3 x3 ∧ True) :
    Con l Z (⟨"com/example/ratewright/ratewright/inference/GradientCorrection", "apply", "([D[D[D)V"⟩ : MethodName) prog_4_method_2_code 9 none ({ frames := 0, cells := 0, slots := 0, locals := 0 } : Room) #[(.ref a1), (.ref ax), (.ref ag), (.ref ak)] h0 (fun vR hR LR => vR = none ∧ Fr n0 LR ∧ Keep h0 hR [ak] ∧ Row Z hR ak .double kk [(.double (own_r g0 x0)), (.double (own_r g1 x1)), (.double (own_r g2 x2)), (.double (own_r g3 x3)), (.double c4)]) := by
  refine enter (l := l) (Z := Z) (y := (⟨"com/example/ratewright/ratewright/inference/GradientCorrection", "apply", "([D[D[D)V"⟩ : MethodName)) (bytes := prog_4_method_2_code) (maxL := 9) (ret := none) (ws := []) (rm := ({ frames := 0, cells := 0, slots := 0, locals := 0 } : Room)) (as' := #[(.ref a1), (.ref ax), (.ref ag), (.ref ak)]) (h0 := h0) (Qv := (fun vR hR LR => vR = none ∧ Fr n0 LR ∧ Keep h0 hR [ak] ∧ Row Z hR ak .double kk [(.double (own_r g0 x0)), (.double (own_r g1 x1)), (.double (own_r g2 x2)), (.double (own_r g3 x3)), (.double c4)])) (kc := 0) (ks := 0) (by first | exact plainFor_of_name (by first | (simp [plainName, overriddenIn]; done) | decide +kernel) | decide +kernel) (Ls := #[.val (.ref a1), .val (.ref ax), .val (.ref ag), .val (.ref ak), .unset, .unset, .unset, .unset, .unset]) (fun m => by first | (simp [entryFrame, mkF, argsToLocals, Value.category]; done) | rfl) ?_
  intro p e s m below meth c s₁ hx hby hml hown hnm hret hlk hZ X0 e0
  have hown : s.vm.findClass "com/example/ratewright/ratewright/inference/GradientCorrection" = some m.cls := hown
  have hml : c.maxLocals = 9 := hml
  have N0 := Fr.nil n0
  refine Go.iconst X0.here hx (Jvm.hb hby d4_0) (v := (0 : Int32)) rfl (q := 1) rfl ?_
  refine Go.istore X0.here hx (Jvm.hb hby d4_1) (l2 := #[.val (.ref a1), .val (.ref ax), .val (.ref ag), .val (.ref ak), .val (.int (0 : Int32)), .unset, .unset, .unset, .unset]) rfl (q := 3) rfl ?_
  refine Go.iload X0.here hx (Jvm.hb hby d4_3) rfl (q := 5) rfl ?_
  refine Go.aloadN X0.here hx (Jvm.hb hby d4_5) rfl rfl (q := 6) rfl ?_
  refine Go.getf X0 hx hZ hown (word hw 11 rfl) e0 F1 (Jvm.hb hby d4_6) (q := 9) rfl ?_
  intro T101 X101 e101
  have hc9_103 : (0 : Int32) < (4 : Int32) := by decide
  refine Go.icmpN X101.here hx (Jvm.hb hby d4_9) (tlt hc9_103).2.1 (q := 12) rfl ?_
  refine Go.aloadN X101.here hx (Jvm.hb hby d4_12) rfl rfl (q := 13) rfl ?_
  refine Go.iload X101.here hx (Jvm.hb hby d4_13) rfl (q := 15) rfl ?_
  refine Go.daload X101 hx hZ e101 R2 (Jvm.hb hby d4_15) (i := 0) (by decide) (by decide) rfl (q := 16) rfl ?_
  refine Go.dstore X101.here hx (Jvm.hb hby d4_16) (l2 := #[.val (.ref a1), .val (.ref ax), .val (.ref ag), .val (.ref ak), .val (.int (0 : Int32)), .val (.double g0), .second, .unset, .unset]) rfl (q := 18) rfl ?_
  refine Go.aloadN X101.here hx (Jvm.hb hby d4_18) rfl rfl (q := 19) rfl ?_
  refine Go.iload X101.here hx (Jvm.hb hby d4_19) rfl (q := 21) rfl ?_
  refine Go.daload X101 hx hZ e101 R1 (Jvm.hb hby d4_21) (i := 0) (by decide) (by decide) rfl (q := 22) rfl ?_
  refine Go.dstore X101.here hx (Jvm.hb hby d4_22) (l2 := #[.val (.ref a1), .val (.ref ax), .val (.ref ag), .val (.ref ak), .val (.int (0 : Int32)), .val (.double g0), .second, .val (.double x0), .second]) rfl (q := 24) rfl ?_
  refine Go.aloadN X101.here hx (Jvm.hb hby d4_24) rfl rfl (q := 25) rfl ?_
  refine Go.iload X101.here hx (Jvm.hb hby d4_25) rfl (q := 27) rfl ?_
  refine Go.dload X101.here hx (Jvm.hb hby d4_27) rfl (q := 29) rfl ?_
  refine Go.aloadN X101.here hx (Jvm.hb hby d4_29) rfl rfl (q := 30) rfl ?_
  refine Go.getf X101 hx hZ hown (word hw 15 rfl) e101 F2 (Jvm.hb hby d4_30) (q := 33) rfl ?_
  intro T104 X104 e104
  refine Go.iload X104.here hx (Jvm.hb hby d4_33) rfl (q := 35) rfl ?_
  refine Go.daload X104 hx hZ e104 R4 (Jvm.hb hby d4_35) (i := 0) (by decide) (by decide) rfl (q := 36) rfl ?_
  obtain ⟨u36, hu36⟩ : ∃ zq, FP.dadd g0 (0 : UInt64) = zq := ⟨_, rfl⟩
  refine Go.dadd X104.here hx (Jvm.hb hby d4_36) (by subst_vars; first | exact hn.1.1 | exact hn.2.1.1 | exact hn.2.2.1.1 | exact hn.2.2.2.1.1) hu36 (q := 37) rfl ?_
  refine Go.aloadN X104.here hx (Jvm.hb hby d4_37) rfl rfl (q := 38) rfl ?_
  refine Go.getf X104 hx hZ hown (word hw 15 rfl) e104 F2 (Jvm.hb hby d4_38) (q := 41) rfl ?_
  intro T105 X105 e105
  refine Go.aloadN X105.here hx (Jvm.hb hby d4_41) rfl rfl (q := 42) rfl ?_
  refine Go.getf X105 hx hZ hown (word hw 11 rfl) e105 F1 (Jvm.hb hby d4_42) (q := 45) rfl ?_
  intro T106 X106 e106
  refine Go.iload X106.here hx (Jvm.hb hby d4_45) rfl (q := 47) rfl ?_
  refine Go.iadd X106.here hx (Jvm.hb hby d4_47) (v := (4 : Int32)) (by decide) (q := 48) rfl ?_
  refine Go.daload X106 hx hZ e106 R4 (Jvm.hb hby d4_48) (i := 4) (by decide) (by decide) rfl (q := 49) rfl ?_
  refine Go.dload X106.here hx (Jvm.hb hby d4_49) rfl (q := 51) rfl ?_
  obtain ⟨u51, hu51⟩ : ∃ zq, FP.dmul (0 : UInt64) x0 = zq := ⟨_, rfl⟩
  refine Go.dmul X106.here hx (Jvm.hb hby d4_51) (by subst_vars; first | exact hn.1.2.1 | exact hn.2.1.2.1 | exact hn.2.2.1.2.1 | exact hn.2.2.2.1.2.1) hu51 (q := 52) rfl ?_
  obtain ⟨u52, hu52⟩ : ∃ zq, FP.dadd u36 u51 = zq := ⟨_, rfl⟩
  refine Go.dadd X106.here hx (Jvm.hb hby d4_52) (by subst_vars; first | exact hn.1.2.2.1 | exact hn.2.1.2.2.1 | exact hn.2.2.1.2.2.1 | exact hn.2.2.2.1.2.2.1) hu52 (q := 53) rfl ?_
  refine Go.aloadN X106.here hx (Jvm.hb hby d4_53) rfl rfl (q := 54) rfl ?_
  refine Go.getf X106 hx hZ hown (word hw 15 rfl) e106 F2 (Jvm.hb hby d4_54) (q := 57) rfl ?_
  intro T107 X107 e107
  refine Go.iconst X107.here hx (Jvm.hb hby d4_57) (v := (2 : Int32)) rfl (q := 58) rfl ?_
  refine Go.aloadN X107.here hx (Jvm.hb hby d4_58) rfl rfl (q := 59) rfl ?_
  refine Go.getf X107 hx hZ hown (word hw 11 rfl) e107 F1 (Jvm.hb hby d4_59) (q := 62) rfl ?_
  intro T108 X108 e108
  refine Go.imul X108.here hx (Jvm.hb hby d4_62) (v := (8 : Int32)) (by decide) (q := 63) rfl ?_
  refine Go.iload X108.here hx (Jvm.hb hby d4_63) rfl (q := 65) rfl ?_
  refine Go.iadd X108.here hx (Jvm.hb hby d4_65) (v := (8 : Int32)) (by decide) (q := 66) rfl ?_
  refine Go.daload X108 hx hZ e108 R4 (Jvm.hb hby d4_66) (i := 8) (by decide) (by decide) rfl (q := 67) rfl ?_
  refine Go.dload X108.here hx (Jvm.hb hby d4_67) rfl (q := 69) rfl ?_
  obtain ⟨u69, hu69⟩ : ∃ zq, FP.dmul (0 : UInt64) g0 = zq := ⟨_, rfl⟩
  refine Go.dmul X108.here hx (Jvm.hb hby d4_69) (by subst_vars; first | exact hn.1.2.2.2.1 | exact hn.2.1.2.2.2.1 | exact hn.2.2.1.2.2.2.1 | exact hn.2.2.2.1.2.2.2.1) hu69 (q := 70) rfl ?_
  obtain ⟨u70, hu70⟩ : ∃ zq, FP.dadd u52 u69 = zq := ⟨_, rfl⟩
  refine Go.dadd X108.here hx (Jvm.hb hby d4_70) (by subst_vars; first | exact hn.1.2.2.2.2.1 | exact hn.2.1.2.2.2.2.1 | exact hn.2.2.1.2.2.2.2.1 | exact hn.2.2.2.1.2.2.2.2.1) hu70 (q := 71) rfl ?_
  refine Go.aloadN X108.here hx (Jvm.hb hby d4_71) rfl rfl (q := 72) rfl ?_
  refine Go.getf X108 hx hZ hown (word hw 15 rfl) e108 F2 (Jvm.hb hby d4_72) (q := 75) rfl ?_
  intro T109 X109 e109
  refine Go.iconst X109.here hx (Jvm.hb hby d4_75) (v := (3 : Int32)) rfl (q := 76) rfl ?_
  refine Go.aloadN X109.here hx (Jvm.hb hby d4_76) rfl rfl (q := 77) rfl ?_
  refine Go.getf X109 hx hZ hown (word hw 11 rfl) e109 F1 (Jvm.hb hby d4_77) (q := 80) rfl ?_
  intro T110 X110 e110
  refine Go.imul X110.here hx (Jvm.hb hby d4_80) (v := (12 : Int32)) (by decide) (q := 81) rfl ?_
  refine Go.iload X110.here hx (Jvm.hb hby d4_81) rfl (q := 83) rfl ?_
  refine Go.iadd X110.here hx (Jvm.hb hby d4_83) (v := (12 : Int32)) (by decide) (q := 84) rfl ?_
  refine Go.daload X110 hx hZ e110 R4 (Jvm.hb hby d4_84) (i := 12) (by decide) (by decide) rfl (q := 85) rfl ?_
  refine Go.dload X110.here hx (Jvm.hb hby d4_85) rfl (q := 87) rfl ?_
  obtain ⟨u87, hu87⟩ : ∃ zq, FP.dmul (0 : UInt64) x0 = zq := ⟨_, rfl⟩
  refine Go.dmul X110.here hx (Jvm.hb hby d4_87) (by subst_vars; first | exact hn.1.2.1 | exact hn.2.1.2.1 | exact hn.2.2.1.2.1 | exact hn.2.2.2.1.2.1) hu87 (q := 88) rfl ?_
  refine Go.dload X110.here hx (Jvm.hb hby d4_88) rfl (q := 90) rfl ?_
  obtain ⟨u90, hu90⟩ : ∃ zq, FP.dmul u87 g0 = zq := ⟨_, rfl⟩
  refine Go.dmul X110.here hx (Jvm.hb hby d4_90) (by subst_vars; first | exact hn.1.2.2.2.2.2.1 | exact hn.2.1.2.2.2.2.2.1 | exact hn.2.2.1.2.2.2.2.2.1 | exact hn.2.2.2.1.2.2.2.2.2.1) hu90 (q := 91) rfl ?_
  obtain ⟨u91, hu91⟩ : ∃ zq, FP.dadd u70 u90 = zq := ⟨_, rfl⟩
  refine Go.dadd X110.here hx (Jvm.hb hby d4_91) (by subst_vars; first | exact hn.1.2.2.2.2.2.2 | exact hn.2.1.2.2.2.2.2.2 | exact hn.2.2.1.2.2.2.2.2.2 | exact hn.2.2.2.1.2.2.2.2.2.2) hu91 (q := 92) rfl ?_
  refine Go.dastore X110 hx hZ e110 R3 (Jvm.hb hby d4_92) (i := 0) (by decide) (by decide) rfl (q := 93) rfl ?_
  intro T111 h111 X111 e111 W111 R111
  have N111 := Fr.snoc X111 N0 fr1
  have R111 : Row Z h111 ak .double kk [(.double u91), (.double c1), (.double c2), (.double c3), (.double c4)] := R111
  refine Go.iinc X111.here hx (Jvm.hb hby d4_93) rfl (v := (1 : Int32)) (by decide) (l2 := #[.val (.ref a1), .val (.ref ax), .val (.ref ag), .val (.ref ak), .val (.int (1 : Int32)), .val (.double g0), .second, .val (.double x0), .second]) rfl (q := 96) rfl ?_
  refine Go.goto X111.here hx (Jvm.hb hby d4_96) (by decide) (q := 3) rfl ?_
  refine Go.iload X111.here hx (Jvm.hb hby d4_3) rfl (q := 5) rfl ?_
  refine Go.aloadN X111.here hx (Jvm.hb hby d4_5) rfl rfl (q := 6) rfl ?_
  have f113 := F1.other W111 (Or.inl (Ne.symm i4))
  refine Go.getf X111 hx hZ hown (word hw 11 rfl) e111 f113 (Jvm.hb hby d4_6) (q := 9) rfl ?_
  intro T112 X112 e112
  have hc9_115 : (1 : Int32) < (4 : Int32) := by decide
  refine Go.icmpN X112.here hx (Jvm.hb hby d4_9) (tlt hc9_115).2.1 (q := 12) rfl ?_
  refine Go.aloadN X112.here hx (Jvm.hb hby d4_12) rfl rfl (q := 13) rfl ?_
  refine Go.iload X112.here hx (Jvm.hb hby d4_13) rfl (q := 15) rfl ?_
  have f116 := R2.other W111 (Ne.symm i2)
  refine Go.daload X112 hx hZ e112 f116 (Jvm.hb hby d4_15) (i := 1) (by decide) (by decide) rfl (q := 16) rfl ?_
  refine Go.dstore X112.here hx (Jvm.hb hby d4_16) (l2 := #[.val (.ref a1), .val (.ref ax), .val (.ref ag), .val (.ref ak), .val (.int (1 : Int32)), .val (.double g1), .second, .val (.double x0), .second]) rfl (q := 18) rfl ?_
  refine Go.aloadN X112.here hx (Jvm.hb hby d4_18) rfl rfl (q := 19) rfl ?_
  refine Go.iload X112.here hx (Jvm.hb hby d4_19) rfl (q := 21) rfl ?_
  have f117 := R1.other W111 (Ne.symm i1)
  refine Go.daload X112 hx hZ e112 f117 (Jvm.hb hby d4_21) (i := 1) (by decide) (by decide) rfl (q := 22) rfl ?_
  refine Go.dstore X112.here hx (Jvm.hb hby d4_22) (l2 := #[.val (.ref a1), .val (.ref ax), .val (.ref ag), .val (.ref ak), .val (.int (1 : Int32)), .val (.double g1), .second, .val (.double x1), .second]) rfl (q := 24) rfl ?_
  refine Go.aloadN X112.here hx (Jvm.hb hby d4_24) rfl rfl (q := 25) rfl ?_
  refine Go.iload X112.here hx (Jvm.hb hby d4_25) rfl (q := 27) rfl ?_
  refine Go.dload X112.here hx (Jvm.hb hby d4_27) rfl (q := 29) rfl ?_
  refine Go.aloadN X112.here hx (Jvm.hb hby d4_29) rfl rfl (q := 30) rfl ?_
  have f119 := F2.other W111 (Or.inl (Ne.symm i4))
  refine Go.getf X112 hx hZ hown (word hw 15 rfl) e112 f119 (Jvm.hb hby d4_30) (q := 33) rfl ?_
  intro T118 X118 e118
  refine Go.iload X118.here hx (Jvm.hb hby d4_33) rfl (q := 35) rfl ?_
  have f120 := R4.other W111 (Ne.symm i3)
  refine Go.daload X118 hx hZ e118 f120 (Jvm.hb hby d4_35) (i := 1) (by decide) (by decide) rfl (q := 36) rfl ?_
  obtain ⟨u36_1, hu36_1⟩ : ∃ zq, FP.dadd g1 (0 : UInt64) = zq := ⟨_, rfl⟩
  refine Go.dadd X118.here hx (Jvm.hb hby d4_36) (by subst_vars; first | exact hn.1.1 | exact hn.2.1.1 | exact hn.2.2.1.1 | exact hn.2.2.2.1.1) hu36_1 (q := 37) rfl ?_
  refine Go.aloadN X118.here hx (Jvm.hb hby d4_37) rfl rfl (q := 38) rfl ?_
  refine Go.getf X118 hx hZ hown (word hw 15 rfl) e118 f119 (Jvm.hb hby d4_38) (q := 41) rfl ?_
  intro T121 X121 e121
  refine Go.aloadN X121.here hx (Jvm.hb hby d4_41) rfl rfl (q := 42) rfl ?_
  refine Go.getf X121 hx hZ hown (word hw 11 rfl) e121 f113 (Jvm.hb hby d4_42) (q := 45) rfl ?_
  intro T122 X122 e122
  refine Go.iload X122.here hx (Jvm.hb hby d4_45) rfl (q := 47) rfl ?_
  refine Go.iadd X122.here hx (Jvm.hb hby d4_47) (v := (5 : Int32)) (by decide) (q := 48) rfl ?_
  refine Go.daload X122 hx hZ e122 f120 (Jvm.hb hby d4_48) (i := 5) (by decide) (by decide) rfl (q := 49) rfl ?_
  refine Go.dload X122.here hx (Jvm.hb hby d4_49) rfl (q := 51) rfl ?_
  obtain ⟨u51_1, hu51_1⟩ : ∃ zq, FP.dmul (0 : UInt64) x1 = zq := ⟨_, rfl⟩
  refine Go.dmul X122.here hx (Jvm.hb hby d4_51) (by subst_vars; first | exact hn.1.2.1 | exact hn.2.1.2.1 | exact hn.2.2.1.2.1 | exact hn.2.2.2.1.2.1) hu51_1 (q := 52) rfl ?_
  obtain ⟨u52_1, hu52_1⟩ : ∃ zq, FP.dadd u36_1 u51_1 = zq := ⟨_, rfl⟩
  refine Go.dadd X122.here hx (Jvm.hb hby d4_52) (by subst_vars; first | exact hn.1.2.2.1 | exact hn.2.1.2.2.1 | exact hn.2.2.1.2.2.1 | exact hn.2.2.2.1.2.2.1) hu52_1 (q := 53) rfl ?_
  refine Go.aloadN X122.here hx (Jvm.hb hby d4_53) rfl rfl (q := 54) rfl ?_
  refine Go.getf X122 hx hZ hown (word hw 15 rfl) e122 f119 (Jvm.hb hby d4_54) (q := 57) rfl ?_
  intro T123 X123 e123
  refine Go.iconst X123.here hx (Jvm.hb hby d4_57) (v := (2 : Int32)) rfl (q := 58) rfl ?_
  refine Go.aloadN X123.here hx (Jvm.hb hby d4_58) rfl rfl (q := 59) rfl ?_
  refine Go.getf X123 hx hZ hown (word hw 11 rfl) e123 f113 (Jvm.hb hby d4_59) (q := 62) rfl ?_
  intro T124 X124 e124
  refine Go.imul X124.here hx (Jvm.hb hby d4_62) (v := (8 : Int32)) (by decide) (q := 63) rfl ?_
  refine Go.iload X124.here hx (Jvm.hb hby d4_63) rfl (q := 65) rfl ?_
  refine Go.iadd X124.here hx (Jvm.hb hby d4_65) (v := (9 : Int32)) (by decide) (q := 66) rfl ?_
  refine Go.daload X124 hx hZ e124 f120 (Jvm.hb hby d4_66) (i := 9) (by decide) (by decide) rfl (q := 67) rfl ?_
  refine Go.dload X124.here hx (Jvm.hb hby d4_67) rfl (q := 69) rfl ?_
  obtain ⟨u69_1, hu69_1⟩ : ∃ zq, FP.dmul (0 : UInt64) g1 = zq := ⟨_, rfl⟩
  refine Go.dmul X124.here hx (Jvm.hb hby d4_69) (by subst_vars; first | exact hn.1.2.2.2.1 | exact hn.2.1.2.2.2.1 | exact hn.2.2.1.2.2.2.1 | exact hn.2.2.2.1.2.2.2.1) hu69_1 (q := 70) rfl ?_
  obtain ⟨u70_1, hu70_1⟩ : ∃ zq, FP.dadd u52_1 u69_1 = zq := ⟨_, rfl⟩
  refine Go.dadd X124.here hx (Jvm.hb hby d4_70) (by subst_vars; first | exact hn.1.2.2.2.2.1 | exact hn.2.1.2.2.2.2.1 | exact hn.2.2.1.2.2.2.2.1 | exact hn.2.2.2.1.2.2.2.2.1) hu70_1 (q := 71) rfl ?_
  refine Go.aloadN X124.here hx (Jvm.hb hby d4_71) rfl rfl (q := 72) rfl ?_
  refine Go.getf X124 hx hZ hown (word hw 15 rfl) e124 f119 (Jvm.hb hby d4_72) (q := 75) rfl ?_
  intro T125 X125 e125
  refine Go.iconst X125.here hx (Jvm.hb hby d4_75) (v := (3 : Int32)) rfl (q := 76) rfl ?_
  refine Go.aloadN X125.here hx (Jvm.hb hby d4_76) rfl rfl (q := 77) rfl ?_
  refine Go.getf X125 hx hZ hown (word hw 11 rfl) e125 f113 (Jvm.hb hby d4_77) (q := 80) rfl ?_
  intro T126 X126 e126
  refine Go.imul X126.here hx (Jvm.hb hby d4_80) (v := (12 : Int32)) (by decide) (q := 81) rfl ?_
  refine Go.iload X126.here hx (Jvm.hb hby d4_81) rfl (q := 83) rfl ?_
  refine Go.iadd X126.here hx (Jvm.hb hby d4_83) (v := (13 : Int32)) (by decide) (q := 84) rfl ?_
  refine Go.daload X126 hx hZ e126 f120 (Jvm.hb hby d4_84) (i := 13) (by decide) (by decide) rfl (q := 85) rfl ?_
  refine Go.dload X126.here hx (Jvm.hb hby d4_85) rfl (q := 87) rfl ?_
  obtain ⟨u87_1, hu87_1⟩ : ∃ zq, FP.dmul (0 : UInt64) x1 = zq := ⟨_, rfl⟩
  refine Go.dmul X126.here hx (Jvm.hb hby d4_87) (by subst_vars; first | exact hn.1.2.1 | exact hn.2.1.2.1 | exact hn.2.2.1.2.1 | exact hn.2.2.2.1.2.1) hu87_1 (q := 88) rfl ?_
  refine Go.dload X126.here hx (Jvm.hb hby d4_88) rfl (q := 90) rfl ?_
  obtain ⟨u90_1, hu90_1⟩ : ∃ zq, FP.dmul u87_1 g1 = zq := ⟨_, rfl⟩
  refine Go.dmul X126.here hx (Jvm.hb hby d4_90) (by subst_vars; first | exact hn.1.2.2.2.2.2.1 | exact hn.2.1.2.2.2.2.2.1 | exact hn.2.2.1.2.2.2.2.2.1 | exact hn.2.2.2.1.2.2.2.2.2.1) hu90_1 (q := 91) rfl ?_
  obtain ⟨u91_1, hu91_1⟩ : ∃ zq, FP.dadd u70_1 u90_1 = zq := ⟨_, rfl⟩
  refine Go.dadd X126.here hx (Jvm.hb hby d4_91) (by subst_vars; first | exact hn.1.2.2.2.2.2.2 | exact hn.2.1.2.2.2.2.2.2 | exact hn.2.2.1.2.2.2.2.2.2 | exact hn.2.2.2.1.2.2.2.2.2.2) hu91_1 (q := 92) rfl ?_
  refine Go.dastore X126 hx hZ e126 R111 (Jvm.hb hby d4_92) (i := 1) (by decide) (by decide) rfl (q := 93) rfl ?_
  intro T127 h127 X127 e127 W127 R127
  have N127 := Fr.snoc X127 N111 fr1
  have R127 : Row Z h127 ak .double kk [(.double u91), (.double u91_1), (.double c2), (.double c3), (.double c4)] := R127
  refine Go.iinc X127.here hx (Jvm.hb hby d4_93) rfl (v := (2 : Int32)) (by decide) (l2 := #[.val (.ref a1), .val (.ref ax), .val (.ref ag), .val (.ref ak), .val (.int (2 : Int32)), .val (.double g1), .second, .val (.double x1), .second]) rfl (q := 96) rfl ?_
  refine Go.goto X127.here hx (Jvm.hb hby d4_96) (by decide) (q := 3) rfl ?_
  refine Go.iload X127.here hx (Jvm.hb hby d4_3) rfl (q := 5) rfl ?_
  refine Go.aloadN X127.here hx (Jvm.hb hby d4_5) rfl rfl (q := 6) rfl ?_
  have f129 := f113.other W127 (Or.inl (Ne.symm i4))
  refine Go.getf X127 hx hZ hown (word hw 11 rfl) e127 f129 (Jvm.hb hby d4_6) (q := 9) rfl ?_
  intro T128 X128 e128
  have hc9_131 : (2 : Int32) < (4 : Int32) := by decide
  refine Go.icmpN X128.here hx (Jvm.hb hby d4_9) (tlt hc9_131).2.1 (q := 12) rfl ?_
  refine Go.aloadN X128.here hx (Jvm.hb hby d4_12) rfl rfl (q := 13) rfl ?_
  refine Go.iload X128.here hx (Jvm.hb hby d4_13) rfl (q := 15) rfl ?_
  have f132 := f116.other W127 (Ne.symm i2)
  refine Go.daload X128 hx hZ e128 f132 (Jvm.hb hby d4_15) (i := 2) (by decide) (by decide) rfl (q := 16) rfl ?_
  refine Go.dstore X128.here hx (Jvm.hb hby d4_16) (l2 := #[.val (.ref a1), .val (.ref ax), .val (.ref ag), .val (.ref ak), .val (.int (2 : Int32)), .val (.double g2), .second, .val (.double x1), .second]) rfl (q := 18) rfl ?_
  refine Go.aloadN X128.here hx (Jvm.hb hby d4_18) rfl rfl (q := 19) rfl ?_
  refine Go.iload X128.here hx (Jvm.hb hby d4_19) rfl (q := 21) rfl ?_
  have f133 := f117.other W127 (Ne.symm i1)
  refine Go.daload X128 hx hZ e128 f133 (Jvm.hb hby d4_21) (i := 2) (by decide) (by decide) rfl (q := 22) rfl ?_
  refine Go.dstore X128.here hx (Jvm.hb hby d4_22) (l2 := #[.val (.ref a1), .val (.ref ax), .val (.ref ag), .val (.ref ak), .val (.int (2 : Int32)), .val (.double g2), .second, .val (.double x2), .second]) rfl (q := 24) rfl ?_
  refine Go.aloadN X128.here hx (Jvm.hb hby d4_24) rfl rfl (q := 25) rfl ?_
  refine Go.iload X128.here hx (Jvm.hb hby d4_25) rfl (q := 27) rfl ?_
  refine Go.dload X128.here hx (Jvm.hb hby d4_27) rfl (q := 29) rfl ?_
  refine Go.aloadN X128.here hx (Jvm.hb hby d4_29) rfl rfl (q := 30) rfl ?_
  have f135 := f119.other W127 (Or.inl (Ne.symm i4))
  refine Go.getf X128 hx hZ hown (word hw 15 rfl) e128 f135 (Jvm.hb hby d4_30) (q := 33) rfl ?_
  intro T134 X134 e134
  refine Go.iload X134.here hx (Jvm.hb hby d4_33) rfl (q := 35) rfl ?_
  have f136 := f120.other W127 (Ne.symm i3)
  refine Go.daload X134 hx hZ e134 f136 (Jvm.hb hby d4_35) (i := 2) (by decide) (by decide) rfl (q := 36) rfl ?_
  obtain ⟨u36_2, hu36_2⟩ : ∃ zq, FP.dadd g2 (0 : UInt64) = zq := ⟨_, rfl⟩
  refine Go.dadd X134.here hx (Jvm.hb hby d4_36) (by subst_vars; first | exact hn.1.1 | exact hn.2.1.1 | exact hn.2.2.1.1 | exact hn.2.2.2.1.1) hu36_2 (q := 37) rfl ?_
  refine Go.aloadN X134.here hx (Jvm.hb hby d4_37) rfl rfl (q := 38) rfl ?_
  refine Go.getf X134 hx hZ hown (word hw 15 rfl) e134 f135 (Jvm.hb hby d4_38) (q := 41) rfl ?_
  intro T137 X137 e137
  refine Go.aloadN X137.here hx (Jvm.hb hby d4_41) rfl rfl (q := 42) rfl ?_
  refine Go.getf X137 hx hZ hown (word hw 11 rfl) e137 f129 (Jvm.hb hby d4_42) (q := 45) rfl ?_
  intro T138 X138 e138
  refine Go.iload X138.here hx (Jvm.hb hby d4_45) rfl (q := 47) rfl ?_
  refine Go.iadd X138.here hx (Jvm.hb hby d4_47) (v := (6 : Int32)) (by decide) (q := 48) rfl ?_
  refine Go.daload X138 hx hZ e138 f136 (Jvm.hb hby d4_48) (i := 6) (by decide) (by decide) rfl (q := 49) rfl ?_
  refine Go.dload X138.here hx (Jvm.hb hby d4_49) rfl (q := 51) rfl ?_
  obtain ⟨u51_2, hu51_2⟩ : ∃ zq, FP.dmul (0 : UInt64) x2 = zq := ⟨_, rfl⟩
  refine Go.dmul X138.here hx (Jvm.hb hby d4_51) (by subst_vars; first | exact hn.1.2.1 | exact hn.2.1.2.1 | exact hn.2.2.1.2.1 | exact hn.2.2.2.1.2.1) hu51_2 (q := 52) rfl ?_
  obtain ⟨u52_2, hu52_2⟩ : ∃ zq, FP.dadd u36_2 u51_2 = zq := ⟨_, rfl⟩
  refine Go.dadd X138.here hx (Jvm.hb hby d4_52) (by subst_vars; first | exact hn.1.2.2.1 | exact hn.2.1.2.2.1 | exact hn.2.2.1.2.2.1 | exact hn.2.2.2.1.2.2.1) hu52_2 (q := 53) rfl ?_
  refine Go.aloadN X138.here hx (Jvm.hb hby d4_53) rfl rfl (q := 54) rfl ?_
  refine Go.getf X138 hx hZ hown (word hw 15 rfl) e138 f135 (Jvm.hb hby d4_54) (q := 57) rfl ?_
  intro T139 X139 e139
  refine Go.iconst X139.here hx (Jvm.hb hby d4_57) (v := (2 : Int32)) rfl (q := 58) rfl ?_
  refine Go.aloadN X139.here hx (Jvm.hb hby d4_58) rfl rfl (q := 59) rfl ?_
  refine Go.getf X139 hx hZ hown (word hw 11 rfl) e139 f129 (Jvm.hb hby d4_59) (q := 62) rfl ?_
  intro T140 X140 e140
  refine Go.imul X140.here hx (Jvm.hb hby d4_62) (v := (8 : Int32)) (by decide) (q := 63) rfl ?_
  refine Go.iload X140.here hx (Jvm.hb hby d4_63) rfl (q := 65) rfl ?_
  refine Go.iadd X140.here hx (Jvm.hb hby d4_65) (v := (10 : Int32)) (by decide) (q := 66) rfl ?_
  refine Go.daload X140 hx hZ e140 f136 (Jvm.hb hby d4_66) (i := 10) (by decide) (by decide) rfl (q := 67) rfl ?_
  refine Go.dload X140.here hx (Jvm.hb hby d4_67) rfl (q := 69) rfl ?_
  obtain ⟨u69_2, hu69_2⟩ : ∃ zq, FP.dmul (0 : UInt64) g2 = zq := ⟨_, rfl⟩
  refine Go.dmul X140.here hx (Jvm.hb hby d4_69) (by subst_vars; first | exact hn.1.2.2.2.1 | exact hn.2.1.2.2.2.1 | exact hn.2.2.1.2.2.2.1 | exact hn.2.2.2.1.2.2.2.1) hu69_2 (q := 70) rfl ?_
  obtain ⟨u70_2, hu70_2⟩ : ∃ zq, FP.dadd u52_2 u69_2 = zq := ⟨_, rfl⟩
  refine Go.dadd X140.here hx (Jvm.hb hby d4_70) (by subst_vars; first | exact hn.1.2.2.2.2.1 | exact hn.2.1.2.2.2.2.1 | exact hn.2.2.1.2.2.2.2.1 | exact hn.2.2.2.1.2.2.2.2.1) hu70_2 (q := 71) rfl ?_
  refine Go.aloadN X140.here hx (Jvm.hb hby d4_71) rfl rfl (q := 72) rfl ?_
  refine Go.getf X140 hx hZ hown (word hw 15 rfl) e140 f135 (Jvm.hb hby d4_72) (q := 75) rfl ?_
  intro T141 X141 e141
  refine Go.iconst X141.here hx (Jvm.hb hby d4_75) (v := (3 : Int32)) rfl (q := 76) rfl ?_
  refine Go.aloadN X141.here hx (Jvm.hb hby d4_76) rfl rfl (q := 77) rfl ?_
  refine Go.getf X141 hx hZ hown (word hw 11 rfl) e141 f129 (Jvm.hb hby d4_77) (q := 80) rfl ?_
  intro T142 X142 e142
  refine Go.imul X142.here hx (Jvm.hb hby d4_80) (v := (12 : Int32)) (by decide) (q := 81) rfl ?_
  refine Go.iload X142.here hx (Jvm.hb hby d4_81) rfl (q := 83) rfl ?_
  refine Go.iadd X142.here hx (Jvm.hb hby d4_83) (v := (14 : Int32)) (by decide) (q := 84) rfl ?_
  refine Go.daload X142 hx hZ e142 f136 (Jvm.hb hby d4_84) (i := 14) (by decide) (by decide) rfl (q := 85) rfl ?_
  refine Go.dload X142.here hx (Jvm.hb hby d4_85) rfl (q := 87) rfl ?_
  obtain ⟨u87_2, hu87_2⟩ : ∃ zq, FP.dmul (0 : UInt64) x2 = zq := ⟨_, rfl⟩
  refine Go.dmul X142.here hx (Jvm.hb hby d4_87) (by subst_vars; first | exact hn.1.2.1 | exact hn.2.1.2.1 | exact hn.2.2.1.2.1 | exact hn.2.2.2.1.2.1) hu87_2 (q := 88) rfl ?_
  refine Go.dload X142.here hx (Jvm.hb hby d4_88) rfl (q := 90) rfl ?_
  obtain ⟨u90_2, hu90_2⟩ : ∃ zq, FP.dmul u87_2 g2 = zq := ⟨_, rfl⟩
  refine Go.dmul X142.here hx (Jvm.hb hby d4_90) (by subst_vars; first | exact hn.1.2.2.2.2.2.1 | exact hn.2.1.2.2.2.2.2.1 | exact hn.2.2.1.2.2.2.2.2.1 | exact hn.2.2.2.1.2.2.2.2.2.1) hu90_2 (q := 91) rfl ?_
  obtain ⟨u91_2, hu91_2⟩ : ∃ zq, FP.dadd u70_2 u90_2 = zq := ⟨_, rfl⟩
  refine Go.dadd X142.here hx (Jvm.hb hby d4_91) (by subst_vars; first | exact hn.1.2.2.2.2.2.2 | exact hn.2.1.2.2.2.2.2.2 | exact hn.2.2.1.2.2.2.2.2.2 | exact hn.2.2.2.1.2.2.2.2.2.2) hu91_2 (q := 92) rfl ?_
  refine Go.dastore X142 hx hZ e142 R127 (Jvm.hb hby d4_92) (i := 2) (by decide) (by decide) rfl (q := 93) rfl ?_
  intro T143 h143 X143 e143 W143 R143
  have N143 := Fr.snoc X143 N127 fr1
  have R143 : Row Z h143 ak .double kk [(.double u91), (.double u91_1), (.double u91_2), (.double c3), (.double c4)] := R143
  refine Go.iinc X143.here hx (Jvm.hb hby d4_93) rfl (v := (3 : Int32)) (by decide) (l2 := #[.val (.ref a1), .val (.ref ax), .val (.ref ag), .val (.ref ak), .val (.int (3 : Int32)), .val (.double g2), .second, .val (.double x2), .second]) rfl (q := 96) rfl ?_
  refine Go.goto X143.here hx (Jvm.hb hby d4_96) (by decide) (q := 3) rfl ?_
  refine Go.iload X143.here hx (Jvm.hb hby d4_3) rfl (q := 5) rfl ?_
  refine Go.aloadN X143.here hx (Jvm.hb hby d4_5) rfl rfl (q := 6) rfl ?_
  have f145 := f129.other W143 (Or.inl (Ne.symm i4))
  refine Go.getf X143 hx hZ hown (word hw 11 rfl) e143 f145 (Jvm.hb hby d4_6) (q := 9) rfl ?_
  intro T144 X144 e144
  have hc9_147 : (3 : Int32) < (4 : Int32) := by decide
  refine Go.icmpN X144.here hx (Jvm.hb hby d4_9) (tlt hc9_147).2.1 (q := 12) rfl ?_
  refine Go.aloadN X144.here hx (Jvm.hb hby d4_12) rfl rfl (q := 13) rfl ?_
  refine Go.iload X144.here hx (Jvm.hb hby d4_13) rfl (q := 15) rfl ?_
  have f148 := f132.other W143 (Ne.symm i2)
  refine Go.daload X144 hx hZ e144 f148 (Jvm.hb hby d4_15) (i := 3) (by decide) (by decide) rfl (q := 16) rfl ?_
  refine Go.dstore X144.here hx (Jvm.hb hby d4_16) (l2 := #[.val (.ref a1), .val (.ref ax), .val (.ref ag), .val (.ref ak), .val (.int (3 : Int32)), .val (.double g3), .second, .val (.double x2), .second]) rfl (q := 18) rfl ?_
  refine Go.aloadN X144.here hx (Jvm.hb hby d4_18) rfl rfl (q := 19) rfl ?_
  refine Go.iload X144.here hx (Jvm.hb hby d4_19) rfl (q := 21) rfl ?_
  have f149 := f133.other W143 (Ne.symm i1)
  refine Go.daload X144 hx hZ e144 f149 (Jvm.hb hby d4_21) (i := 3) (by decide) (by decide) rfl (q := 22) rfl ?_
  refine Go.dstore X144.here hx (Jvm.hb hby d4_22) (l2 := #[.val (.ref a1), .val (.ref ax), .val (.ref ag), .val (.ref ak), .val (.int (3 : Int32)), .val (.double g3), .second, .val (.double x3), .second]) rfl (q := 24) rfl ?_
  refine Go.aloadN X144.here hx (Jvm.hb hby d4_24) rfl rfl (q := 25) rfl ?_
  refine Go.iload X144.here hx (Jvm.hb hby d4_25) rfl (q := 27) rfl ?_
  refine Go.dload X144.here hx (Jvm.hb hby d4_27) rfl (q := 29) rfl ?_
  refine Go.aloadN X144.here hx (Jvm.hb hby d4_29) rfl rfl (q := 30) rfl ?_
  have f151 := f135.other W143 (Or.inl (Ne.symm i4))
  refine Go.getf X144 hx hZ hown (word hw 15 rfl) e144 f151 (Jvm.hb hby d4_30) (q := 33) rfl ?_
  intro T150 X150 e150
  refine Go.iload X150.here hx (Jvm.hb hby d4_33) rfl (q := 35) rfl ?_
  have f152 := f136.other W143 (Ne.symm i3)
  refine Go.daload X150 hx hZ e150 f152 (Jvm.hb hby d4_35) (i := 3) (by decide) (by decide) rfl (q := 36) rfl ?_
  obtain ⟨u36_3, hu36_3⟩ : ∃ zq, FP.dadd g3 (0 : UInt64) = zq := ⟨_, rfl⟩
  refine Go.dadd X150.here hx (Jvm.hb hby d4_36) (by subst_vars; first | exact hn.1.1 | exact hn.2.1.1 | exact hn.2.2.1.1 | exact hn.2.2.2.1.1) hu36_3 (q := 37) rfl ?_
  refine Go.aloadN X150.here hx (Jvm.hb hby d4_37) rfl rfl (q := 38) rfl ?_
  refine Go.getf X150 hx hZ hown (word hw 15 rfl) e150 f151 (Jvm.hb hby d4_38) (q := 41) rfl ?_
  intro T153 X153 e153
  refine Go.aloadN X153.here hx (Jvm.hb hby d4_41) rfl rfl (q := 42) rfl ?_
  refine Go.getf X153 hx hZ hown (word hw 11 rfl) e153 f145 (Jvm.hb hby d4_42) (q := 45) rfl ?_
  intro T154 X154 e154
  refine Go.iload X154.here hx (Jvm.hb hby d4_45) rfl (q := 47) rfl ?_
  refine Go.iadd X154.here hx (Jvm.hb hby d4_47) (v := (7 : Int32)) (by decide) (q := 48) rfl ?_
  refine Go.daload X154 hx hZ e154 f152 (Jvm.hb hby d4_48) (i := 7) (by decide) (by decide) rfl (q := 49) rfl ?_
  refine Go.dload X154.here hx (Jvm.hb hby d4_49) rfl (q := 51) rfl ?_
  obtain ⟨u51_3, hu51_3⟩ : ∃ zq, FP.dmul (0 : UInt64) x3 = zq := ⟨_, rfl⟩
  refine Go.dmul X154.here hx (Jvm.hb hby d4_51) (by subst_vars; first | exact hn.1.2.1 | exact hn.2.1.2.1 | exact hn.2.2.1.2.1 | exact hn.2.2.2.1.2.1) hu51_3 (q := 52) rfl ?_
  obtain ⟨u52_3, hu52_3⟩ : ∃ zq, FP.dadd u36_3 u51_3 = zq := ⟨_, rfl⟩
  refine Go.dadd X154.here hx (Jvm.hb hby d4_52) (by subst_vars; first | exact hn.1.2.2.1 | exact hn.2.1.2.2.1 | exact hn.2.2.1.2.2.1 | exact hn.2.2.2.1.2.2.1) hu52_3 (q := 53) rfl ?_
  refine Go.aloadN X154.here hx (Jvm.hb hby d4_53) rfl rfl (q := 54) rfl ?_
  refine Go.getf X154 hx hZ hown (word hw 15 rfl) e154 f151 (Jvm.hb hby d4_54) (q := 57) rfl ?_
  intro T155 X155 e155
  refine Go.iconst X155.here hx (Jvm.hb hby d4_57) (v := (2 : Int32)) rfl (q := 58) rfl ?_
  refine Go.aloadN X155.here hx (Jvm.hb hby d4_58) rfl rfl (q := 59) rfl ?_
  refine Go.getf X155 hx hZ hown (word hw 11 rfl) e155 f145 (Jvm.hb hby d4_59) (q := 62) rfl ?_
  intro T156 X156 e156
  refine Go.imul X156.here hx (Jvm.hb hby d4_62) (v := (8 : Int32)) (by decide) (q := 63) rfl ?_
  refine Go.iload X156.here hx (Jvm.hb hby d4_63) rfl (q := 65) rfl ?_
  refine Go.iadd X156.here hx (Jvm.hb hby d4_65) (v := (11 : Int32)) (by decide) (q := 66) rfl ?_
  refine Go.daload X156 hx hZ e156 f152 (Jvm.hb hby d4_66) (i := 11) (by decide) (by decide) rfl (q := 67) rfl ?_
  refine Go.dload X156.here hx (Jvm.hb hby d4_67) rfl (q := 69) rfl ?_
  obtain ⟨u69_3, hu69_3⟩ : ∃ zq, FP.dmul (0 : UInt64) g3 = zq := ⟨_, rfl⟩
  refine Go.dmul X156.here hx (Jvm.hb hby d4_69) (by subst_vars; first | exact hn.1.2.2.2.1 | exact hn.2.1.2.2.2.1 | exact hn.2.2.1.2.2.2.1 | exact hn.2.2.2.1.2.2.2.1) hu69_3 (q := 70) rfl ?_
  obtain ⟨u70_3, hu70_3⟩ : ∃ zq, FP.dadd u52_3 u69_3 = zq := ⟨_, rfl⟩
  refine Go.dadd X156.here hx (Jvm.hb hby d4_70) (by subst_vars; first | exact hn.1.2.2.2.2.1 | exact hn.2.1.2.2.2.2.1 | exact hn.2.2.1.2.2.2.2.1 | exact hn.2.2.2.1.2.2.2.2.1) hu70_3 (q := 71) rfl ?_
  refine Go.aloadN X156.here hx (Jvm.hb hby d4_71) rfl rfl (q := 72) rfl ?_
  refine Go.getf X156 hx hZ hown (word hw 15 rfl) e156 f151 (Jvm.hb hby d4_72) (q := 75) rfl ?_
  intro T157 X157 e157
  refine Go.iconst X157.here hx (Jvm.hb hby d4_75) (v := (3 : Int32)) rfl (q := 76) rfl ?_
  refine Go.aloadN X157.here hx (Jvm.hb hby d4_76) rfl rfl (q := 77) rfl ?_
  refine Go.getf X157 hx hZ hown (word hw 11 rfl) e157 f145 (Jvm.hb hby d4_77) (q := 80) rfl ?_
  intro T158 X158 e158
  refine Go.imul X158.here hx (Jvm.hb hby d4_80) (v := (12 : Int32)) (by decide) (q := 81) rfl ?_
  refine Go.iload X158.here hx (Jvm.hb hby d4_81) rfl (q := 83) rfl ?_
  refine Go.iadd X158.here hx (Jvm.hb hby d4_83) (v := (15 : Int32)) (by decide) (q := 84) rfl ?_
  refine Go.daload X158 hx hZ e158 f152 (Jvm.hb hby d4_84) (i := 15) (by decide) (by decide) rfl (q := 85) rfl ?_
  refine Go.dload X158.here hx (Jvm.hb hby d4_85) rfl (q := 87) rfl ?_
  obtain ⟨u87_3, hu87_3⟩ : ∃ zq, FP.dmul (0 : UInt64) x3 = zq := ⟨_, rfl⟩
  refine Go.dmul X158.here hx (Jvm.hb hby d4_87) (by subst_vars; first | exact hn.1.2.1 | exact hn.2.1.2.1 | exact hn.2.2.1.2.1 | exact hn.2.2.2.1.2.1) hu87_3 (q := 88) rfl ?_
  refine Go.dload X158.here hx (Jvm.hb hby d4_88) rfl (q := 90) rfl ?_
  obtain ⟨u90_3, hu90_3⟩ : ∃ zq, FP.dmul u87_3 g3 = zq := ⟨_, rfl⟩
  refine Go.dmul X158.here hx (Jvm.hb hby d4_90) (by subst_vars; first | exact hn.1.2.2.2.2.2.1 | exact hn.2.1.2.2.2.2.2.1 | exact hn.2.2.1.2.2.2.2.2.1 | exact hn.2.2.2.1.2.2.2.2.2.1) hu90_3 (q := 91) rfl ?_
  obtain ⟨u91_3, hu91_3⟩ : ∃ zq, FP.dadd u70_3 u90_3 = zq := ⟨_, rfl⟩
  refine Go.dadd X158.here hx (Jvm.hb hby d4_91) (by subst_vars; first | exact hn.1.2.2.2.2.2.2 | exact hn.2.1.2.2.2.2.2.2 | exact hn.2.2.1.2.2.2.2.2.2 | exact hn.2.2.2.1.2.2.2.2.2.2) hu91_3 (q := 92) rfl ?_
  refine Go.dastore X158 hx hZ e158 R143 (Jvm.hb hby d4_92) (i := 3) (by decide) (by decide) rfl (q := 93) rfl ?_
  intro T159 h159 X159 e159 W159 R159
  have N159 := Fr.snoc X159 N143 fr1
  have R159 : Row Z h159 ak .double kk [(.double u91), (.double u91_1), (.double u91_2), (.double u91_3), (.double c4)] := R159
  refine Go.iinc X159.here hx (Jvm.hb hby d4_93) rfl (v := (4 : Int32)) (by decide) (l2 := #[.val (.ref a1), .val (.ref ax), .val (.ref ag), .val (.ref ak), .val (.int (4 : Int32)), .val (.double g3), .second, .val (.double x3), .second]) rfl (q := 96) rfl ?_
  refine Go.goto X159.here hx (Jvm.hb hby d4_96) (by decide) (q := 3) rfl ?_
  refine Go.iload X159.here hx (Jvm.hb hby d4_3) rfl (q := 5) rfl ?_
  refine Go.aloadN X159.here hx (Jvm.hb hby d4_5) rfl rfl (q := 6) rfl ?_
  have f161 := f145.other W159 (Or.inl (Ne.symm i4))
  refine Go.getf X159 hx hZ hown (word hw 11 rfl) e159 f161 (Jvm.hb hby d4_6) (q := 9) rfl ?_
  intro T160 X160 e160
  have hc9_163 : ¬ ((4 : Int32) < (4 : Int32)) := by decide
  refine Go.icmpY X160.here hx (Jvm.hb hby d4_9) (flt hc9_163).2.1 (by decide) (q := 99) rfl ?_
  subst hu36 hu51 hu52 hu69 hu70 hu87 hu90 hu91 hu36_1 hu51_1 hu52_1 hu69_1 hu70_1 hu87_1 hu90_1 hu91_1 hu36_2 hu51_2 hu52_2 hu69_2 hu70_2 hu87_2 hu90_2 hu91_2 hu36_3 hu51_3 hu52_3 hu69_3 hu70_3 hu87_3 hu90_3 hu91_3
  have k164 : Keep h0 h111 [ak] := (Keep.refl h0 [ak]).wr W111 (Or.inl (List.mem_of_getElem? (i := 0) rfl))
  have k165 : Keep h0 h127 [ak] := k164.wr W127 (Or.inl (List.mem_of_getElem? (i := 0) rfl))
  have k166 : Keep h0 h143 [ak] := k165.wr W143 (Or.inl (List.mem_of_getElem? (i := 0) rfl))
  have k167 : Keep h0 h159 [ak] := k166.wr W159 (Or.inl (List.mem_of_getElem? (i := 0) rfl))
  refine Go.retV X160 hx hret hlk (Jvm.hb hby d4_99) (by decide) (by decide) ?_
  rw [e160]
  exact ⟨rfl, N159, k167, R159⟩
theorem d5_0 : decode method_2_code 0 = .ok (.aload_n 1, 1) := by decide +kernel
theorem d5_1 : decode method_2_code 1 = .ok (.iload_n 3, 1) := by decide +kernel
theorem d5_2 : decode method_2_code 2 = .ok (.daload, 1) := by decide +kernel
theorem d5_3 : decode method_2_code 3 = .ok (.aload_n 2, 1) := by decide +kernel
theorem d5_4 : decode method_2_code 4 = .ok (.iload_n 3, 1) := by decide +kernel
theorem d5_5 : decode method_2_code 5 = .ok (.daload, 1) := by decide +kernel
theorem d5_6 : decode method_2_code 6 = .ok (.dcmp .l, 1) := by decide +kernel
theorem d5_7 : decode method_2_code 7 = .ok (.ifCond .ne 7, 3) := by decide +kernel
theorem d5_10 : decode method_2_code 10 = .ok (.iconst 1, 1) := by decide +kernel
theorem d5_11 : decode method_2_code 11 = .ok (.goto 4, 3) := by decide +kernel
theorem d5_14 : decode method_2_code 14 = .ok (.iconst 0, 1) := by decide +kernel
theorem d5_15 : decode method_2_code 15 = .ok (.istore 5, 2) := by decide +kernel
theorem d5_17 : decode method_2_code 17 = .ok (.iload_n 3, 1) := by decide +kernel
theorem d5_18 : decode method_2_code 18 = .ok (.iload 4, 2) := by decide +kernel
theorem d5_20 : decode method_2_code 20 = .ok (.if_icmp .ge 21, 3) := by decide +kernel
theorem d5_23 : decode method_2_code 23 = .ok (.aload_n 0, 1) := by decide +kernel
theorem d5_24 : decode method_2_code 24 = .ok (.iload_n 3, 1) := by decide +kernel
theorem d5_25 : decode method_2_code 25 = .ok (.daload, 1) := by decide +kernel
theorem d5_26 : decode method_2_code 26 = .ok (.aload_n 2, 1) := by decide +kernel
theorem d5_27 : decode method_2_code 27 = .ok (.iload_n 3, 1) := by decide +kernel
theorem d5_28 : decode method_2_code 28 = .ok (.daload, 1) := by decide +kernel
theorem d5_29 : decode method_2_code 29 = .ok (.dcmp .l, 1) := by decide +kernel
theorem d5_30 : decode method_2_code 30 = .ok (.ifCond .ne 7, 3) := by decide +kernel
theorem d5_33 : decode method_2_code 33 = .ok (.iconst 1, 1) := by decide +kernel
theorem d5_34 : decode method_2_code 34 = .ok (.goto 22, 3) := by decide +kernel
theorem d5_37 : decode method_2_code 37 = .ok (.iconst 0, 1) := by decide +kernel
theorem d5_38 : decode method_2_code 38 = .ok (.goto 18, 3) := by decide +kernel
theorem d5_41 : decode method_2_code 41 = .ok (.aload_n 0, 1) := by decide +kernel
theorem d5_42 : decode method_2_code 42 = .ok (.iload_n 3, 1) := by decide +kernel
theorem d5_43 : decode method_2_code 43 = .ok (.daload, 1) := by decide +kernel
theorem d5_44 : decode method_2_code 44 = .ok (.ldc2_w 7, 3) := by decide +kernel
theorem d5_47 : decode method_2_code 47 = .ok (.dcmp .l, 1) := by decide +kernel
theorem d5_48 : decode method_2_code 48 = .ok (.ifCond .ne 7, 3) := by decide +kernel
theorem d5_51 : decode method_2_code 51 = .ok (.iconst 1, 1) := by decide +kernel
theorem d5_52 : decode method_2_code 52 = .ok (.goto 4, 3) := by decide +kernel
theorem d5_55 : decode method_2_code 55 = .ok (.iconst 0, 1) := by decide +kernel
theorem d5_56 : decode method_2_code 56 = .ok (.istore 6, 2) := by decide +kernel
theorem d5_58 : decode method_2_code 58 = .ok (.iload 5, 2) := by decide +kernel
theorem d5_60 : decode method_2_code 60 = .ok (.ifCond .eq 12, 3) := by decide +kernel
theorem d5_63 : decode method_2_code 63 = .ok (.iload 6, 2) := by decide +kernel
theorem d5_65 : decode method_2_code 65 = .ok (.ifCond .eq 7, 3) := by decide +kernel
theorem d5_68 : decode method_2_code 68 = .ok (.iconst 1, 1) := by decide +kernel
theorem d5_69 : decode method_2_code 69 = .ok (.goto 4, 3) := by decide +kernel
theorem d5_72 : decode method_2_code 72 = .ok (.iconst 0, 1) := by decide +kernel
theorem d5_73 : decode method_2_code 73 = .ok (.ireturn, 1) := by decide +kernel
set_option maxRecDepth 65536 in
set_option maxHeartbeats 40000000 in
theorem rm_slot0a (l : Launch) (Z : State) (a0 : Array Value) (hw : ∀ d ∈ tables_1, d.before a0 Z = true) (ak : Addr) (ag : Addr) (ar : Addr) (kk : ClassId) (kg : ClassId) (kr : ClassId) (n : Int32) (c0 : UInt64) (c1 : UInt64) (c2 : UInt64) (c3 : UInt64) (c4 : UInt64) (g0 : UInt64) (g1 : UInt64) (g2 : UInt64) (g3 : UInt64) (g4 : UInt64) (r0 : UInt64) (r1 : UInt64) (r2 : UInt64) (r3 : UInt64) (r4 : UInt64) (h0 : Heap) (n0 : Nat) (Z0 : n0 ≤ h0.size) (R1 : Row Z h0 ak .double kk [(.double c0), (.double c1), (.double c2), (.double c3), (.double c4)]) (R2 : Row Z h0 ag .double kg [(.double g0), (.double g1), (.double g2), (.double g3), (.double g4)]) (R3 : Row Z h0 ar .double kr [(.double r0), (.double r1), (.double r2), (.double r3), (.double r4)]) (hlt : (0 : Int32) < n) (e1 : ∀ o, cmpValue (FP.dcmp g0 r0) o = 0) (e2 : ∀ o, cmpValue (FP.dcmp c0 r0) o = 0) :
    Con l Z (⟨"com/example/ratewright/ratewright/inference/GradientCorrectionApplyPinLaw", "slot", "([D[D[DII)Z"⟩ : MethodName) method_2_code 7 (some .boolean) ({ frames := 0, cells := 0, slots := 0, locals := 0 } : Room) #[(.ref ak), (.ref ag), (.ref ar), (.int (0 : Int32)), (.int n)] h0 (fun vR hR LR => vR = some (.int (1 : Int32)) ∧ Fr n0 LR ∧ hR = h0) := by
  refine enter (l := l) (Z := Z) (y := (⟨"com/example/ratewright/ratewright/inference/GradientCorrectionApplyPinLaw", "slot", "([D[D[DII)Z"⟩ : MethodName)) (bytes := method_2_code) (maxL := 7) (ret := (some .boolean)) (ws := []) (rm := ({ frames := 0, cells := 0, slots := 0, locals := 0 } : Room)) (as' := #[(.ref ak), (.ref ag), (.ref ar), (.int (0 : Int32)), (.int n)]) (h0 := h0) (Qv := (fun vR hR LR => vR = some (.int (1 : Int32)) ∧ Fr n0 LR ∧ hR = h0)) (kc := 0) (ks := 0) (by first | exact plainFor_of_name (by first | (simp [plainName, overriddenIn]; done) | decide +kernel) | decide +kernel) (Ls := #[.val (.ref ak), .val (.ref ag), .val (.ref ar), .val (.int (0 : Int32)), .val (.int n), .unset, .unset]) (fun m => by first | (simp [entryFrame, mkF, argsToLocals, Value.category]; done) | rfl) ?_
  intro p e s m below meth c s₁ hx hby hml hown hnm hret hlk hZ X0 e0
  have hown : s.vm.findClass "com/example/ratewright/ratewright/inference/GradientCorrectionApplyPinLaw" = some m.cls := hown
  have hml : c.maxLocals = 7 := hml
  have N0 := Fr.nil n0
  refine Go.aloadN X0.here hx (Jvm.hb hby d5_0) rfl rfl (q := 1) rfl ?_
  refine Go.iloadN X0.here hx (Jvm.hb hby d5_1) rfl (q := 2) rfl ?_
  refine Go.daload X0 hx hZ e0 R2 (Jvm.hb hby d5_2) (i := 0) (by decide) (by decide) rfl (q := 3) rfl ?_
  refine Go.aloadN X0.here hx (Jvm.hb hby d5_3) rfl rfl (q := 4) rfl ?_
  refine Go.iloadN X0.here hx (Jvm.hb hby d5_4) rfl (q := 5) rfl ?_
  refine Go.daload X0 hx hZ e0 R3 (Jvm.hb hby d5_5) (i := 0) (by decide) (by decide) rfl (q := 6) rfl ?_
  obtain ⟨u6, hu6⟩ : ∃ zq, cmpValue (FP.dcmp g0 r0) .l = zq := ⟨_, rfl⟩
  refine Go.dcmp X0.here hx (Jvm.hb hby d5_6) hu6 (q := 7) rfl ?_
  have hc7 : u6 = (0 : Int32) := by rw [← hu6]; exact e1 _
  refine Go.ifN X0.here hx (Jvm.hb hby d5_7) ((if0 _ _).trans (teq hc7).2) (q := 10) rfl ?_
  refine Go.iconst X0.here hx (Jvm.hb hby d5_10) (v := (1 : Int32)) rfl (q := 11) rfl ?_
  refine Go.goto X0.here hx (Jvm.hb hby d5_11) (by decide) (q := 15) rfl ?_
  refine Go.istore X0.here hx (Jvm.hb hby d5_15) (l2 := #[.val (.ref ak), .val (.ref ag), .val (.ref ar), .val (.int (0 : Int32)), .val (.int n), .val (.int (1 : Int32)), .unset]) rfl (q := 17) rfl ?_
  refine Go.iloadN X0.here hx (Jvm.hb hby d5_17) rfl (q := 18) rfl ?_
  refine Go.iload X0.here hx (Jvm.hb hby d5_18) rfl (q := 20) rfl ?_
  have hc20 : (0 : Int32) < n := hlt
  refine Go.icmpN X0.here hx (Jvm.hb hby d5_20) (tlt hc20).2.1 (q := 23) rfl ?_
  refine Go.aloadN X0.here hx (Jvm.hb hby d5_23) rfl rfl (q := 24) rfl ?_
  refine Go.iloadN X0.here hx (Jvm.hb hby d5_24) rfl (q := 25) rfl ?_
  refine Go.daload X0 hx hZ e0 R1 (Jvm.hb hby d5_25) (i := 0) (by decide) (by decide) rfl (q := 26) rfl ?_
  refine Go.aloadN X0.here hx (Jvm.hb hby d5_26) rfl rfl (q := 27) rfl ?_
  refine Go.iloadN X0.here hx (Jvm.hb hby d5_27) rfl (q := 28) rfl ?_
  refine Go.daload X0 hx hZ e0 R3 (Jvm.hb hby d5_28) (i := 0) (by decide) (by decide) rfl (q := 29) rfl ?_
  obtain ⟨u29, hu29⟩ : ∃ zq, cmpValue (FP.dcmp c0 r0) .l = zq := ⟨_, rfl⟩
  refine Go.dcmp X0.here hx (Jvm.hb hby d5_29) hu29 (q := 30) rfl ?_
  have hc30 : u29 = (0 : Int32) := by rw [← hu29]; exact e2 _
  refine Go.ifN X0.here hx (Jvm.hb hby d5_30) ((if0 _ _).trans (teq hc30).2) (q := 33) rfl ?_
  refine Go.iconst X0.here hx (Jvm.hb hby d5_33) (v := (1 : Int32)) rfl (q := 34) rfl ?_
  refine Go.goto X0.here hx (Jvm.hb hby d5_34) (by decide) (q := 56) rfl ?_
  refine Go.istore X0.here hx (Jvm.hb hby d5_56) (l2 := #[.val (.ref ak), .val (.ref ag), .val (.ref ar), .val (.int (0 : Int32)), .val (.int n), .val (.int (1 : Int32)), .val (.int (1 : Int32))]) rfl (q := 58) rfl ?_
  refine Go.iload X0.here hx (Jvm.hb hby d5_58) rfl (q := 60) rfl ?_
  have hc60_105 : ¬ ((1 : Int32) = (0 : Int32)) := by decide
  refine Go.ifN X0.here hx (Jvm.hb hby d5_60) ((if0 _ _).trans (feq hc60_105).1) (q := 63) rfl ?_
  refine Go.iload X0.here hx (Jvm.hb hby d5_63) rfl (q := 65) rfl ?_
  have hc65_107 : ¬ ((1 : Int32) = (0 : Int32)) := by decide
  refine Go.ifN X0.here hx (Jvm.hb hby d5_65) ((if0 _ _).trans (feq hc65_107).1) (q := 68) rfl ?_
  refine Go.iconst X0.here hx (Jvm.hb hby d5_68) (v := (1 : Int32)) rfl (q := 69) rfl ?_
  refine Go.goto X0.here hx (Jvm.hb hby d5_69) (by decide) (q := 73) rfl ?_
  refine Go.retZ X0 hx hret hlk (Jvm.hb hby d5_73) (Or.inr rfl) (by decide) (by decide) ?_
  exact ⟨rfl, N0, e0⟩
set_option maxRecDepth 65536 in
set_option maxHeartbeats 40000000 in
theorem rm_slot0b (l : Launch) (Z : State) (a0 : Array Value) (hw : ∀ d ∈ tables_1, d.before a0 Z = true) (ak : Addr) (ag : Addr) (ar : Addr) (kk : ClassId) (kg : ClassId) (kr : ClassId) (n : Int32) (c0 : UInt64) (c1 : UInt64) (c2 : UInt64) (c3 : UInt64) (c4 : UInt64) (g0 : UInt64) (g1 : UInt64) (g2 : UInt64) (g3 : UInt64) (g4 : UInt64) (r0 : UInt64) (r1 : UInt64) (r2 : UInt64) (r3 : UInt64) (r4 : UInt64) (h0 : Heap) (n0 : Nat) (Z0 : n0 ≤ h0.size) (R1 : Row Z h0 ak .double kk [(.double c0), (.double c1), (.double c2), (.double c3), (.double c4)]) (R2 : Row Z h0 ag .double kg [(.double g0), (.double g1), (.double g2), (.double g3), (.double g4)]) (R3 : Row Z h0 ar .double kr [(.double r0), (.double r1), (.double r2), (.double r3), (.double r4)]) (hlt : ¬ (0 : Int32) < n) (e1 : ∀ o, cmpValue (FP.dcmp g0 r0) o = 0) (e2 : ∀ o, cmpValue (FP.dcmp c0 4602678819172646912) o = 0) :
    Con l Z (⟨"com/example/ratewright/ratewright/inference/GradientCorrectionApplyPinLaw", "slot", "([D[D[DII)Z"⟩ : MethodName) method_2_code 7 (some .boolean) ({ frames := 0, cells := 0, slots := 0, locals := 0 } : Room) #[(.ref ak), (.ref ag), (.ref ar), (.int (0 : Int32)), (.int n)] h0 (fun vR hR LR => vR = some (.int (1 : Int32)) ∧ Fr n0 LR ∧ hR = h0) := by
  refine enter (l := l) (Z := Z) (y := (⟨"com/example/ratewright/ratewright/inference/GradientCorrectionApplyPinLaw", "slot", "([D[D[DII)Z"⟩ : MethodName)) (bytes := method_2_code) (maxL := 7) (ret := (some .boolean)) (ws := []) (rm := ({ frames := 0, cells := 0, slots := 0, locals := 0 } : Room)) (as' := #[(.ref ak), (.ref ag), (.ref ar), (.int (0 : Int32)), (.int n)]) (h0 := h0) (Qv := (fun vR hR LR => vR = some (.int (1 : Int32)) ∧ Fr n0 LR ∧ hR = h0)) (kc := 0) (ks := 0) (by first | exact plainFor_of_name (by first | (simp [plainName, overriddenIn]; done) | decide +kernel) | decide +kernel) (Ls := #[.val (.ref ak), .val (.ref ag), .val (.ref ar), .val (.int (0 : Int32)), .val (.int n), .unset, .unset]) (fun m => by first | (simp [entryFrame, mkF, argsToLocals, Value.category]; done) | rfl) ?_
  intro p e s m below meth c s₁ hx hby hml hown hnm hret hlk hZ X0 e0
  have hown : s.vm.findClass "com/example/ratewright/ratewright/inference/GradientCorrectionApplyPinLaw" = some m.cls := hown
  have hml : c.maxLocals = 7 := hml
  have N0 := Fr.nil n0
  refine Go.aloadN X0.here hx (Jvm.hb hby d5_0) rfl rfl (q := 1) rfl ?_
  refine Go.iloadN X0.here hx (Jvm.hb hby d5_1) rfl (q := 2) rfl ?_
  refine Go.daload X0 hx hZ e0 R2 (Jvm.hb hby d5_2) (i := 0) (by decide) (by decide) rfl (q := 3) rfl ?_
  refine Go.aloadN X0.here hx (Jvm.hb hby d5_3) rfl rfl (q := 4) rfl ?_
  refine Go.iloadN X0.here hx (Jvm.hb hby d5_4) rfl (q := 5) rfl ?_
  refine Go.daload X0 hx hZ e0 R3 (Jvm.hb hby d5_5) (i := 0) (by decide) (by decide) rfl (q := 6) rfl ?_
  obtain ⟨u6, hu6⟩ : ∃ zq, cmpValue (FP.dcmp g0 r0) .l = zq := ⟨_, rfl⟩
  refine Go.dcmp X0.here hx (Jvm.hb hby d5_6) hu6 (q := 7) rfl ?_
  have hc7 : u6 = (0 : Int32) := by rw [← hu6]; exact e1 _
  refine Go.ifN X0.here hx (Jvm.hb hby d5_7) ((if0 _ _).trans (teq hc7).2) (q := 10) rfl ?_
  refine Go.iconst X0.here hx (Jvm.hb hby d5_10) (v := (1 : Int32)) rfl (q := 11) rfl ?_
  refine Go.goto X0.here hx (Jvm.hb hby d5_11) (by decide) (q := 15) rfl ?_
  refine Go.istore X0.here hx (Jvm.hb hby d5_15) (l2 := #[.val (.ref ak), .val (.ref ag), .val (.ref ar), .val (.int (0 : Int32)), .val (.int n), .val (.int (1 : Int32)), .unset]) rfl (q := 17) rfl ?_
  refine Go.iloadN X0.here hx (Jvm.hb hby d5_17) rfl (q := 18) rfl ?_
  refine Go.iload X0.here hx (Jvm.hb hby d5_18) rfl (q := 20) rfl ?_
  have hc20 : ¬ ((0 : Int32) < n) := hlt
  refine Go.icmpY X0.here hx (Jvm.hb hby d5_20) (flt hc20).2.1 (by decide) (q := 41) rfl ?_
  refine Go.aloadN X0.here hx (Jvm.hb hby d5_41) rfl rfl (q := 42) rfl ?_
  refine Go.iloadN X0.here hx (Jvm.hb hby d5_42) rfl (q := 43) rfl ?_
  refine Go.daload X0 hx hZ e0 R1 (Jvm.hb hby d5_43) (i := 0) (by decide) (by decide) rfl (q := 44) rfl ?_
  refine Go.ldc2D X0 hx hown (mvT hZ (word hw 1 rfl)) (Jvm.hb hby d5_44) (q := 47) rfl ?_
  obtain ⟨u47, hu47⟩ : ∃ zq, cmpValue (FP.dcmp c0 (4602678819172646912 : UInt64)) .l = zq := ⟨_, rfl⟩
  refine Go.dcmp X0.here hx (Jvm.hb hby d5_47) hu47 (q := 48) rfl ?_
  have hc48 : u47 = (0 : Int32) := by rw [← hu47]; exact e2 _
  refine Go.ifN X0.here hx (Jvm.hb hby d5_48) ((if0 _ _).trans (teq hc48).2) (q := 51) rfl ?_
  refine Go.iconst X0.here hx (Jvm.hb hby d5_51) (v := (1 : Int32)) rfl (q := 52) rfl ?_
  refine Go.goto X0.here hx (Jvm.hb hby d5_52) (by decide) (q := 56) rfl ?_
  refine Go.istore X0.here hx (Jvm.hb hby d5_56) (l2 := #[.val (.ref ak), .val (.ref ag), .val (.ref ar), .val (.int (0 : Int32)), .val (.int n), .val (.int (1 : Int32)), .val (.int (1 : Int32))]) rfl (q := 58) rfl ?_
  refine Go.iload X0.here hx (Jvm.hb hby d5_58) rfl (q := 60) rfl ?_
  have hc60_105 : ¬ ((1 : Int32) = (0 : Int32)) := by decide
  refine Go.ifN X0.here hx (Jvm.hb hby d5_60) ((if0 _ _).trans (feq hc60_105).1) (q := 63) rfl ?_
  refine Go.iload X0.here hx (Jvm.hb hby d5_63) rfl (q := 65) rfl ?_
  have hc65_107 : ¬ ((1 : Int32) = (0 : Int32)) := by decide
  refine Go.ifN X0.here hx (Jvm.hb hby d5_65) ((if0 _ _).trans (feq hc65_107).1) (q := 68) rfl ?_
  refine Go.iconst X0.here hx (Jvm.hb hby d5_68) (v := (1 : Int32)) rfl (q := 69) rfl ?_
  refine Go.goto X0.here hx (Jvm.hb hby d5_69) (by decide) (q := 73) rfl ?_
  refine Go.retZ X0 hx hret hlk (Jvm.hb hby d5_73) (Or.inr rfl) (by decide) (by decide) ?_
  exact ⟨rfl, N0, e0⟩
set_option maxRecDepth 65536 in
set_option maxHeartbeats 40000000 in
theorem rm_slot1a (l : Launch) (Z : State) (a0 : Array Value) (hw : ∀ d ∈ tables_1, d.before a0 Z = true) (ak : Addr) (ag : Addr) (ar : Addr) (kk : ClassId) (kg : ClassId) (kr : ClassId) (n : Int32) (c0 : UInt64) (c1 : UInt64) (c2 : UInt64) (c3 : UInt64) (c4 : UInt64) (g0 : UInt64) (g1 : UInt64) (g2 : UInt64) (g3 : UInt64) (g4 : UInt64) (r0 : UInt64) (r1 : UInt64) (r2 : UInt64) (r3 : UInt64) (r4 : UInt64) (h0 : Heap) (n0 : Nat) (Z0 : n0 ≤ h0.size) (R1 : Row Z h0 ak .double kk [(.double c0), (.double c1), (.double c2), (.double c3), (.double c4)]) (R2 : Row Z h0 ag .double kg [(.double g0), (.double g1), (.double g2), (.double g3), (.double g4)]) (R3 : Row Z h0 ar .double kr [(.double r0), (.double r1), (.double r2), (.double r3), (.double r4)]) (hlt : (1 : Int32) < n) (e1 : ∀ o, cmpValue (FP.dcmp g1 r1) o = 0) (e2 : ∀ o, cmpValue (FP.dcmp c1 r1) o = 0) :
    Con l Z (⟨"com/example/ratewright/ratewright/inference/GradientCorrectionApplyPinLaw", "slot", "([D[D[DII)Z"⟩ : MethodName) method_2_code 7 (some .boolean) ({ frames := 0, cells := 0, slots := 0, locals := 0 } : Room) #[(.ref ak), (.ref ag), (.ref ar), (.int (1 : Int32)), (.int n)] h0 (fun vR hR LR => vR = some (.int (1 : Int32)) ∧ Fr n0 LR ∧ hR = h0) := by
  refine enter (l := l) (Z := Z) (y := (⟨"com/example/ratewright/ratewright/inference/GradientCorrectionApplyPinLaw", "slot", "([D[D[DII)Z"⟩ : MethodName)) (bytes := method_2_code) (maxL := 7) (ret := (some .boolean)) (ws := []) (rm := ({ frames := 0, cells := 0, slots := 0, locals := 0 } : Room)) (as' := #[(.ref ak), (.ref ag), (.ref ar), (.int (1 : Int32)), (.int n)]) (h0 := h0) (Qv := (fun vR hR LR => vR = some (.int (1 : Int32)) ∧ Fr n0 LR ∧ hR = h0)) (kc := 0) (ks := 0) (by first | exact plainFor_of_name (by first | (simp [plainName, overriddenIn]; done) | decide +kernel) | decide +kernel) (Ls := #[.val (.ref ak), .val (.ref ag), .val (.ref ar), .val (.int (1 : Int32)), .val (.int n), .unset, .unset]) (fun m => by first | (simp [entryFrame, mkF, argsToLocals, Value.category]; done) | rfl) ?_
  intro p e s m below meth c s₁ hx hby hml hown hnm hret hlk hZ X0 e0
  have hown : s.vm.findClass "com/example/ratewright/ratewright/inference/GradientCorrectionApplyPinLaw" = some m.cls := hown
  have hml : c.maxLocals = 7 := hml
  have N0 := Fr.nil n0
  refine Go.aloadN X0.here hx (Jvm.hb hby d5_0) rfl rfl (q := 1) rfl ?_
  refine Go.iloadN X0.here hx (Jvm.hb hby d5_1) rfl (q := 2) rfl ?_
  refine Go.daload X0 hx hZ e0 R2 (Jvm.hb hby d5_2) (i := 1) (by decide) (by decide) rfl (q := 3) rfl ?_
  refine Go.aloadN X0.here hx (Jvm.hb hby d5_3) rfl rfl (q := 4) rfl ?_
  refine Go.iloadN X0.here hx (Jvm.hb hby d5_4) rfl (q := 5) rfl ?_
  refine Go.daload X0 hx hZ e0 R3 (Jvm.hb hby d5_5) (i := 1) (by decide) (by decide) rfl (q := 6) rfl ?_
  obtain ⟨u6, hu6⟩ : ∃ zq, cmpValue (FP.dcmp g1 r1) .l = zq := ⟨_, rfl⟩
  refine Go.dcmp X0.here hx (Jvm.hb hby d5_6) hu6 (q := 7) rfl ?_
  have hc7 : u6 = (0 : Int32) := by rw [← hu6]; exact e1 _
  refine Go.ifN X0.here hx (Jvm.hb hby d5_7) ((if0 _ _).trans (teq hc7).2) (q := 10) rfl ?_
  refine Go.iconst X0.here hx (Jvm.hb hby d5_10) (v := (1 : Int32)) rfl (q := 11) rfl ?_
  refine Go.goto X0.here hx (Jvm.hb hby d5_11) (by decide) (q := 15) rfl ?_
  refine Go.istore X0.here hx (Jvm.hb hby d5_15) (l2 := #[.val (.ref ak), .val (.ref ag), .val (.ref ar), .val (.int (1 : Int32)), .val (.int n), .val (.int (1 : Int32)), .unset]) rfl (q := 17) rfl ?_
  refine Go.iloadN X0.here hx (Jvm.hb hby d5_17) rfl (q := 18) rfl ?_
  refine Go.iload X0.here hx (Jvm.hb hby d5_18) rfl (q := 20) rfl ?_
  have hc20 : (1 : Int32) < n := hlt
  refine Go.icmpN X0.here hx (Jvm.hb hby d5_20) (tlt hc20).2.1 (q := 23) rfl ?_
  refine Go.aloadN X0.here hx (Jvm.hb hby d5_23) rfl rfl (q := 24) rfl ?_
  refine Go.iloadN X0.here hx (Jvm.hb hby d5_24) rfl (q := 25) rfl ?_
  refine Go.daload X0 hx hZ e0 R1 (Jvm.hb hby d5_25) (i := 1) (by decide) (by decide) rfl (q := 26) rfl ?_
  refine Go.aloadN X0.here hx (Jvm.hb hby d5_26) rfl rfl (q := 27) rfl ?_
  refine Go.iloadN X0.here hx (Jvm.hb hby d5_27) rfl (q := 28) rfl ?_
  refine Go.daload X0 hx hZ e0 R3 (Jvm.hb hby d5_28) (i := 1) (by decide) (by decide) rfl (q := 29) rfl ?_
  obtain ⟨u29, hu29⟩ : ∃ zq, cmpValue (FP.dcmp c1 r1) .l = zq := ⟨_, rfl⟩
  refine Go.dcmp X0.here hx (Jvm.hb hby d5_29) hu29 (q := 30) rfl ?_
  have hc30 : u29 = (0 : Int32) := by rw [← hu29]; exact e2 _
  refine Go.ifN X0.here hx (Jvm.hb hby d5_30) ((if0 _ _).trans (teq hc30).2) (q := 33) rfl ?_
  refine Go.iconst X0.here hx (Jvm.hb hby d5_33) (v := (1 : Int32)) rfl (q := 34) rfl ?_
  refine Go.goto X0.here hx (Jvm.hb hby d5_34) (by decide) (q := 56) rfl ?_
  refine Go.istore X0.here hx (Jvm.hb hby d5_56) (l2 := #[.val (.ref ak), .val (.ref ag), .val (.ref ar), .val (.int (1 : Int32)), .val (.int n), .val (.int (1 : Int32)), .val (.int (1 : Int32))]) rfl (q := 58) rfl ?_
  refine Go.iload X0.here hx (Jvm.hb hby d5_58) rfl (q := 60) rfl ?_
  have hc60_105 : ¬ ((1 : Int32) = (0 : Int32)) := by decide
  refine Go.ifN X0.here hx (Jvm.hb hby d5_60) ((if0 _ _).trans (feq hc60_105).1) (q := 63) rfl ?_
  refine Go.iload X0.here hx (Jvm.hb hby d5_63) rfl (q := 65) rfl ?_
  have hc65_107 : ¬ ((1 : Int32) = (0 : Int32)) := by decide
  refine Go.ifN X0.here hx (Jvm.hb hby d5_65) ((if0 _ _).trans (feq hc65_107).1) (q := 68) rfl ?_
  refine Go.iconst X0.here hx (Jvm.hb hby d5_68) (v := (1 : Int32)) rfl (q := 69) rfl ?_
  refine Go.goto X0.here hx (Jvm.hb hby d5_69) (by decide) (q := 73) rfl ?_
  refine Go.retZ X0 hx hret hlk (Jvm.hb hby d5_73) (Or.inr rfl) (by decide) (by decide) ?_
  exact ⟨rfl, N0, e0⟩
set_option maxRecDepth 65536 in
set_option maxHeartbeats 40000000 in
theorem rm_slot1b (l : Launch) (Z : State) (a0 : Array Value) (hw : ∀ d ∈ tables_1, d.before a0 Z = true) (ak : Addr) (ag : Addr) (ar : Addr) (kk : ClassId) (kg : ClassId) (kr : ClassId) (n : Int32) (c0 : UInt64) (c1 : UInt64) (c2 : UInt64) (c3 : UInt64) (c4 : UInt64) (g0 : UInt64) (g1 : UInt64) (g2 : UInt64) (g3 : UInt64) (g4 : UInt64) (r0 : UInt64) (r1 : UInt64) (r2 : UInt64) (r3 : UInt64) (r4 : UInt64) (h0 : Heap) (n0 : Nat) (Z0 : n0 ≤ h0.size) (R1 : Row Z h0 ak .double kk [(.double c0), (.double c1), (.double c2), (.double c3), (.double c4)]) (R2 : Row Z h0 ag .double kg [(.double g0), (.double g1), (.double g2), (.double g3), (.double g4)]) (R3 : Row Z h0 ar .double kr [(.double r0), (.double r1), (.double r2), (.double r3), (.double r4)]) (hlt : ¬ (1 : Int32) < n) (e1 : ∀ o, cmpValue (FP.dcmp g1 r1) o = 0) (e2 : ∀ o, cmpValue (FP.dcmp c1 4602678819172646912) o = 0) :
    Con l Z (⟨"com/example/ratewright/ratewright/inference/GradientCorrectionApplyPinLaw", "slot", "([D[D[DII)Z"⟩ : MethodName) method_2_code 7 (some .boolean) ({ frames := 0, cells := 0, slots := 0, locals := 0 } : Room) #[(.ref ak), (.ref ag), (.ref ar), (.int (1 : Int32)), (.int n)] h0 (fun vR hR LR => vR = some (.int (1 : Int32)) ∧ Fr n0 LR ∧ hR = h0) := by
  refine enter (l := l) (Z := Z) (y := (⟨"com/example/ratewright/ratewright/inference/GradientCorrectionApplyPinLaw", "slot", "([D[D[DII)Z"⟩ : MethodName)) (bytes := method_2_code) (maxL := 7) (ret := (some .boolean)) (ws := []) (rm := ({ frames := 0, cells := 0, slots := 0, locals := 0 } : Room)) (as' := #[(.ref ak), (.ref ag), (.ref ar), (.int (1 : Int32)), (.int n)]) (h0 := h0) (Qv := (fun vR hR LR => vR = some (.int (1 : Int32)) ∧ Fr n0 LR ∧ hR = h0)) (kc := 0) (ks := 0) (by first | exact plainFor_of_name (by first | (simp [plainName, overriddenIn]; done) | decide +kernel) | decide +kernel) (Ls := #[.val (.ref ak), .val (.ref ag), .val (.ref ar), .val (.int (1 : Int32)), .val (.int n), .unset, .unset]) (fun m => by first | (simp [entryFrame, mkF, argsToLocals, Value.category]; done) | rfl) ?_
  intro p e s m below meth c s₁ hx hby hml hown hnm hret hlk hZ X0 e0
  have hown : s.vm.findClass "com/example/ratewright/ratewright/inference/GradientCorrectionApplyPinLaw" = some m.cls := hown
  have hml : c.maxLocals = 7 := hml
  have N0 := Fr.nil n0
  refine Go.aloadN X0.here hx (Jvm.hb hby d5_0) rfl rfl (q := 1) rfl ?_
  refine Go.iloadN X0.here hx (Jvm.hb hby d5_1) rfl (q := 2) rfl ?_
  refine Go.daload X0 hx hZ e0 R2 (Jvm.hb hby d5_2) (i := 1) (by decide) (by decide) rfl (q := 3) rfl ?_
  refine Go.aloadN X0.here hx (Jvm.hb hby d5_3) rfl rfl (q := 4) rfl ?_
  refine Go.iloadN X0.here hx (Jvm.hb hby d5_4) rfl (q := 5) rfl ?_
  refine Go.daload X0 hx hZ e0 R3 (Jvm.hb hby d5_5) (i := 1) (by decide) (by decide) rfl (q := 6) rfl ?_
  obtain ⟨u6, hu6⟩ : ∃ zq, cmpValue (FP.dcmp g1 r1) .l = zq := ⟨_, rfl⟩
  refine Go.dcmp X0.here hx (Jvm.hb hby d5_6) hu6 (q := 7) rfl ?_
  have hc7 : u6 = (0 : Int32) := by rw [← hu6]; exact e1 _
  refine Go.ifN X0.here hx (Jvm.hb hby d5_7) ((if0 _ _).trans (teq hc7).2) (q := 10) rfl ?_
  refine Go.iconst X0.here hx (Jvm.hb hby d5_10) (v := (1 : Int32)) rfl (q := 11) rfl ?_
  refine Go.goto X0.here hx (Jvm.hb hby d5_11) (by decide) (q := 15) rfl ?_
  refine Go.istore X0.here hx (Jvm.hb hby d5_15) (l2 := #[.val (.ref ak), .val (.ref ag), .val (.ref ar), .val (.int (1 : Int32)), .val (.int n), .val (.int (1 : Int32)), .unset]) rfl (q := 17) rfl ?_
  refine Go.iloadN X0.here hx (Jvm.hb hby d5_17) rfl (q := 18) rfl ?_
  refine Go.iload X0.here hx (Jvm.hb hby d5_18) rfl (q := 20) rfl ?_
  have hc20 : ¬ ((1 : Int32) < n) := hlt
  refine Go.icmpY X0.here hx (Jvm.hb hby d5_20) (flt hc20).2.1 (by decide) (q := 41) rfl ?_
  refine Go.aloadN X0.here hx (Jvm.hb hby d5_41) rfl rfl (q := 42) rfl ?_
  refine Go.iloadN X0.here hx (Jvm.hb hby d5_42) rfl (q := 43) rfl ?_
  refine Go.daload X0 hx hZ e0 R1 (Jvm.hb hby d5_43) (i := 1) (by decide) (by decide) rfl (q := 44) rfl ?_
  refine Go.ldc2D X0 hx hown (mvT hZ (word hw 1 rfl)) (Jvm.hb hby d5_44) (q := 47) rfl ?_
  obtain ⟨u47, hu47⟩ : ∃ zq, cmpValue (FP.dcmp c1 (4602678819172646912 : UInt64)) .l = zq := ⟨_, rfl⟩
  refine Go.dcmp X0.here hx (Jvm.hb hby d5_47) hu47 (q := 48) rfl ?_
  have hc48 : u47 = (0 : Int32) := by rw [← hu47]; exact e2 _
  refine Go.ifN X0.here hx (Jvm.hb hby d5_48) ((if0 _ _).trans (teq hc48).2) (q := 51) rfl ?_
  refine Go.iconst X0.here hx (Jvm.hb hby d5_51) (v := (1 : Int32)) rfl (q := 52) rfl ?_
  refine Go.goto X0.here hx (Jvm.hb hby d5_52) (by decide) (q := 56) rfl ?_
  refine Go.istore X0.here hx (Jvm.hb hby d5_56) (l2 := #[.val (.ref ak), .val (.ref ag), .val (.ref ar), .val (.int (1 : Int32)), .val (.int n), .val (.int (1 : Int32)), .val (.int (1 : Int32))]) rfl (q := 58) rfl ?_
  refine Go.iload X0.here hx (Jvm.hb hby d5_58) rfl (q := 60) rfl ?_
  have hc60_105 : ¬ ((1 : Int32) = (0 : Int32)) := by decide
  refine Go.ifN X0.here hx (Jvm.hb hby d5_60) ((if0 _ _).trans (feq hc60_105).1) (q := 63) rfl ?_
  refine Go.iload X0.here hx (Jvm.hb hby d5_63) rfl (q := 65) rfl ?_
  have hc65_107 : ¬ ((1 : Int32) = (0 : Int32)) := by decide
  refine Go.ifN X0.here hx (Jvm.hb hby d5_65) ((if0 _ _).trans (feq hc65_107).1) (q := 68) rfl ?_
  refine Go.iconst X0.here hx (Jvm.hb hby d5_68) (v := (1 : Int32)) rfl (q := 69) rfl ?_
  refine Go.goto X0.here hx (Jvm.hb hby d5_69) (by decide) (q := 73) rfl ?_
  refine Go.retZ X0 hx hret hlk (Jvm.hb hby d5_73) (Or.inr rfl) (by decide) (by decide) ?_
  exact ⟨rfl, N0, e0⟩
set_option maxRecDepth 65536 in
set_option maxHeartbeats 40000000 in
theorem rm_slot2a (l : Launch) (Z : State) (a0 : Array Value) (hw : ∀ d ∈ tables_1, d.before a0 Z = true) (ak : Addr) (ag : Addr) (ar : Addr) (kk : ClassId) (kg : ClassId) (kr : ClassId) (n : Int32) (c0 : UInt64) (c1 : UInt64) (c2 : UInt64) (c3 : UInt64) (c4 : UInt64) (g0 : UInt64) (g1 : UInt64) (g2 : UInt64) (g3 : UInt64) (g4 : UInt64) (r0 : UInt64) (r1 : UInt64) (r2 : UInt64) (r3 : UInt64) (r4 : UInt64) (h0 : Heap) (n0 : Nat) (Z0 : n0 ≤ h0.size) (R1 : Row Z h0 ak .double kk [(.double c0), (.double c1), (.double c2), (.double c3), (.double c4)]) (R2 : Row Z h0 ag .double kg [(.double g0), (.double g1), (.double g2), (.double g3), (.double g4)]) (R3 : Row Z h0 ar .double kr [(.double r0), (.double r1), (.double r2), (.double r3), (.double r4)]) (hlt : (2 : Int32) < n) (e1 : ∀ o, cmpValue (FP.dcmp g2 r2) o = 0) (e2 : ∀ o, cmpValue (FP.dcmp c2 r2) o = 0) :
    Con l Z (⟨"com/example/ratewright/ratewright/inference/GradientCorrectionApplyPinLaw", "slot", "([D[D[DII)Z"⟩ : MethodName) method_2_code 7 (some .boolean) ({ frames := 0, cells := 0, slots := 0, locals := 0 } : Room) #[(.ref ak), (.ref ag), (.ref ar), (.int (2 : Int32)), (.int n)] h0 (fun vR hR LR => vR = some (.int (1 : Int32)) ∧ Fr n0 LR ∧ hR = h0) := by
  refine enter (l := l) (Z := Z) (y := (⟨"com/example/ratewright/ratewright/inference/GradientCorrectionApplyPinLaw", "slot", "([D[D[DII)Z"⟩ : MethodName)) (bytes := method_2_code) (maxL := 7) (ret := (some .boolean)) (ws := []) (rm := ({ frames := 0, cells := 0, slots := 0, locals := 0 } : Room)) (as' := #[(.ref ak), (.ref ag), (.ref ar), (.int (2 : Int32)), (.int n)]) (h0 := h0) (Qv := (fun vR hR LR => vR = some (.int (1 : Int32)) ∧ Fr n0 LR ∧ hR = h0)) (kc := 0) (ks := 0) (by first | exact plainFor_of_name (by first | (simp [plainName, overriddenIn]; done) | decide +kernel) | decide +kernel) (Ls := #[.val (.ref ak), .val (.ref ag), .val (.ref ar), .val (.int (2 : Int32)), .val (.int n), .unset, .unset]) (fun m => by first | (simp [entryFrame, mkF, argsToLocals, Value.category]; done) | rfl) ?_
  intro p e s m below meth c s₁ hx hby hml hown hnm hret hlk hZ X0 e0
  have hown : s.vm.findClass "com/example/ratewright/ratewright/inference/GradientCorrectionApplyPinLaw" = some m.cls := hown
  have hml : c.maxLocals = 7 := hml
  have N0 := Fr.nil n0
  refine Go.aloadN X0.here hx (Jvm.hb hby d5_0) rfl rfl (q := 1) rfl ?_
  refine Go.iloadN X0.here hx (Jvm.hb hby d5_1) rfl (q := 2) rfl ?_
  refine Go.daload X0 hx hZ e0 R2 (Jvm.hb hby d5_2) (i := 2) (by decide) (by decide) rfl (q := 3) rfl ?_
  refine Go.aloadN X0.here hx (Jvm.hb hby d5_3) rfl rfl (q := 4) rfl ?_
  refine Go.iloadN X0.here hx (Jvm.hb hby d5_4) rfl (q := 5) rfl ?_
  refine Go.daload X0 hx hZ e0 R3 (Jvm.hb hby d5_5) (i := 2) (by decide) (by decide) rfl (q := 6) rfl ?_
  obtain ⟨u6, hu6⟩ : ∃ zq, cmpValue (FP.dcmp g2 r2) .l = zq := ⟨_, rfl⟩
  refine Go.dcmp X0.here hx (Jvm.hb hby d5_6) hu6 (q := 7) rfl ?_
  have hc7 : u6 = (0 : Int32) := by rw [← hu6]; exact e1 _
  refine Go.ifN X0.here hx (Jvm.hb hby d5_7) ((if0 _ _).trans (teq hc7).2) (q := 10) rfl ?_
  refine Go.iconst X0.here hx (Jvm.hb hby d5_10) (v := (1 : Int32)) rfl (q := 11) rfl ?_
  refine Go.goto X0.here hx (Jvm.hb hby d5_11) (by decide) (q := 15) rfl ?_
  refine Go.istore X0.here hx (Jvm.hb hby d5_15) (l2 := #[.val (.ref ak), .val (.ref ag), .val (.ref ar), .val (.int (2 : Int32)), .val (.int n), .val (.int (1 : Int32)), .unset]) rfl (q := 17) rfl ?_
  refine Go.iloadN X0.here hx (Jvm.hb hby d5_17) rfl (q := 18) rfl ?_
  refine Go.iload X0.here hx (Jvm.hb hby d5_18) rfl (q := 20) rfl ?_
  have hc20 : (2 : Int32) < n := hlt
  refine Go.icmpN X0.here hx (Jvm.hb hby d5_20) (tlt hc20).2.1 (q := 23) rfl ?_
  refine Go.aloadN X0.here hx (Jvm.hb hby d5_23) rfl rfl (q := 24) rfl ?_
  refine Go.iloadN X0.here hx (Jvm.hb hby d5_24) rfl (q := 25) rfl ?_
  refine Go.daload X0 hx hZ e0 R1 (Jvm.hb hby d5_25) (i := 2) (by decide) (by decide) rfl (q := 26) rfl ?_
  refine Go.aloadN X0.here hx (Jvm.hb hby d5_26) rfl rfl (q := 27) rfl ?_
  refine Go.iloadN X0.here hx (Jvm.hb hby d5_27) rfl (q := 28) rfl ?_
  refine Go.daload X0 hx hZ e0 R3 (Jvm.hb hby d5_28) (i := 2) (by decide) (by decide) rfl (q := 29) rfl ?_
  obtain ⟨u29, hu29⟩ : ∃ zq, cmpValue (FP.dcmp c2 r2) .l = zq := ⟨_, rfl⟩
  refine Go.dcmp X0.here hx (Jvm.hb hby d5_29) hu29 (q := 30) rfl ?_
  have hc30 : u29 = (0 : Int32) := by rw [← hu29]; exact e2 _
  refine Go.ifN X0.here hx (Jvm.hb hby d5_30) ((if0 _ _).trans (teq hc30).2) (q := 33) rfl ?_
  refine Go.iconst X0.here hx (Jvm.hb hby d5_33) (v := (1 : Int32)) rfl (q := 34) rfl ?_
  refine Go.goto X0.here hx (Jvm.hb hby d5_34) (by decide) (q := 56) rfl ?_
  refine Go.istore X0.here hx (Jvm.hb hby d5_56) (l2 := #[.val (.ref ak), .val (.ref ag), .val (.ref ar), .val (.int (2 : Int32)), .val (.int n), .val (.int (1 : Int32)), .val (.int (1 : Int32))]) rfl (q := 58) rfl ?_
  refine Go.iload X0.here hx (Jvm.hb hby d5_58) rfl (q := 60) rfl ?_
  have hc60_105 : ¬ ((1 : Int32) = (0 : Int32)) := by decide
  refine Go.ifN X0.here hx (Jvm.hb hby d5_60) ((if0 _ _).trans (feq hc60_105).1) (q := 63) rfl ?_
  refine Go.iload X0.here hx (Jvm.hb hby d5_63) rfl (q := 65) rfl ?_
  have hc65_107 : ¬ ((1 : Int32) = (0 : Int32)) := by decide
  refine Go.ifN X0.here hx (Jvm.hb hby d5_65) ((if0 _ _).trans (feq hc65_107).1) (q := 68) rfl ?_
  refine Go.iconst X0.here hx (Jvm.hb hby d5_68) (v := (1 : Int32)) rfl (q := 69) rfl ?_
  refine Go.goto X0.here hx (Jvm.hb hby d5_69) (by decide) (q := 73) rfl ?_
  refine Go.retZ X0 hx hret hlk (Jvm.hb hby d5_73) (Or.inr rfl) (by decide) (by decide) ?_
  exact ⟨rfl, N0, e0⟩
set_option maxRecDepth 65536 in
set_option maxHeartbeats 40000000 in
theorem rm_slot2b (l : Launch) (Z : State) (a0 : Array Value) (hw : ∀ d ∈ tables_1, d.before a0 Z = true) (ak : Addr) (ag : Addr) (ar : Addr) (kk : ClassId) (kg : ClassId) (kr : ClassId) (n : Int32) (c0 : UInt64) (c1 : UInt64) (c2 : UInt64) (c3 : UInt64) (c4 : UInt64) (g0 : UInt64) (g1 : UInt64) (g2 : UInt64) (g3 : UInt64) (g4 : UInt64) (r0 : UInt64) (r1 : UInt64) (r2 : UInt64) (r3 : UInt64) (r4 : UInt64) (h0 : Heap) (n0 : Nat) (Z0 : n0 ≤ h0.size) (R1 : Row Z h0 ak .double kk [(.double c0), (.double c1), (.double c2), (.double c3), (.double c4)]) (R2 : Row Z h0 ag .double kg [(.double g0), (.double g1), (.double g2), (.double g3), (.double g4)]) (R3 : Row Z h0 ar .double kr [(.double r0), (.double r1), (.double r2), (.double r3), (.double r4)]) (hlt : ¬ (2 : Int32) < n) (e1 : ∀ o, cmpValue (FP.dcmp g2 r2) o = 0) (e2 : ∀ o, cmpValue (FP.dcmp c2 4602678819172646912) o = 0) :
    Con l Z (⟨"com/example/ratewright/ratewright/inference/GradientCorrectionApplyPinLaw", "slot", "([D[D[DII)Z"⟩ : MethodName) method_2_code 7 (some .boolean) ({ frames := 0, cells := 0, slots := 0, locals := 0 } : Room) #[(.ref ak), (.ref ag), (.ref ar), (.int (2 : Int32)), (.int n)] h0 (fun vR hR LR => vR = some (.int (1 : Int32)) ∧ Fr n0 LR ∧ hR = h0) := by
  refine enter (l := l) (Z := Z) (y := (⟨"com/example/ratewright/ratewright/inference/GradientCorrectionApplyPinLaw", "slot", "([D[D[DII)Z"⟩ : MethodName)) (bytes := method_2_code) (maxL := 7) (ret := (some .boolean)) (ws := []) (rm := ({ frames := 0, cells := 0, slots := 0, locals := 0 } : Room)) (as' := #[(.ref ak), (.ref ag), (.ref ar), (.int (2 : Int32)), (.int n)]) (h0 := h0) (Qv := (fun vR hR LR => vR = some (.int (1 : Int32)) ∧ Fr n0 LR ∧ hR = h0)) (kc := 0) (ks := 0) (by first | exact plainFor_of_name (by first | (simp [plainName, overriddenIn]; done) | decide +kernel) | decide +kernel) (Ls := #[.val (.ref ak), .val (.ref ag), .val (.ref ar), .val (.int (2 : Int32)), .val (.int n), .unset, .unset]) (fun m => by first | (simp [entryFrame, mkF, argsToLocals, Value.category]; done) | rfl) ?_
  intro p e s m below meth c s₁ hx hby hml hown hnm hret hlk hZ X0 e0
  have hown : s.vm.findClass "com/example/ratewright/ratewright/inference/GradientCorrectionApplyPinLaw" = some m.cls := hown
  have hml : c.maxLocals = 7 := hml
  have N0 := Fr.nil n0
  refine Go.aloadN X0.here hx (Jvm.hb hby d5_0) rfl rfl (q := 1) rfl ?_
  refine Go.iloadN X0.here hx (Jvm.hb hby d5_1) rfl (q := 2) rfl ?_
  refine Go.daload X0 hx hZ e0 R2 (Jvm.hb hby d5_2) (i := 2) (by decide) (by decide) rfl (q := 3) rfl ?_
  refine Go.aloadN X0.here hx (Jvm.hb hby d5_3) rfl rfl (q := 4) rfl ?_
  refine Go.iloadN X0.here hx (Jvm.hb hby d5_4) rfl (q := 5) rfl ?_
  refine Go.daload X0 hx hZ e0 R3 (Jvm.hb hby d5_5) (i := 2) (by decide) (by decide) rfl (q := 6) rfl ?_
  obtain ⟨u6, hu6⟩ : ∃ zq, cmpValue (FP.dcmp g2 r2) .l = zq := ⟨_, rfl⟩
  refine Go.dcmp X0.here hx (Jvm.hb hby d5_6) hu6 (q := 7) rfl ?_
  have hc7 : u6 = (0 : Int32) := by rw [← hu6]; exact e1 _
  refine Go.ifN X0.here hx (Jvm.hb hby d5_7) ((if0 _ _).trans (teq hc7).2) (q := 10) rfl ?_
  refine Go.iconst X0.here hx (Jvm.hb hby d5_10) (v := (1 : Int32)) rfl (q := 11) rfl ?_
  refine Go.goto X0.here hx (Jvm.hb hby d5_11) (by decide) (q := 15) rfl ?_
  refine Go.istore X0.here hx (Jvm.hb hby d5_15) (l2 := #[.val (.ref ak), .val (.ref ag), .val (.ref ar), .val (.int (2 : Int32)), .val (.int n), .val (.int (1 : Int32)), .unset]) rfl (q := 17) rfl ?_
  refine Go.iloadN X0.here hx (Jvm.hb hby d5_17) rfl (q := 18) rfl ?_
  refine Go.iload X0.here hx (Jvm.hb hby d5_18) rfl (q := 20) rfl ?_
  have hc20 : ¬ ((2 : Int32) < n) := hlt
  refine Go.icmpY X0.here hx (Jvm.hb hby d5_20) (flt hc20).2.1 (by decide) (q := 41) rfl ?_
  refine Go.aloadN X0.here hx (Jvm.hb hby d5_41) rfl rfl (q := 42) rfl ?_
  refine Go.iloadN X0.here hx (Jvm.hb hby d5_42) rfl (q := 43) rfl ?_
  refine Go.daload X0 hx hZ e0 R1 (Jvm.hb hby d5_43) (i := 2) (by decide) (by decide) rfl (q := 44) rfl ?_
  refine Go.ldc2D X0 hx hown (mvT hZ (word hw 1 rfl)) (Jvm.hb hby d5_44) (q := 47) rfl ?_
  obtain ⟨u47, hu47⟩ : ∃ zq, cmpValue (FP.dcmp c2 (4602678819172646912 : UInt64)) .l = zq := ⟨_, rfl⟩
  refine Go.dcmp X0.here hx (Jvm.hb hby d5_47) hu47 (q := 48) rfl ?_
  have hc48 : u47 = (0 : Int32) := by rw [← hu47]; exact e2 _
  refine Go.ifN X0.here hx (Jvm.hb hby d5_48) ((if0 _ _).trans (teq hc48).2) (q := 51) rfl ?_
  refine Go.iconst X0.here hx (Jvm.hb hby d5_51) (v := (1 : Int32)) rfl (q := 52) rfl ?_
  refine Go.goto X0.here hx (Jvm.hb hby d5_52) (by decide) (q := 56) rfl ?_
  refine Go.istore X0.here hx (Jvm.hb hby d5_56) (l2 := #[.val (.ref ak), .val (.ref ag), .val (.ref ar), .val (.int (2 : Int32)), .val (.int n), .val (.int (1 : Int32)), .val (.int (1 : Int32))]) rfl (q := 58) rfl ?_
  refine Go.iload X0.here hx (Jvm.hb hby d5_58) rfl (q := 60) rfl ?_
  have hc60_105 : ¬ ((1 : Int32) = (0 : Int32)) := by decide
  refine Go.ifN X0.here hx (Jvm.hb hby d5_60) ((if0 _ _).trans (feq hc60_105).1) (q := 63) rfl ?_
  refine Go.iload X0.here hx (Jvm.hb hby d5_63) rfl (q := 65) rfl ?_
  have hc65_107 : ¬ ((1 : Int32) = (0 : Int32)) := by decide
  refine Go.ifN X0.here hx (Jvm.hb hby d5_65) ((if0 _ _).trans (feq hc65_107).1) (q := 68) rfl ?_
  refine Go.iconst X0.here hx (Jvm.hb hby d5_68) (v := (1 : Int32)) rfl (q := 69) rfl ?_
  refine Go.goto X0.here hx (Jvm.hb hby d5_69) (by decide) (q := 73) rfl ?_
  refine Go.retZ X0 hx hret hlk (Jvm.hb hby d5_73) (Or.inr rfl) (by decide) (by decide) ?_
  exact ⟨rfl, N0, e0⟩
set_option maxRecDepth 65536 in
set_option maxHeartbeats 40000000 in
theorem rm_slot3a (l : Launch) (Z : State) (a0 : Array Value) (hw : ∀ d ∈ tables_1, d.before a0 Z = true) (ak : Addr) (ag : Addr) (ar : Addr) (kk : ClassId) (kg : ClassId) (kr : ClassId) (n : Int32) (c0 : UInt64) (c1 : UInt64) (c2 : UInt64) (c3 : UInt64) (c4 : UInt64) (g0 : UInt64) (g1 : UInt64) (g2 : UInt64) (g3 : UInt64) (g4 : UInt64) (r0 : UInt64) (r1 : UInt64) (r2 : UInt64) (r3 : UInt64) (r4 : UInt64) (h0 : Heap) (n0 : Nat) (Z0 : n0 ≤ h0.size) (R1 : Row Z h0 ak .double kk [(.double c0), (.double c1), (.double c2), (.double c3), (.double c4)]) (R2 : Row Z h0 ag .double kg [(.double g0), (.double g1), (.double g2), (.double g3), (.double g4)]) (R3 : Row Z h0 ar .double kr [(.double r0), (.double r1), (.double r2), (.double r3), (.double r4)]) (hlt : (3 : Int32) < n) (e1 : ∀ o, cmpValue (FP.dcmp g3 r3) o = 0) (e2 : ∀ o, cmpValue (FP.dcmp c3 r3) o = 0) :
    Con l Z (⟨"com/example/ratewright/ratewright/inference/GradientCorrectionApplyPinLaw", "slot", "([D[D[DII)Z"⟩ : MethodName) method_2_code 7 (some .boolean) ({ frames := 0, cells := 0, slots := 0, locals := 0 } : Room) #[(.ref ak), (.ref ag), (.ref ar), (.int (3 : Int32)), (.int n)] h0 (fun vR hR LR => vR = some (.int (1 : Int32)) ∧ Fr n0 LR ∧ hR = h0) := by
  refine enter (l := l) (Z := Z) (y := (⟨"com/example/ratewright/ratewright/inference/GradientCorrectionApplyPinLaw", "slot", "([D[D[DII)Z"⟩ : MethodName)) (bytes := method_2_code) (maxL := 7) (ret := (some .boolean)) (ws := []) (rm := ({ frames := 0, cells := 0, slots := 0, locals := 0 } : Room)) (as' := #[(.ref ak), (.ref ag), (.ref ar), (.int (3 : Int32)), (.int n)]) (h0 := h0) (Qv := (fun vR hR LR => vR = some (.int (1 : Int32)) ∧ Fr n0 LR ∧ hR = h0)) (kc := 0) (ks := 0) (by first | exact plainFor_of_name (by first | (simp [plainName, overriddenIn]; done) | decide +kernel) | decide +kernel) (Ls := #[.val (.ref ak), .val (.ref ag), .val (.ref ar), .val (.int (3 : Int32)), .val (.int n), .unset, .unset]) (fun m => by first | (simp [entryFrame, mkF, argsToLocals, Value.category]; done) | rfl) ?_
  intro p e s m below meth c s₁ hx hby hml hown hnm hret hlk hZ X0 e0
  have hown : s.vm.findClass "com/example/ratewright/ratewright/inference/GradientCorrectionApplyPinLaw" = some m.cls := hown
  have hml : c.maxLocals = 7 := hml
  have N0 := Fr.nil n0
  refine Go.aloadN X0.here hx (Jvm.hb hby d5_0) rfl rfl (q := 1) rfl ?_
  refine Go.iloadN X0.here hx (Jvm.hb hby d5_1) rfl (q := 2) rfl ?_
  refine Go.daload X0 hx hZ e0 R2 (Jvm.hb hby d5_2) (i := 3) (by decide) (by decide) rfl (q := 3) rfl ?_
  refine Go.aloadN X0.here hx (Jvm.hb hby d5_3) rfl rfl (q := 4) rfl ?_
  refine Go.iloadN X0.here hx (Jvm.hb hby d5_4) rfl (q := 5) rfl ?_
  refine Go.daload X0 hx hZ e0 R3 (Jvm.hb hby d5_5) (i := 3) (by decide) (by decide) rfl (q := 6) rfl ?_
  obtain ⟨u6, hu6⟩ : ∃ zq, cmpValue (FP.dcmp g3 r3) .l = zq := ⟨_, rfl⟩
  refine Go.dcmp X0.here hx (Jvm.hb hby d5_6) hu6 (q := 7) rfl ?_
  have hc7 : u6 = (0 : Int32) := by rw [← hu6]; exact e1 _
  refine Go.ifN X0.here hx (Jvm.hb hby d5_7) ((if0 _ _).trans (teq hc7).2) (q := 10) rfl ?_
  refine Go.iconst X0.here hx (Jvm.hb hby d5_10) (v := (1 : Int32)) rfl (q := 11) rfl ?_
  refine Go.goto X0.here hx (Jvm.hb hby d5_11) (by decide) (q := 15) rfl ?_
  refine Go.istore X0.here hx (Jvm.hb hby d5_15) (l2 := #[.val (.ref ak), .val (.ref ag), .val (.ref ar), .val (.int (3 : Int32)), .val (.int n), .val (.int (1 : Int32)), .unset]) rfl (q := 17) rfl ?_
  refine Go.iloadN X0.here hx (Jvm.hb hby d5_17) rfl (q := 18) rfl ?_
  refine Go.iload X0.here hx (Jvm.hb hby d5_18) rfl (q := 20) rfl ?_
  have hc20 : (3 : Int32) < n := hlt
  refine Go.icmpN X0.here hx (Jvm.hb hby d5_20) (tlt hc20).2.1 (q := 23) rfl ?_
  refine Go.aloadN X0.here hx (Jvm.hb hby d5_23) rfl rfl (q := 24) rfl ?_
  refine Go.iloadN X0.here hx (Jvm.hb hby d5_24) rfl (q := 25) rfl ?_
  refine Go.daload X0 hx hZ e0 R1 (Jvm.hb hby d5_25) (i := 3) (by decide) (by decide) rfl (q := 26) rfl ?_
  refine Go.aloadN X0.here hx (Jvm.hb hby d5_26) rfl rfl (q := 27) rfl ?_
  refine Go.iloadN X0.here hx (Jvm.hb hby d5_27) rfl (q := 28) rfl ?_
  refine Go.daload X0 hx hZ e0 R3 (Jvm.hb hby d5_28) (i := 3) (by decide) (by decide) rfl (q := 29) rfl ?_
  obtain ⟨u29, hu29⟩ : ∃ zq, cmpValue (FP.dcmp c3 r3) .l = zq := ⟨_, rfl⟩
  refine Go.dcmp X0.here hx (Jvm.hb hby d5_29) hu29 (q := 30) rfl ?_
  have hc30 : u29 = (0 : Int32) := by rw [← hu29]; exact e2 _
  refine Go.ifN X0.here hx (Jvm.hb hby d5_30) ((if0 _ _).trans (teq hc30).2) (q := 33) rfl ?_
  refine Go.iconst X0.here hx (Jvm.hb hby d5_33) (v := (1 : Int32)) rfl (q := 34) rfl ?_
  refine Go.goto X0.here hx (Jvm.hb hby d5_34) (by decide) (q := 56) rfl ?_
  refine Go.istore X0.here hx (Jvm.hb hby d5_56) (l2 := #[.val (.ref ak), .val (.ref ag), .val (.ref ar), .val (.int (3 : Int32)), .val (.int n), .val (.int (1 : Int32)), .val (.int (1 : Int32))]) rfl (q := 58) rfl ?_
  refine Go.iload X0.here hx (Jvm.hb hby d5_58) rfl (q := 60) rfl ?_
  have hc60_105 : ¬ ((1 : Int32) = (0 : Int32)) := by decide
  refine Go.ifN X0.here hx (Jvm.hb hby d5_60) ((if0 _ _).trans (feq hc60_105).1) (q := 63) rfl ?_
  refine Go.iload X0.here hx (Jvm.hb hby d5_63) rfl (q := 65) rfl ?_
  have hc65_107 : ¬ ((1 : Int32) = (0 : Int32)) := by decide
  refine Go.ifN X0.here hx (Jvm.hb hby d5_65) ((if0 _ _).trans (feq hc65_107).1) (q := 68) rfl ?_
  refine Go.iconst X0.here hx (Jvm.hb hby d5_68) (v := (1 : Int32)) rfl (q := 69) rfl ?_
  refine Go.goto X0.here hx (Jvm.hb hby d5_69) (by decide) (q := 73) rfl ?_
  refine Go.retZ X0 hx hret hlk (Jvm.hb hby d5_73) (Or.inr rfl) (by decide) (by decide) ?_
  exact ⟨rfl, N0, e0⟩
set_option maxRecDepth 65536 in
set_option maxHeartbeats 40000000 in
theorem rm_slot3b (l : Launch) (Z : State) (a0 : Array Value) (hw : ∀ d ∈ tables_1, d.before a0 Z = true) (ak : Addr) (ag : Addr) (ar : Addr) (kk : ClassId) (kg : ClassId) (kr : ClassId) (n : Int32) (c0 : UInt64) (c1 : UInt64) (c2 : UInt64) (c3 : UInt64) (c4 : UInt64) (g0 : UInt64) (g1 : UInt64) (g2 : UInt64) (g3 : UInt64) (g4 : UInt64) (r0 : UInt64) (r1 : UInt64) (r2 : UInt64) (r3 : UInt64) (r4 : UInt64) (h0 : Heap) (n0 : Nat) (Z0 : n0 ≤ h0.size) (R1 : Row Z h0 ak .double kk [(.double c0), (.double c1), (.double c2), (.double c3), (.double c4)]) (R2 : Row Z h0 ag .double kg [(.double g0), (.double g1), (.double g2), (.double g3), (.double g4)]) (R3 : Row Z h0 ar .double kr [(.double r0), (.double r1), (.double r2), (.double r3), (.double r4)]) (hlt : ¬ (3 : Int32) < n) (e1 : ∀ o, cmpValue (FP.dcmp g3 r3) o = 0) (e2 : ∀ o, cmpValue (FP.dcmp c3 4602678819172646912) o = 0) :
    Con l Z (⟨"com/example/ratewright/ratewright/inference/GradientCorrectionApplyPinLaw", "slot", "([D[D[DII)Z"⟩ : MethodName) method_2_code 7 (some .boolean) ({ frames := 0, cells := 0, slots := 0, locals := 0 } : Room) #[(.ref ak), (.ref ag), (.ref ar), (.int (3 : Int32)), (.int n)] h0 (fun vR hR LR => vR = some (.int (1 : Int32)) ∧ Fr n0 LR ∧ hR = h0) := by
  refine enter (l := l) (Z := Z) (y := (⟨"com/example/ratewright/ratewright/inference/GradientCorrectionApplyPinLaw", "slot", "([D[D[DII)Z"⟩ : MethodName)) (bytes := method_2_code) (maxL := 7) (ret := (some .boolean)) (ws := []) (rm := ({ frames := 0, cells := 0, slots := 0, locals := 0 } : Room)) (as' := #[(.ref ak), (.ref ag), (.ref ar), (.int (3 : Int32)), (.int n)]) (h0 := h0) (Qv := (fun vR hR LR => vR = some (.int (1 : Int32)) ∧ Fr n0 LR ∧ hR = h0)) (kc := 0) (ks := 0) (by first | exact plainFor_of_name (by first | (simp [plainName, overriddenIn]; done) | decide +kernel) | decide +kernel) (Ls := #[.val (.ref ak), .val (.ref ag), .val (.ref ar), .val (.int (3 : Int32)), .val (.int n), .unset, .unset]) (fun m => by first | (simp [entryFrame, mkF, argsToLocals, Value.category]; done) | rfl) ?_
  intro p e s m below meth c s₁ hx hby hml hown hnm hret hlk hZ X0 e0
  have hown : s.vm.findClass "com/example/ratewright/ratewright/inference/GradientCorrectionApplyPinLaw" = some m.cls := hown
  have hml : c.maxLocals = 7 := hml
  have N0 := Fr.nil n0
  refine Go.aloadN X0.here hx (Jvm.hb hby d5_0) rfl rfl (q := 1) rfl ?_
  refine Go.iloadN X0.here hx (Jvm.hb hby d5_1) rfl (q := 2) rfl ?_
  refine Go.daload X0 hx hZ e0 R2 (Jvm.hb hby d5_2) (i := 3) (by decide) (by decide) rfl (q := 3) rfl ?_
  refine Go.aloadN X0.here hx (Jvm.hb hby d5_3) rfl rfl (q := 4) rfl ?_
  refine Go.iloadN X0.here hx (Jvm.hb hby d5_4) rfl (q := 5) rfl ?_
  refine Go.daload X0 hx hZ e0 R3 (Jvm.hb hby d5_5) (i := 3) (by decide) (by decide) rfl (q := 6) rfl ?_
  obtain ⟨u6, hu6⟩ : ∃ zq, cmpValue (FP.dcmp g3 r3) .l = zq := ⟨_, rfl⟩
  refine Go.dcmp X0.here hx (Jvm.hb hby d5_6) hu6 (q := 7) rfl ?_
  have hc7 : u6 = (0 : Int32) := by rw [← hu6]; exact e1 _
  refine Go.ifN X0.here hx (Jvm.hb hby d5_7) ((if0 _ _).trans (teq hc7).2) (q := 10) rfl ?_
  refine Go.iconst X0.here hx (Jvm.hb hby d5_10) (v := (1 : Int32)) rfl (q := 11) rfl ?_
  refine Go.goto X0.here hx (Jvm.hb hby d5_11) (by decide) (q := 15) rfl ?_
  refine Go.istore X0.here hx (Jvm.hb hby d5_15) (l2 := #[.val (.ref ak), .val (.ref ag), .val (.ref ar), .val (.int (3 : Int32)), .val (.int n), .val (.int (1 : Int32)), .unset]) rfl (q := 17) rfl ?_
  refine Go.iloadN X0.here hx (Jvm.hb hby d5_17) rfl (q := 18) rfl ?_
  refine Go.iload X0.here hx (Jvm.hb hby d5_18) rfl (q := 20) rfl ?_
  have hc20 : ¬ ((3 : Int32) < n) := hlt
  refine Go.icmpY X0.here hx (Jvm.hb hby d5_20) (flt hc20).2.1 (by decide) (q := 41) rfl ?_
  refine Go.aloadN X0.here hx (Jvm.hb hby d5_41) rfl rfl (q := 42) rfl ?_
  refine Go.iloadN X0.here hx (Jvm.hb hby d5_42) rfl (q := 43) rfl ?_
  refine Go.daload X0 hx hZ e0 R1 (Jvm.hb hby d5_43) (i := 3) (by decide) (by decide) rfl (q := 44) rfl ?_
  refine Go.ldc2D X0 hx hown (mvT hZ (word hw 1 rfl)) (Jvm.hb hby d5_44) (q := 47) rfl ?_
  obtain ⟨u47, hu47⟩ : ∃ zq, cmpValue (FP.dcmp c3 (4602678819172646912 : UInt64)) .l = zq := ⟨_, rfl⟩
  refine Go.dcmp X0.here hx (Jvm.hb hby d5_47) hu47 (q := 48) rfl ?_
  have hc48 : u47 = (0 : Int32) := by rw [← hu47]; exact e2 _
  refine Go.ifN X0.here hx (Jvm.hb hby d5_48) ((if0 _ _).trans (teq hc48).2) (q := 51) rfl ?_
  refine Go.iconst X0.here hx (Jvm.hb hby d5_51) (v := (1 : Int32)) rfl (q := 52) rfl ?_
  refine Go.goto X0.here hx (Jvm.hb hby d5_52) (by decide) (q := 56) rfl ?_
  refine Go.istore X0.here hx (Jvm.hb hby d5_56) (l2 := #[.val (.ref ak), .val (.ref ag), .val (.ref ar), .val (.int (3 : Int32)), .val (.int n), .val (.int (1 : Int32)), .val (.int (1 : Int32))]) rfl (q := 58) rfl ?_
  refine Go.iload X0.here hx (Jvm.hb hby d5_58) rfl (q := 60) rfl ?_
  have hc60_105 : ¬ ((1 : Int32) = (0 : Int32)) := by decide
  refine Go.ifN X0.here hx (Jvm.hb hby d5_60) ((if0 _ _).trans (feq hc60_105).1) (q := 63) rfl ?_
  refine Go.iload X0.here hx (Jvm.hb hby d5_63) rfl (q := 65) rfl ?_
  have hc65_107 : ¬ ((1 : Int32) = (0 : Int32)) := by decide
  refine Go.ifN X0.here hx (Jvm.hb hby d5_65) ((if0 _ _).trans (feq hc65_107).1) (q := 68) rfl ?_
  refine Go.iconst X0.here hx (Jvm.hb hby d5_68) (v := (1 : Int32)) rfl (q := 69) rfl ?_
  refine Go.goto X0.here hx (Jvm.hb hby d5_69) (by decide) (q := 73) rfl ?_
  refine Go.retZ X0 hx hret hlk (Jvm.hb hby d5_73) (Or.inr rfl) (by decide) (by decide) ?_
  exact ⟨rfl, N0, e0⟩
set_option maxRecDepth 65536 in
set_option maxHeartbeats 40000000 in
theorem rm_slot4a (l : Launch) (Z : State) (a0 : Array Value) (hw : ∀ d ∈ tables_1, d.before a0 Z = true) (ak : Addr) (ag : Addr) (ar : Addr) (kk : ClassId) (kg : ClassId) (kr : ClassId) (n : Int32) (c0 : UInt64) (c1 : UInt64) (c2 : UInt64) (c3 : UInt64) (c4 : UInt64) (g0 : UInt64) (g1 : UInt64) (g2 : UInt64) (g3 : UInt64) (g4 : UInt64) (r0 : UInt64) (r1 : UInt64) (r2 : UInt64) (r3 : UInt64) (r4 : UInt64) (h0 : Heap) (n0 : Nat) (Z0 : n0 ≤ h0.size) (R1 : Row Z h0 ak .double kk [(.double c0), (.double c1), (.double c2), (.double c3), (.double c4)]) (R2 : Row Z h0 ag .double kg [(.double g0), (.double g1), (.double g2), (.double g3), (.double g4)]) (R3 : Row Z h0 ar .double kr [(.double r0), (.double r1), (.double r2), (.double r3), (.double r4)]) (hlt : (4 : Int32) < n) (e1 : ∀ o, cmpValue (FP.dcmp g4 r4) o = 0) (e2 : ∀ o, cmpValue (FP.dcmp c4 r4) o = 0) :
    Con l Z (⟨"com/example/ratewright/ratewright/inference/GradientCorrectionApplyPinLaw", "slot", "([D[D[DII)Z"⟩ : MethodName) method_2_code 7 (some .boolean) ({ frames := 0, cells := 0, slots := 0, locals := 0 } : Room) #[(.ref ak), (.ref ag), (.ref ar), (.int (4 : Int32)), (.int n)] h0 (fun vR hR LR => vR = some (.int (1 : Int32)) ∧ Fr n0 LR ∧ hR = h0) := by
  refine enter (l := l) (Z := Z) (y := (⟨"com/example/ratewright/ratewright/inference/GradientCorrectionApplyPinLaw", "slot", "([D[D[DII)Z"⟩ : MethodName)) (bytes := method_2_code) (maxL := 7) (ret := (some .boolean)) (ws := []) (rm := ({ frames := 0, cells := 0, slots := 0, locals := 0 } : Room)) (as' := #[(.ref ak), (.ref ag), (.ref ar), (.int (4 : Int32)), (.int n)]) (h0 := h0) (Qv := (fun vR hR LR => vR = some (.int (1 : Int32)) ∧ Fr n0 LR ∧ hR = h0)) (kc := 0) (ks := 0) (by first | exact plainFor_of_name (by first | (simp [plainName, overriddenIn]; done) | decide +kernel) | decide +kernel) (Ls := #[.val (.ref ak), .val (.ref ag), .val (.ref ar), .val (.int (4 : Int32)), .val (.int n), .unset, .unset]) (fun m => by first | (simp [entryFrame, mkF, argsToLocals, Value.category]; done) | rfl) ?_
  intro p e s m below meth c s₁ hx hby hml hown hnm hret hlk hZ X0 e0
  have hown : s.vm.findClass "com/example/ratewright/ratewright/inference/GradientCorrectionApplyPinLaw" = some m.cls := hown
  have hml : c.maxLocals = 7 := hml
  have N0 := Fr.nil n0
  refine Go.aloadN X0.here hx (Jvm.hb hby d5_0) rfl rfl (q := 1) rfl ?_
  refine Go.iloadN X0.here hx (Jvm.hb hby d5_1) rfl (q := 2) rfl ?_
  refine Go.daload X0 hx hZ e0 R2 (Jvm.hb hby d5_2) (i := 4) (by decide) (by decide) rfl (q := 3) rfl ?_
  refine Go.aloadN X0.here hx (Jvm.hb hby d5_3) rfl rfl (q := 4) rfl ?_
  refine Go.iloadN X0.here hx (Jvm.hb hby d5_4) rfl (q := 5) rfl ?_
  refine Go.daload X0 hx hZ e0 R3 (Jvm.hb hby d5_5) (i := 4) (by decide) (by decide) rfl (q := 6) rfl ?_
  obtain ⟨u6, hu6⟩ : ∃ zq, cmpValue (FP.dcmp g4 r4) .l = zq := ⟨_, rfl⟩
  refine Go.dcmp X0.here hx (Jvm.hb hby d5_6) hu6 (q := 7) rfl ?_
  have hc7 : u6 = (0 : Int32) := by rw [← hu6]; exact e1 _
  refine Go.ifN X0.here hx (Jvm.hb hby d5_7) ((if0 _ _).trans (teq hc7).2) (q := 10) rfl ?_
  refine Go.iconst X0.here hx (Jvm.hb hby d5_10) (v := (1 : Int32)) rfl (q := 11) rfl ?_
  refine Go.goto X0.here hx (Jvm.hb hby d5_11) (by decide) (q := 15) rfl ?_
  refine Go.istore X0.here hx (Jvm.hb hby d5_15) (l2 := #[.val (.ref ak), .val (.ref ag), .val (.ref ar), .val (.int (4 : Int32)), .val (.int n), .val (.int (1 : Int32)), .unset]) rfl (q := 17) rfl ?_
  refine Go.iloadN X0.here hx (Jvm.hb hby d5_17) rfl (q := 18) rfl ?_
  refine Go.iload X0.here hx (Jvm.hb hby d5_18) rfl (q := 20) rfl ?_
  have hc20 : (4 : Int32) < n := hlt
  refine Go.icmpN X0.here hx (Jvm.hb hby d5_20) (tlt hc20).2.1 (q := 23) rfl ?_
  refine Go.aloadN X0.here hx (Jvm.hb hby d5_23) rfl rfl (q := 24) rfl ?_
  refine Go.iloadN X0.here hx (Jvm.hb hby d5_24) rfl (q := 25) rfl ?_
  refine Go.daload X0 hx hZ e0 R1 (Jvm.hb hby d5_25) (i := 4) (by decide) (by decide) rfl (q := 26) rfl ?_
  refine Go.aloadN X0.here hx (Jvm.hb hby d5_26) rfl rfl (q := 27) rfl ?_
  refine Go.iloadN X0.here hx (Jvm.hb hby d5_27) rfl (q := 28) rfl ?_
  refine Go.daload X0 hx hZ e0 R3 (Jvm.hb hby d5_28) (i := 4) (by decide) (by decide) rfl (q := 29) rfl ?_
  obtain ⟨u29, hu29⟩ : ∃ zq, cmpValue (FP.dcmp c4 r4) .l = zq := ⟨_, rfl⟩
  refine Go.dcmp X0.here hx (Jvm.hb hby d5_29) hu29 (q := 30) rfl ?_
  have hc30 : u29 = (0 : Int32) := by rw [← hu29]; exact e2 _
  refine Go.ifN X0.here hx (Jvm.hb hby d5_30) ((if0 _ _).trans (teq hc30).2) (q := 33) rfl ?_
  refine Go.iconst X0.here hx (Jvm.hb hby d5_33) (v := (1 : Int32)) rfl (q := 34) rfl ?_
  refine Go.goto X0.here hx (Jvm.hb hby d5_34) (by decide) (q := 56) rfl ?_
  refine Go.istore X0.here hx (Jvm.hb hby d5_56) (l2 := #[.val (.ref ak), .val (.ref ag), .val (.ref ar), .val (.int (4 : Int32)), .val (.int n), .val (.int (1 : Int32)), .val (.int (1 : Int32))]) rfl (q := 58) rfl ?_
  refine Go.iload X0.here hx (Jvm.hb hby d5_58) rfl (q := 60) rfl ?_
  have hc60_105 : ¬ ((1 : Int32) = (0 : Int32)) := by decide
  refine Go.ifN X0.here hx (Jvm.hb hby d5_60) ((if0 _ _).trans (feq hc60_105).1) (q := 63) rfl ?_
  refine Go.iload X0.here hx (Jvm.hb hby d5_63) rfl (q := 65) rfl ?_
  have hc65_107 : ¬ ((1 : Int32) = (0 : Int32)) := by decide
  refine Go.ifN X0.here hx (Jvm.hb hby d5_65) ((if0 _ _).trans (feq hc65_107).1) (q := 68) rfl ?_
  refine Go.iconst X0.here hx (Jvm.hb hby d5_68) (v := (1 : Int32)) rfl (q := 69) rfl ?_
  refine Go.goto X0.here hx (Jvm.hb hby d5_69) (by decide) (q := 73) rfl ?_
  refine Go.retZ X0 hx hret hlk (Jvm.hb hby d5_73) (Or.inr rfl) (by decide) (by decide) ?_
  exact ⟨rfl, N0, e0⟩
set_option maxRecDepth 65536 in
set_option maxHeartbeats 40000000 in
theorem rm_slot4b (l : Launch) (Z : State) (a0 : Array Value) (hw : ∀ d ∈ tables_1, d.before a0 Z = true) (ak : Addr) (ag : Addr) (ar : Addr) (kk : ClassId) (kg : ClassId) (kr : ClassId) (n : Int32) (c0 : UInt64) (c1 : UInt64) (c2 : UInt64) (c3 : UInt64) (c4 : UInt64) (g0 : UInt64) (g1 : UInt64) (g2 : UInt64) (g3 : UInt64) (g4 : UInt64) (r0 : UInt64) (r1 : UInt64) (r2 : UInt64) (r3 : UInt64) (r4 : UInt64) (h0 : Heap) (n0 : Nat) (Z0 : n0 ≤ h0.size) (R1 : Row Z h0 ak .double kk [(.double c0), (.double c1), (.double c2), (.double c3), (.double c4)]) (R2 : Row Z h0 ag .double kg [(.double g0), (.double g1), (.double g2), (.double g3), (.double g4)]) (R3 : Row Z h0 ar .double kr [(.double r0), (.double r1), (.double r2), (.double r3), (.double r4)]) (hlt : ¬ (4 : Int32) < n) (e1 : ∀ o, cmpValue (FP.dcmp g4 r4) o = 0) (e2 : ∀ o, cmpValue (FP.dcmp c4 4602678819172646912) o = 0) :
    Con l Z (⟨"com/example/ratewright/ratewright/inference/GradientCorrectionApplyPinLaw", "slot", "([D[D[DII)Z"⟩ : MethodName) method_2_code 7 (some .boolean) ({ frames := 0, cells := 0, slots := 0, locals := 0 } : Room) #[(.ref ak), (.ref ag), (.ref ar), (.int (4 : Int32)), (.int n)] h0 (fun vR hR LR => vR = some (.int (1 : Int32)) ∧ Fr n0 LR ∧ hR = h0) := by
  refine enter (l := l) (Z := Z) (y := (⟨"com/example/ratewright/ratewright/inference/GradientCorrectionApplyPinLaw", "slot", "([D[D[DII)Z"⟩ : MethodName)) (bytes := method_2_code) (maxL := 7) (ret := (some .boolean)) (ws := []) (rm := ({ frames := 0, cells := 0, slots := 0, locals := 0 } : Room)) (as' := #[(.ref ak), (.ref ag), (.ref ar), (.int (4 : Int32)), (.int n)]) (h0 := h0) (Qv := (fun vR hR LR => vR = some (.int (1 : Int32)) ∧ Fr n0 LR ∧ hR = h0)) (kc := 0) (ks := 0) (by first | exact plainFor_of_name (by first | (simp [plainName, overriddenIn]; done) | decide +kernel) | decide +kernel) (Ls := #[.val (.ref ak), .val (.ref ag), .val (.ref ar), .val (.int (4 : Int32)), .val (.int n), .unset, .unset]) (fun m => by first | (simp [entryFrame, mkF, argsToLocals, Value.category]; done) | rfl) ?_
  intro p e s m below meth c s₁ hx hby hml hown hnm hret hlk hZ X0 e0
  have hown : s.vm.findClass "com/example/ratewright/ratewright/inference/GradientCorrectionApplyPinLaw" = some m.cls := hown
  have hml : c.maxLocals = 7 := hml
  have N0 := Fr.nil n0
  refine Go.aloadN X0.here hx (Jvm.hb hby d5_0) rfl rfl (q := 1) rfl ?_
  refine Go.iloadN X0.here hx (Jvm.hb hby d5_1) rfl (q := 2) rfl ?_
  refine Go.daload X0 hx hZ e0 R2 (Jvm.hb hby d5_2) (i := 4) (by decide) (by decide) rfl (q := 3) rfl ?_
  refine Go.aloadN X0.here hx (Jvm.hb hby d5_3) rfl rfl (q := 4) rfl ?_
  refine Go.iloadN X0.here hx (Jvm.hb hby d5_4) rfl (q := 5) rfl ?_
  refine Go.daload X0 hx hZ e0 R3 (Jvm.hb hby d5_5) (i := 4) (by decide) (by decide) rfl (q := 6) rfl ?_
  obtain ⟨u6, hu6⟩ : ∃ zq, cmpValue (FP.dcmp g4 r4) .l = zq := ⟨_, rfl⟩
  refine Go.dcmp X0.here hx (Jvm.hb hby d5_6) hu6 (q := 7) rfl ?_
  have hc7 : u6 = (0 : Int32) := by rw [← hu6]; exact e1 _
  refine Go.ifN X0.here hx (Jvm.hb hby d5_7) ((if0 _ _).trans (teq hc7).2) (q := 10) rfl ?_
  refine Go.iconst X0.here hx (Jvm.hb hby d5_10) (v := (1 : Int32)) rfl (q := 11) rfl ?_
  refine Go.goto X0.here hx (Jvm.hb hby d5_11) (by decide) (q := 15) rfl ?_
  refine Go.istore X0.here hx (Jvm.hb hby d5_15) (l2 := #[.val (.ref ak), .val (.ref ag), .val (.ref ar), .val (.int (4 : Int32)), .val (.int n), .val (.int (1 : Int32)), .unset]) rfl (q := 17) rfl ?_
  refine Go.iloadN X0.here hx (Jvm.hb hby d5_17) rfl (q := 18) rfl ?_
  refine Go.iload X0.here hx (Jvm.hb hby d5_18) rfl (q := 20) rfl ?_
  have hc20 : ¬ ((4 : Int32) < n) := hlt
  refine Go.icmpY X0.here hx (Jvm.hb hby d5_20) (flt hc20).2.1 (by decide) (q := 41) rfl ?_
  refine Go.aloadN X0.here hx (Jvm.hb hby d5_41) rfl rfl (q := 42) rfl ?_
  refine Go.iloadN X0.here hx (Jvm.hb hby d5_42) rfl (q := 43) rfl ?_
  refine Go.daload X0 hx hZ e0 R1 (Jvm.hb hby d5_43) (i := 4) (by decide) (by decide) rfl (q := 44) rfl ?_
  refine Go.ldc2D X0 hx hown (mvT hZ (word hw 1 rfl)) (Jvm.hb hby d5_44) (q := 47) rfl ?_
  obtain ⟨u47, hu47⟩ : ∃ zq, cmpValue (FP.dcmp c4 (4602678819172646912 : UInt64)) .l = zq := ⟨_, rfl⟩
  refine Go.dcmp X0.here hx (Jvm.hb hby d5_47) hu47 (q := 48) rfl ?_
  have hc48 : u47 = (0 : Int32) := by rw [← hu47]; exact e2 _
  refine Go.ifN X0.here hx (Jvm.hb hby d5_48) ((if0 _ _).trans (teq hc48).2) (q := 51) rfl ?_
  refine Go.iconst X0.here hx (Jvm.hb hby d5_51) (v := (1 : Int32)) rfl (q := 52) rfl ?_
  refine Go.goto X0.here hx (Jvm.hb hby d5_52) (by decide) (q := 56) rfl ?_
  refine Go.istore X0.here hx (Jvm.hb hby d5_56) (l2 := #[.val (.ref ak), .val (.ref ag), .val (.ref ar), .val (.int (4 : Int32)), .val (.int n), .val (.int (1 : Int32)), .val (.int (1 : Int32))]) rfl (q := 58) rfl ?_
  refine Go.iload X0.here hx (Jvm.hb hby d5_58) rfl (q := 60) rfl ?_
  have hc60_105 : ¬ ((1 : Int32) = (0 : Int32)) := by decide
  refine Go.ifN X0.here hx (Jvm.hb hby d5_60) ((if0 _ _).trans (feq hc60_105).1) (q := 63) rfl ?_
  refine Go.iload X0.here hx (Jvm.hb hby d5_63) rfl (q := 65) rfl ?_
  have hc65_107 : ¬ ((1 : Int32) = (0 : Int32)) := by decide
  refine Go.ifN X0.here hx (Jvm.hb hby d5_65) ((if0 _ _).trans (feq hc65_107).1) (q := 68) rfl ?_
  refine Go.iconst X0.here hx (Jvm.hb hby d5_68) (v := (1 : Int32)) rfl (q := 69) rfl ?_
  refine Go.goto X0.here hx (Jvm.hb hby d5_69) (by decide) (q := 73) rfl ?_
  refine Go.retZ X0 hx hret hlk (Jvm.hb hby d5_73) (Or.inr rfl) (by decide) (by decide) ?_
  exact ⟨rfl, N0, e0⟩
set_option maxRecDepth 65536 in
set_option maxHeartbeats 40000000 in
theorem rm_law (l : Launch) (Z : State) (a0 : Array Value) (hw : ∀ d ∈ tables_1, d.before a0 Z = true) (ws : List Jvm.Cond) (q1 : Int32) (q2 : Int32) (q3 : Int32) (q4 : Int32) (q5 : Int32) (q6 : Int32) (h0 : Heap) (n0 : Nat) (Z0 : n0 ≤ h0.size)  :
    MetFree l x (head1 (Jvm.Cond.code x code maxLocals ret :: ws) room_1) (fun a U => a = #[(.int q1), (.int q2), (.int q3), (.int q4), (.int q5), (.int q6)] ∧ Z.Warmed39 U.vm ∧ U.heap = h0) (fun _ _ _ _ _ => True) (fun _ U o U' => ∃ v L, o = .returned v ∧ (fun vR hR LR => vR = some (.int (1 : Int32)) ∧ Fr n0 LR) v U'.heap L ∧ FrameEnd U o U' L 48 4928) := by
  refine enter (l := l) (Z := Z) (y := x) (bytes := code) (maxL := maxLocals) (ret := ret) (ws := ws) (rm := room_1) (as' := #[(.int q1), (.int q2), (.int q3), (.int q4), (.int q5), (.int q6)]) (h0 := h0) (Qv := (fun vR hR LR => vR = some (.int (1 : Int32)) ∧ Fr n0 LR)) (kc := 48) (ks := 4928) (by first | exact plainFor_of_name (by first | (simp [plainName, overriddenIn]; done) | decide +kernel) | decide +kernel) (Ls := #[.val (.int q1), .val (.int q2), .val (.int q3), .val (.int q4), .val (.int q5), .val (.int q6), .unset, .unset, .unset, .unset, .unset, .unset, .unset]) (fun m => by first | (simp [entryFrame, mkF, argsToLocals, Value.category, maxLocals]; done) | rfl) ?_
  intro p e s m below meth c s₁ hx hby hml hown hnm hret hlk hZ X0 e0
  have hown : s.vm.findClass "com/example/ratewright/ratewright/inference/GradientCorrectionApplyPinLaw" = some m.cls := hown
  have hml : c.maxLocals = 13 := hml
  have N0 := Fr.nil n0
  refine Go.iloadN X0.here hx (Jvm.hb hby at_0) rfl (q := 1) rfl ?_
  refine Go.bipush X0.here hx (Jvm.hb hby at_1) (v := (7 : Int32)) rfl (q := 3) rfl ?_
  obtain ⟨u3, hu3⟩ : ∃ zq, q1 &&& (7 : Int32) = zq := ⟨_, rfl⟩
  refine Go.iand X0.here hx (Jvm.hb hby at_3) hu3 (q := 4) rfl ?_
  refine Go.iconst X0.here hx (Jvm.hb hby at_4) (v := (5 : Int32)) rfl (q := 5) rfl ?_
  obtain ⟨u5, hu5⟩ : ∃ zq, u3 - (u3 / (5 : Int32)) * (5 : Int32) = zq := ⟨_, rfl⟩
  refine Go.irem X0.here hx (Jvm.hb hby at_5) (by decide) hu5 (q := 6) rfl ?_
  rcases own_dim hu3 hu5 with rfl | rfl | rfl | rfl | rfl
  · -- u5 = 0
    refine Go.istore X0.here hx (Jvm.hb hby at_6) (l2 := #[.val (.int q1), .val (.int q2), .val (.int q3), .val (.int q4), .val (.int q5), .val (.int q6), .val (.int (0 : Int32)), .unset, .unset, .unset, .unset, .unset, .unset]) rfl (q := 8) rfl ?_
    refine Go.iloadN X0.here hx (Jvm.hb hby at_8) rfl (q := 9) rfl ?_
    refine Go.iconst X0.here hx (Jvm.hb hby at_9) (v := (3 : Int32)) rfl (q := 10) rfl ?_
    obtain ⟨u10, hu10⟩ : ∃ zq, (Int32.toUInt32 q1 >>> Int32.toUInt32 ((3 : Int32) &&& 31)).toInt32 = zq := ⟨_, rfl⟩
    refine Go.iushr X0.here hx (Jvm.hb hby at_10) hu10 (q := 11) rfl ?_
    refine Go.iconst X0.here hx (Jvm.hb hby at_11) (v := (3 : Int32)) rfl (q := 12) rfl ?_
    obtain ⟨u12, hu12⟩ : ∃ zq, u10 &&& (3 : Int32) = zq := ⟨_, rfl⟩
    refine Go.iand X0.here hx (Jvm.hb hby at_12) hu12 (q := 13) rfl ?_
    refine Go.istore X0.here hx (Jvm.hb hby at_13) (l2 := #[.val (.int q1), .val (.int q2), .val (.int q3), .val (.int q4), .val (.int q5), .val (.int q6), .val (.int (0 : Int32)), .val (.int u12), .unset, .unset, .unset, .unset, .unset]) rfl (q := 15) rfl ?_
    refine Go.iconst X0.here hx (Jvm.hb hby at_15) (v := (5 : Int32)) rfl (q := 16) rfl ?_
    refine Go.newarr X0 hx hZ (aty := .double) (word hw 0 rfl) e0 (Jvm.hb hby at_16) (by decide) (k := 5) (by decide) (by decide) (by decide) (by decide) (ad := "[D") (by decide) (q := 18) rfl ?_
    intro T101 h101 a101 kk101 g101 X101 e101 E101 R101 A101
    have r102 : n0 ≤ a101 := Nat.le_trans Z0 (Nat.le_of_eq g101.symm)
    have R101 : Row Z h101 a101 .double kk101 [(.double (0 : UInt64)), (.double (0 : UInt64)), (.double (0 : UInt64)), (.double (0 : UInt64)), (.double (0 : UInt64))] := R101
    refine Go.dup X101.here hx (Jvm.hb hby at_18) rfl (q := 19) rfl ?_
    refine Go.iconst X101.here hx (Jvm.hb hby at_19) (v := (0 : Int32)) rfl (q := 20) rfl ?_
    refine Go.iloadN X101.here hx (Jvm.hb hby at_20) rfl (q := 21) rfl ?_
    obtain ⟨u21, hu21⟩ : ∃ zq, FP.i2d q2 = zq := ⟨_, rfl⟩
    refine Go.i2d X101.here hx (Jvm.hb hby at_21) hu21 (q := 22) rfl ?_
    refine Go.dastore X101 hx hZ e101 R101 (Jvm.hb hby at_22) (i := 0) (by decide) (by decide) rfl (q := 23) rfl ?_
    intro T103 h103 X103 e103 W103 R103
    have N103 := Fr.snoc X103 N0 r102
    have R103 : Row Z h103 a101 .double kk101 [(.double u21), (.double (0 : UInt64)), (.double (0 : UInt64)), (.double (0 : UInt64)), (.double (0 : UInt64))] := R103
    refine Go.dup X103.here hx (Jvm.hb hby at_23) rfl (q := 24) rfl ?_
    refine Go.iconst X103.here hx (Jvm.hb hby at_24) (v := (1 : Int32)) rfl (q := 25) rfl ?_
    refine Go.iloadN X103.here hx (Jvm.hb hby at_25) rfl (q := 26) rfl ?_
    obtain ⟨u26, hu26⟩ : ∃ zq, FP.i2d q3 = zq := ⟨_, rfl⟩
    refine Go.i2d X103.here hx (Jvm.hb hby at_26) hu26 (q := 27) rfl ?_
    refine Go.dastore X103 hx hZ e103 R103 (Jvm.hb hby at_27) (i := 1) (by decide) (by decide) rfl (q := 28) rfl ?_
    intro T104 h104 X104 e104 W104 R104
    have N104 := Fr.snoc X104 N103 r102
    have R104 : Row Z h104 a101 .double kk101 [(.double u21), (.double u26), (.double (0 : UInt64)), (.double (0 : UInt64)), (.double (0 : UInt64))] := R104
    refine Go.dup X104.here hx (Jvm.hb hby at_28) rfl (q := 29) rfl ?_
    refine Go.iconst X104.here hx (Jvm.hb hby at_29) (v := (2 : Int32)) rfl (q := 30) rfl ?_
    refine Go.iloadN X104.here hx (Jvm.hb hby at_30) rfl (q := 31) rfl ?_
    refine Go.iloadN X104.here hx (Jvm.hb hby at_31) rfl (q := 32) rfl ?_
    obtain ⟨u32, hu32⟩ : ∃ zq, q2 ^^^ q3 = zq := ⟨_, rfl⟩
    refine Go.ixor X104.here hx (Jvm.hb hby at_32) hu32 (q := 33) rfl ?_
    obtain ⟨u33, hu33⟩ : ∃ zq, FP.i2d u32 = zq := ⟨_, rfl⟩
    refine Go.i2d X104.here hx (Jvm.hb hby at_33) hu33 (q := 34) rfl ?_
    refine Go.dastore X104 hx hZ e104 R104 (Jvm.hb hby at_34) (i := 2) (by decide) (by decide) rfl (q := 35) rfl ?_
    intro T105 h105 X105 e105 W105 R105
    have N105 := Fr.snoc X105 N104 r102
    have R105 : Row Z h105 a101 .double kk101 [(.double u21), (.double u26), (.double u33), (.double (0 : UInt64)), (.double (0 : UInt64))] := R105
    refine Go.dup X105.here hx (Jvm.hb hby at_35) rfl (q := 36) rfl ?_
    refine Go.iconst X105.here hx (Jvm.hb hby at_36) (v := (3 : Int32)) rfl (q := 37) rfl ?_
    refine Go.iloadN X105.here hx (Jvm.hb hby at_37) rfl (q := 38) rfl ?_
    refine Go.iloadN X105.here hx (Jvm.hb hby at_38) rfl (q := 39) rfl ?_
    obtain ⟨u39, hu39⟩ : ∃ zq, q2 - q3 = zq := ⟨_, rfl⟩
    refine Go.isub X105.here hx (Jvm.hb hby at_39) hu39 (q := 40) rfl ?_
    obtain ⟨u40, hu40⟩ : ∃ zq, FP.i2d u39 = zq := ⟨_, rfl⟩
    refine Go.i2d X105.here hx (Jvm.hb hby at_40) hu40 (q := 41) rfl ?_
    refine Go.dastore X105 hx hZ e105 R105 (Jvm.hb hby at_41) (i := 3) (by decide) (by decide) rfl (q := 42) rfl ?_
    intro T106 h106 X106 e106 W106 R106
    have N106 := Fr.snoc X106 N105 r102
    have R106 : Row Z h106 a101 .double kk101 [(.double u21), (.double u26), (.double u33), (.double u40), (.double (0 : UInt64))] := R106
    refine Go.dup X106.here hx (Jvm.hb hby at_42) rfl (q := 43) rfl ?_
    refine Go.iconst X106.here hx (Jvm.hb hby at_43) (v := (4 : Int32)) rfl (q := 44) rfl ?_
    refine Go.iloadN X106.here hx (Jvm.hb hby at_44) rfl (q := 45) rfl ?_
    refine Go.iconst X106.here hx (Jvm.hb hby at_45) (v := (3 : Int32)) rfl (q := 46) rfl ?_
    obtain ⟨u46, hu46⟩ : ∃ zq, q3 + (3 : Int32) = zq := ⟨_, rfl⟩
    refine Go.iadd X106.here hx (Jvm.hb hby at_46) hu46 (q := 47) rfl ?_
    obtain ⟨u47, hu47⟩ : ∃ zq, FP.i2d u46 = zq := ⟨_, rfl⟩
    refine Go.i2d X106.here hx (Jvm.hb hby at_47) hu47 (q := 48) rfl ?_
    refine Go.dastore X106 hx hZ e106 R106 (Jvm.hb hby at_48) (i := 4) (by decide) (by decide) rfl (q := 49) rfl ?_
    intro T107 h107 X107 e107 W107 R107
    have N107 := Fr.snoc X107 N106 r102
    have R107 : Row Z h107 a101 .double kk101 [(.double u21), (.double u26), (.double u33), (.double u40), (.double u47)] := R107
    refine Go.astore X107.here hx (Jvm.hb hby at_49) rfl (l2 := #[.val (.int q1), .val (.int q2), .val (.int q3), .val (.int q4), .val (.int q5), .val (.int q6), .val (.int (0 : Int32)), .val (.int u12), .val (.ref a101), .unset, .unset, .unset, .unset]) rfl (q := 51) rfl ?_
    refine Go.iconst X107.here hx (Jvm.hb hby at_51) (v := (5 : Int32)) rfl (q := 52) rfl ?_
    refine Go.newarr X107 hx hZ (aty := .double) (word hw 0 rfl) e107 (Jvm.hb hby at_52) (by decide) (k := 5) (by decide) (by decide) (by decide) (by decide) (ad := "[D") (by decide) (q := 54) rfl ?_
    intro T108 h108 a108 kk108 g108 X108 e108 E108 R108 A108
    have z109 : n0 ≤ h101.size := Nat.le_trans Z0 E101.1
    have z110 : n0 ≤ h103.size := Nat.le_trans z109 (Nat.le_of_eq W103.size.symm)
    have z111 : n0 ≤ h104.size := Nat.le_trans z110 (Nat.le_of_eq W104.size.symm)
    have z112 : n0 ≤ h105.size := Nat.le_trans z111 (Nat.le_of_eq W105.size.symm)
    have z113 : n0 ≤ h106.size := Nat.le_trans z112 (Nat.le_of_eq W106.size.symm)
    have z114 : n0 ≤ h107.size := Nat.le_trans z113 (Nat.le_of_eq W107.size.symm)
    have r115 : n0 ≤ a108 := Nat.le_trans z114 (Nat.le_of_eq g108.symm)
    have R108 : Row Z h108 a108 .double kk108 [(.double (0 : UInt64)), (.double (0 : UInt64)), (.double (0 : UInt64)), (.double (0 : UInt64)), (.double (0 : UInt64))] := R108
    refine Go.dup X108.here hx (Jvm.hb hby at_54) rfl (q := 55) rfl ?_
    refine Go.iconst X108.here hx (Jvm.hb hby at_55) (v := (0 : Int32)) rfl (q := 56) rfl ?_
    refine Go.iloadN X108.here hx (Jvm.hb hby at_56) rfl (q := 57) rfl ?_
    obtain ⟨u57, hu57⟩ : ∃ zq, FP.i2d q4 = zq := ⟨_, rfl⟩
    refine Go.i2d X108.here hx (Jvm.hb hby at_57) hu57 (q := 58) rfl ?_
    refine Go.dastore X108 hx hZ e108 R108 (Jvm.hb hby at_58) (i := 0) (by decide) (by decide) rfl (q := 59) rfl ?_
    intro T116 h116 X116 e116 W116 R116
    have N116 := Fr.snoc X116 N107 r115
    have R116 : Row Z h116 a108 .double kk108 [(.double u57), (.double (0 : UInt64)), (.double (0 : UInt64)), (.double (0 : UInt64)), (.double (0 : UInt64))] := R116
    refine Go.dup X116.here hx (Jvm.hb hby at_59) rfl (q := 60) rfl ?_
    refine Go.iconst X116.here hx (Jvm.hb hby at_60) (v := (1 : Int32)) rfl (q := 61) rfl ?_
    refine Go.iload X116.here hx (Jvm.hb hby at_61) rfl (q := 63) rfl ?_
    obtain ⟨u63, hu63⟩ : ∃ zq, FP.i2d q5 = zq := ⟨_, rfl⟩
    refine Go.i2d X116.here hx (Jvm.hb hby at_63) hu63 (q := 64) rfl ?_
    refine Go.dastore X116 hx hZ e116 R116 (Jvm.hb hby at_64) (i := 1) (by decide) (by decide) rfl (q := 65) rfl ?_
    intro T117 h117 X117 e117 W117 R117
    have N117 := Fr.snoc X117 N116 r115
    have R117 : Row Z h117 a108 .double kk108 [(.double u57), (.double u63), (.double (0 : UInt64)), (.double (0 : UInt64)), (.double (0 : UInt64))] := R117
    refine Go.dup X117.here hx (Jvm.hb hby at_65) rfl (q := 66) rfl ?_
    refine Go.iconst X117.here hx (Jvm.hb hby at_66) (v := (2 : Int32)) rfl (q := 67) rfl ?_
    refine Go.iload X117.here hx (Jvm.hb hby at_67) rfl (q := 69) rfl ?_
    obtain ⟨u69, hu69⟩ : ∃ zq, FP.i2d q6 = zq := ⟨_, rfl⟩
    refine Go.i2d X117.here hx (Jvm.hb hby at_69) hu69 (q := 70) rfl ?_
    refine Go.dastore X117 hx hZ e117 R117 (Jvm.hb hby at_70) (i := 2) (by decide) (by decide) rfl (q := 71) rfl ?_
    intro T118 h118 X118 e118 W118 R118
    have N118 := Fr.snoc X118 N117 r115
    have R118 : Row Z h118 a108 .double kk108 [(.double u57), (.double u63), (.double u69), (.double (0 : UInt64)), (.double (0 : UInt64))] := R118
    refine Go.dup X118.here hx (Jvm.hb hby at_71) rfl (q := 72) rfl ?_
    refine Go.iconst X118.here hx (Jvm.hb hby at_72) (v := (3 : Int32)) rfl (q := 73) rfl ?_
    refine Go.iloadN X118.here hx (Jvm.hb hby at_73) rfl (q := 74) rfl ?_
    refine Go.iload X118.here hx (Jvm.hb hby at_74) rfl (q := 76) rfl ?_
    obtain ⟨u76, hu76⟩ : ∃ zq, q4 ^^^ q5 = zq := ⟨_, rfl⟩
    refine Go.ixor X118.here hx (Jvm.hb hby at_76) hu76 (q := 77) rfl ?_
    obtain ⟨u77, hu77⟩ : ∃ zq, FP.i2d u76 = zq := ⟨_, rfl⟩
    refine Go.i2d X118.here hx (Jvm.hb hby at_77) hu77 (q := 78) rfl ?_
    refine Go.dastore X118 hx hZ e118 R118 (Jvm.hb hby at_78) (i := 3) (by decide) (by decide) rfl (q := 79) rfl ?_
    intro T119 h119 X119 e119 W119 R119
    have N119 := Fr.snoc X119 N118 r115
    have R119 : Row Z h119 a108 .double kk108 [(.double u57), (.double u63), (.double u69), (.double u77), (.double (0 : UInt64))] := R119
    refine Go.dup X119.here hx (Jvm.hb hby at_79) rfl (q := 80) rfl ?_
    refine Go.iconst X119.here hx (Jvm.hb hby at_80) (v := (4 : Int32)) rfl (q := 81) rfl ?_
    refine Go.iload X119.here hx (Jvm.hb hby at_81) rfl (q := 83) rfl ?_
    refine Go.iload X119.here hx (Jvm.hb hby at_83) rfl (q := 85) rfl ?_
    obtain ⟨u85, hu85⟩ : ∃ zq, q6 - q5 = zq := ⟨_, rfl⟩
    refine Go.isub X119.here hx (Jvm.hb hby at_85) hu85 (q := 86) rfl ?_
    obtain ⟨u86, hu86⟩ : ∃ zq, FP.i2d u85 = zq := ⟨_, rfl⟩
    refine Go.i2d X119.here hx (Jvm.hb hby at_86) hu86 (q := 87) rfl ?_
    refine Go.dastore X119 hx hZ e119 R119 (Jvm.hb hby at_87) (i := 4) (by decide) (by decide) rfl (q := 88) rfl ?_
    intro T120 h120 X120 e120 W120 R120
    have N120 := Fr.snoc X120 N119 r115
    have R120 : Row Z h120 a108 .double kk108 [(.double u57), (.double u63), (.double u69), (.double u77), (.double u86)] := R120
    refine Go.astore X120.here hx (Jvm.hb hby at_88) rfl (l2 := #[.val (.int q1), .val (.int q2), .val (.int q3), .val (.int q4), .val (.int q5), .val (.int q6), .val (.int (0 : Int32)), .val (.int u12), .val (.ref a101), .val (.ref a108), .unset, .unset, .unset]) rfl (q := 90) rfl ?_
    refine Go.iconst X120.here hx (Jvm.hb hby at_90) (v := (5 : Int32)) rfl (q := 91) rfl ?_
    refine Go.newarr X120 hx hZ (aty := .double) (word hw 0 rfl) e120 (Jvm.hb hby at_91) (by decide) (k := 5) (by decide) (by decide) (by decide) (by decide) (ad := "[D") (by decide) (q := 93) rfl ?_
    intro T121 h121 a121 kk121 g121 X121 e121 E121 R121 A121
    have z122 : n0 ≤ h108.size := Nat.le_trans z114 E108.1
    have z123 : n0 ≤ h116.size := Nat.le_trans z122 (Nat.le_of_eq W116.size.symm)
    have z124 : n0 ≤ h117.size := Nat.le_trans z123 (Nat.le_of_eq W117.size.symm)
    have z125 : n0 ≤ h118.size := Nat.le_trans z124 (Nat.le_of_eq W118.size.symm)
    have z126 : n0 ≤ h119.size := Nat.le_trans z125 (Nat.le_of_eq W119.size.symm)
    have z127 : n0 ≤ h120.size := Nat.le_trans z126 (Nat.le_of_eq W120.size.symm)
    have r128 : n0 ≤ a121 := Nat.le_trans z127 (Nat.le_of_eq g121.symm)
    have R121 : Row Z h121 a121 .double kk121 [(.double (0 : UInt64)), (.double (0 : UInt64)), (.double (0 : UInt64)), (.double (0 : UInt64)), (.double (0 : UInt64))] := R121
    refine Go.dup X121.here hx (Jvm.hb hby at_93) rfl (q := 94) rfl ?_
    refine Go.iconst X121.here hx (Jvm.hb hby at_94) (v := (0 : Int32)) rfl (q := 95) rfl ?_
    refine Go.iloadN X121.here hx (Jvm.hb hby at_95) rfl (q := 96) rfl ?_
    obtain ⟨u96, hu96⟩ : ∃ zq, FP.i2d q4 = zq := ⟨_, rfl⟩
    refine Go.i2d X121.here hx (Jvm.hb hby at_96) hu96 (q := 97) rfl ?_
    refine Go.dastore X121 hx hZ e121 R121 (Jvm.hb hby at_97) (i := 0) (by decide) (by decide) rfl (q := 98) rfl ?_
    intro T129 h129 X129 e129 W129 R129
    have N129 := Fr.snoc X129 N120 r128
    have R129 : Row Z h129 a121 .double kk121 [(.double u96), (.double (0 : UInt64)), (.double (0 : UInt64)), (.double (0 : UInt64)), (.double (0 : UInt64))] := R129
    refine Go.dup X129.here hx (Jvm.hb hby at_98) rfl (q := 99) rfl ?_
    refine Go.iconst X129.here hx (Jvm.hb hby at_99) (v := (1 : Int32)) rfl (q := 100) rfl ?_
    refine Go.iload X129.here hx (Jvm.hb hby at_100) rfl (q := 102) rfl ?_
    obtain ⟨u102, hu102⟩ : ∃ zq, FP.i2d q5 = zq := ⟨_, rfl⟩
    refine Go.i2d X129.here hx (Jvm.hb hby at_102) hu102 (q := 103) rfl ?_
    refine Go.dastore X129 hx hZ e129 R129 (Jvm.hb hby at_103) (i := 1) (by decide) (by decide) rfl (q := 104) rfl ?_
    intro T130 h130 X130 e130 W130 R130
    have N130 := Fr.snoc X130 N129 r128
    have R130 : Row Z h130 a121 .double kk121 [(.double u96), (.double u102), (.double (0 : UInt64)), (.double (0 : UInt64)), (.double (0 : UInt64))] := R130
    refine Go.dup X130.here hx (Jvm.hb hby at_104) rfl (q := 105) rfl ?_
    refine Go.iconst X130.here hx (Jvm.hb hby at_105) (v := (2 : Int32)) rfl (q := 106) rfl ?_
    refine Go.iload X130.here hx (Jvm.hb hby at_106) rfl (q := 108) rfl ?_
    obtain ⟨u108, hu108⟩ : ∃ zq, FP.i2d q6 = zq := ⟨_, rfl⟩
    refine Go.i2d X130.here hx (Jvm.hb hby at_108) hu108 (q := 109) rfl ?_
    refine Go.dastore X130 hx hZ e130 R130 (Jvm.hb hby at_109) (i := 2) (by decide) (by decide) rfl (q := 110) rfl ?_
    intro T131 h131 X131 e131 W131 R131
    have N131 := Fr.snoc X131 N130 r128
    have R131 : Row Z h131 a121 .double kk121 [(.double u96), (.double u102), (.double u108), (.double (0 : UInt64)), (.double (0 : UInt64))] := R131
    refine Go.dup X131.here hx (Jvm.hb hby at_110) rfl (q := 111) rfl ?_
    refine Go.iconst X131.here hx (Jvm.hb hby at_111) (v := (3 : Int32)) rfl (q := 112) rfl ?_
    refine Go.iloadN X131.here hx (Jvm.hb hby at_112) rfl (q := 113) rfl ?_
    refine Go.iload X131.here hx (Jvm.hb hby at_113) rfl (q := 115) rfl ?_
    obtain ⟨u115, hu115⟩ : ∃ zq, q4 ^^^ q5 = zq := ⟨_, rfl⟩
    refine Go.ixor X131.here hx (Jvm.hb hby at_115) hu115 (q := 116) rfl ?_
    obtain ⟨u116, hu116⟩ : ∃ zq, FP.i2d u115 = zq := ⟨_, rfl⟩
    refine Go.i2d X131.here hx (Jvm.hb hby at_116) hu116 (q := 117) rfl ?_
    refine Go.dastore X131 hx hZ e131 R131 (Jvm.hb hby at_117) (i := 3) (by decide) (by decide) rfl (q := 118) rfl ?_
    intro T132 h132 X132 e132 W132 R132
    have N132 := Fr.snoc X132 N131 r128
    have R132 : Row Z h132 a121 .double kk121 [(.double u96), (.double u102), (.double u108), (.double u116), (.double (0 : UInt64))] := R132
    refine Go.dup X132.here hx (Jvm.hb hby at_118) rfl (q := 119) rfl ?_
    refine Go.iconst X132.here hx (Jvm.hb hby at_119) (v := (4 : Int32)) rfl (q := 120) rfl ?_
    refine Go.iload X132.here hx (Jvm.hb hby at_120) rfl (q := 122) rfl ?_
    refine Go.iload X132.here hx (Jvm.hb hby at_122) rfl (q := 124) rfl ?_
    obtain ⟨u124, hu124⟩ : ∃ zq, q6 - q5 = zq := ⟨_, rfl⟩
    refine Go.isub X132.here hx (Jvm.hb hby at_124) hu124 (q := 125) rfl ?_
    obtain ⟨u125, hu125⟩ : ∃ zq, FP.i2d u124 = zq := ⟨_, rfl⟩
    refine Go.i2d X132.here hx (Jvm.hb hby at_125) hu125 (q := 126) rfl ?_
    refine Go.dastore X132 hx hZ e132 R132 (Jvm.hb hby at_126) (i := 4) (by decide) (by decide) rfl (q := 127) rfl ?_
    intro T133 h133 X133 e133 W133 R133
    have N133 := Fr.snoc X133 N132 r128
    have R133 : Row Z h133 a121 .double kk121 [(.double u96), (.double u102), (.double u108), (.double u116), (.double u125)] := R133
    refine Go.astore X133.here hx (Jvm.hb hby at_127) rfl (l2 := #[.val (.int q1), .val (.int q2), .val (.int q3), .val (.int q4), .val (.int q5), .val (.int q6), .val (.int (0 : Int32)), .val (.int u12), .val (.ref a101), .val (.ref a108), .val (.ref a121), .unset, .unset]) rfl (q := 129) rfl ?_
    refine Go.iconst X133.here hx (Jvm.hb hby at_129) (v := (5 : Int32)) rfl (q := 130) rfl ?_
    refine Go.newarr X133 hx hZ (aty := .double) (word hw 0 rfl) e133 (Jvm.hb hby at_130) (by decide) (k := 5) (by decide) (by decide) (by decide) (by decide) (ad := "[D") (by decide) (q := 132) rfl ?_
    intro T134 h134 a134 kk134 g134 X134 e134 E134 R134 A134
    have z135 : n0 ≤ h121.size := Nat.le_trans z127 E121.1
    have z136 : n0 ≤ h129.size := Nat.le_trans z135 (Nat.le_of_eq W129.size.symm)
    have z137 : n0 ≤ h130.size := Nat.le_trans z136 (Nat.le_of_eq W130.size.symm)
    have z138 : n0 ≤ h131.size := Nat.le_trans z137 (Nat.le_of_eq W131.size.symm)
    have z139 : n0 ≤ h132.size := Nat.le_trans z138 (Nat.le_of_eq W132.size.symm)
    have z140 : n0 ≤ h133.size := Nat.le_trans z139 (Nat.le_of_eq W133.size.symm)
    have r141 : n0 ≤ a134 := Nat.le_trans z140 (Nat.le_of_eq g134.symm)
    have R134 : Row Z h134 a134 .double kk134 [(.double (0 : UInt64)), (.double (0 : UInt64)), (.double (0 : UInt64)), (.double (0 : UInt64)), (.double (0 : UInt64))] := R134
    refine Go.dup X134.here hx (Jvm.hb hby at_132) rfl (q := 133) rfl ?_
    refine Go.iconst X134.here hx (Jvm.hb hby at_133) (v := (0 : Int32)) rfl (q := 134) rfl ?_
    refine Go.ldc2D X134 hx hown (mvT hZ (word hw 1 rfl)) (Jvm.hb hby at_134) (q := 137) rfl ?_
    refine Go.dastore X134 hx hZ e134 R134 (Jvm.hb hby at_137) (i := 0) (by decide) (by decide) rfl (q := 138) rfl ?_
    intro T142 h142 X142 e142 W142 R142
    have N142 := Fr.snoc X142 N133 r141
    have R142 : Row Z h142 a134 .double kk134 [(.double (4602678819172646912 : UInt64)), (.double (0 : UInt64)), (.double (0 : UInt64)), (.double (0 : UInt64)), (.double (0 : UInt64))] := R142
    refine Go.dup X142.here hx (Jvm.hb hby at_138) rfl (q := 139) rfl ?_
    refine Go.iconst X142.here hx (Jvm.hb hby at_139) (v := (1 : Int32)) rfl (q := 140) rfl ?_
    refine Go.ldc2D X142 hx hown (mvT hZ (word hw 1 rfl)) (Jvm.hb hby at_140) (q := 143) rfl ?_
    refine Go.dastore X142 hx hZ e142 R142 (Jvm.hb hby at_143) (i := 1) (by decide) (by decide) rfl (q := 144) rfl ?_
    intro T143 h143 X143 e143 W143 R143
    have N143 := Fr.snoc X143 N142 r141
    have R143 : Row Z h143 a134 .double kk134 [(.double (4602678819172646912 : UInt64)), (.double (4602678819172646912 : UInt64)), (.double (0 : UInt64)), (.double (0 : UInt64)), (.double (0 : UInt64))] := R143
    refine Go.dup X143.here hx (Jvm.hb hby at_144) rfl (q := 145) rfl ?_
    refine Go.iconst X143.here hx (Jvm.hb hby at_145) (v := (2 : Int32)) rfl (q := 146) rfl ?_
    refine Go.ldc2D X143 hx hown (mvT hZ (word hw 1 rfl)) (Jvm.hb hby at_146) (q := 149) rfl ?_
    refine Go.dastore X143 hx hZ e143 R143 (Jvm.hb hby at_149) (i := 2) (by decide) (by decide) rfl (q := 150) rfl ?_
    intro T144 h144 X144 e144 W144 R144
    have N144 := Fr.snoc X144 N143 r141
    have R144 : Row Z h144 a134 .double kk134 [(.double (4602678819172646912 : UInt64)), (.double (4602678819172646912 : UInt64)), (.double (4602678819172646912 : UInt64)), (.double (0 : UInt64)), (.double (0 : UInt64))] := R144
    refine Go.dup X144.here hx (Jvm.hb hby at_150) rfl (q := 151) rfl ?_
    refine Go.iconst X144.here hx (Jvm.hb hby at_151) (v := (3 : Int32)) rfl (q := 152) rfl ?_
    refine Go.ldc2D X144 hx hown (mvT hZ (word hw 1 rfl)) (Jvm.hb hby at_152) (q := 155) rfl ?_
    refine Go.dastore X144 hx hZ e144 R144 (Jvm.hb hby at_155) (i := 3) (by decide) (by decide) rfl (q := 156) rfl ?_
    intro T145 h145 X145 e145 W145 R145
    have N145 := Fr.snoc X145 N144 r141
    have R145 : Row Z h145 a134 .double kk134 [(.double (4602678819172646912 : UInt64)), (.double (4602678819172646912 : UInt64)), (.double (4602678819172646912 : UInt64)), (.double (4602678819172646912 : UInt64)), (.double (0 : UInt64))] := R145
    refine Go.dup X145.here hx (Jvm.hb hby at_156) rfl (q := 157) rfl ?_
    refine Go.iconst X145.here hx (Jvm.hb hby at_157) (v := (4 : Int32)) rfl (q := 158) rfl ?_
    refine Go.ldc2D X145 hx hown (mvT hZ (word hw 1 rfl)) (Jvm.hb hby at_158) (q := 161) rfl ?_
    refine Go.dastore X145 hx hZ e145 R145 (Jvm.hb hby at_161) (i := 4) (by decide) (by decide) rfl (q := 162) rfl ?_
    intro T146 h146 X146 e146 W146 R146
    have N146 := Fr.snoc X146 N145 r141
    have R146 : Row Z h146 a134 .double kk134 [(.double (4602678819172646912 : UInt64)), (.double (4602678819172646912 : UInt64)), (.double (4602678819172646912 : UInt64)), (.double (4602678819172646912 : UInt64)), (.double (4602678819172646912 : UInt64))] := R146
    refine Go.astore X146.here hx (Jvm.hb hby at_162) rfl (l2 := #[.val (.int q1), .val (.int q2), .val (.int q3), .val (.int q4), .val (.int q5), .val (.int q6), .val (.int (0 : Int32)), .val (.int u12), .val (.ref a101), .val (.ref a108), .val (.ref a121), .val (.ref a134), .unset]) rfl (q := 164) rfl ?_
    refine Go.new X146 hx hZ hown (word hw 2 rfl) (word hw 3 rfl) (word hw 4 rfl) e146 (Jvm.hb hby at_164) (by decide) (by decide) (q := 167) rfl ?_
    intro T147 h147 a147 g147 X147 e147 E147 A147 D147
    have z148 : n0 ≤ h134.size := Nat.le_trans z140 E134.1
    have z149 : n0 ≤ h142.size := Nat.le_trans z148 (Nat.le_of_eq W142.size.symm)
    have z150 : n0 ≤ h143.size := Nat.le_trans z149 (Nat.le_of_eq W143.size.symm)
    have z151 : n0 ≤ h144.size := Nat.le_trans z150 (Nat.le_of_eq W144.size.symm)
    have z152 : n0 ≤ h145.size := Nat.le_trans z151 (Nat.le_of_eq W145.size.symm)
    have z153 : n0 ≤ h146.size := Nat.le_trans z152 (Nat.le_of_eq W146.size.symm)
    have r154 : n0 ≤ a147 := Nat.le_trans z153 (Nat.le_of_eq g147.symm)
    have F155 : Fld Z h147 a147 "com/example/ratewright/ratewright/inference/GradientCorrection" "dimension" "I" (.int (0 : Int32)) := D147 (Or.inr (word hw 12 rfl)) (ty := .int) (by decide)
    have F156 : Fld Z h147 a147 "com/example/ratewright/ratewright/inference/GradientCorrection" "unknowns" "I" (.int (0 : Int32)) := D147 (Or.inr (word hw 14 rfl)) (ty := .int) (by decide)
    have F157 : Fld Z h147 a147 "com/example/ratewright/ratewright/inference/GradientCorrection" "coefficients" "[D" .null := D147 (Or.inl (word hw 16 rfl)) (ty := (.array .double)) (by decide)
    have F158 : Fld Z h147 a147 "com/example/ratewright/ratewright/inference/GradientCorrection" "fitted" "Lcom/example/ratewright/ratewright/inference/GradientCorrection$NormalEquations;" .null := D147 (Or.inr (word hw 31 rfl)) (ty := (.object "com/example/ratewright/ratewright/inference/GradientCorrection$NormalEquations")) (by decide)
    have F159 : Fld Z h147 a147 "com/example/ratewright/ratewright/inference/GradientCorrection" "heldOut" "Lcom/example/ratewright/ratewright/inference/GradientCorrection$NormalEquations;" .null := D147 (Or.inr (word hw 33 rfl)) (ty := (.object "com/example/ratewright/ratewright/inference/GradientCorrection$NormalEquations")) (by decide)
    have F160 : Fld Z h147 a147 "com/example/ratewright/ratewright/inference/GradientCorrection" "heldOutTerms" "[[D" .null := D147 (Or.inr (word hw 37 rfl)) (ty := (.array (.array .double))) (by decide)
    have F161 : Fld Z h147 a147 "com/example/ratewright/ratewright/inference/GradientCorrection" "heldOutMisses" "[D" .null := D147 (Or.inr (word hw 39 rfl)) (ty := (.array .double)) (by decide)
    have F162 : Fld Z h147 a147 "com/example/ratewright/ratewright/inference/GradientCorrection" "pendingTerms" "[[D" .null := D147 (Or.inr (word hw 42 rfl)) (ty := (.array (.array .double))) (by decide)
    have F163 : Fld Z h147 a147 "com/example/ratewright/ratewright/inference/GradientCorrection" "pendingMisses" "[D" .null := D147 (Or.inr (word hw 44 rfl)) (ty := (.array .double)) (by decide)
    refine Go.dup X147.here hx (Jvm.hb hby at_167) rfl (q := 168) rfl ?_
    refine Go.iload X147.here hx (Jvm.hb hby at_168) rfl (q := 170) rfl ?_
    refine Go.iload X147.here hx (Jvm.hb hby at_170) rfl (q := 172) rfl ?_
    have z165 : n0 ≤ h147.size := Nat.le_trans z153 E147.1
    refine Go.special X147 hx hZ (y := (⟨"com/example/ratewright/ratewright/inference/GradientCorrection", "<init>", "(II)V"⟩ : MethodName)) rfl hown (word hw 5 rfl) (word hw 6 rfl) (word hw 7 rfl) (word hw 4 rfl) (by decide) (rm_init0 l Z a0 hw a147 u12 (.int (0 : Int32)) (.int (0 : Int32)) .null .null .null .null .null .null .null h147 n0 z165 A147 F155 F156 F157 F158 F159 F160 F161 F162 F163 r154 (own_four hu12)) e147 (a := a147) (argsL := [(.int (0 : Int32)), (.int u12)]) (rest := [(.ref a147)]) (W := 1) (Jvm.hb hby at_172) rfl rfl (lenOf (pd1) rfl) (by rw [hml]; rfl) (Nat.le_of_eq rfl) (by decide) (by decide) (by decide) (by decide) (q := 175) rfl ?_
    intro T164 L164 w164 X164 hQ164
    obtain ⟨a164, kk164_1, rfl, M164, K164, G164_0, P164_0, P164_1, P164_2, P164_3⟩ := hQ164
    have N164 := Fr.app N146 M164
    have r166 : n0 ≤ a164 := Nat.le_trans z165 (G164_0)
    show Go p e below _ (T164.setTop (mkF m 175 #[.val (.int q1), .val (.int q2), .val (.int q3), .val (.int q4), .val (.int q5), .val (.int q6), .val (.int (0 : Int32)), .val (.int u12), .val (.ref a101), .val (.ref a108), .val (.ref a121), .val (.ref a134), .unset] [(.ref a147)]))
    refine Go.astore X164.here hx (Jvm.hb hby at_175) rfl (l2 := #[.val (.int q1), .val (.int q2), .val (.int q3), .val (.int q4), .val (.int q5), .val (.int q6), .val (.int (0 : Int32)), .val (.int u12), .val (.ref a101), .val (.ref a108), .val (.ref a121), .val (.ref a134), .val (.ref a147)]) rfl (q := 177) rfl ?_
    refine Go.aload X164.here hx (Jvm.hb hby at_177) rfl rfl (q := 179) rfl ?_
    refine Go.aload X164.here hx (Jvm.hb hby at_179) rfl rfl (q := 181) rfl ?_
    refine Go.aload X164.here hx (Jvm.hb hby at_181) rfl rfl (q := 183) rfl ?_
    refine Go.aload X164.here hx (Jvm.hb hby at_183) rfl rfl (q := 185) rfl ?_
    have f168 := R107.ext E108
    have ne170 : a101 ≠ a108 := Nat.ne_of_lt (Nat.lt_of_lt_of_le R107.lt (Nat.le_of_eq g108.symm))
    have f169 := f168.other W116 ne170
    have f171 := f169.other W117 ne170
    have f172 := f171.other W118 ne170
    have f173 := f172.other W119 ne170
    have f174 := f173.other W120 ne170
    have f175 := f174.ext E121
    have ne177 : a101 ≠ a121 := Nat.ne_of_lt (Nat.lt_of_lt_of_le f174.lt (Nat.le_of_eq g121.symm))
    have f176 := f175.other W129 ne177
    have f178 := f176.other W130 ne177
    have f179 := f178.other W131 ne177
    have f180 := f179.other W132 ne177
    have f181 := f180.other W133 ne177
    have f182 := f181.ext E134
    have ne184 : a101 ≠ a134 := Nat.ne_of_lt (Nat.lt_of_lt_of_le f181.lt (Nat.le_of_eq g134.symm))
    have f183 := f182.other W142 ne184
    have f185 := f183.other W143 ne184
    have f186 := f185.other W144 ne184
    have f187 := f186.other W145 ne184
    have f188 := f187.other W146 ne184
    have f189 := f188.ext E147
    have ne191 : a101 ≠ a147 := Nat.ne_of_lt (Nat.lt_of_lt_of_le f188.lt (Nat.le_of_eq g147.symm))
    have f190 := f189.keep K164 (ninS ne191 nin0)
    have f192 := R120.ext E121
    have ne194 : a108 ≠ a121 := Nat.ne_of_lt (Nat.lt_of_lt_of_le R120.lt (Nat.le_of_eq g121.symm))
    have f193 := f192.other W129 ne194
    have f195 := f193.other W130 ne194
    have f196 := f195.other W131 ne194
    have f197 := f196.other W132 ne194
    have f198 := f197.other W133 ne194
    have f199 := f198.ext E134
    have ne201 : a108 ≠ a134 := Nat.ne_of_lt (Nat.lt_of_lt_of_le f198.lt (Nat.le_of_eq g134.symm))
    have f200 := f199.other W142 ne201
    have f202 := f200.other W143 ne201
    have f203 := f202.other W144 ne201
    have f204 := f203.other W145 ne201
    have f205 := f204.other W146 ne201
    have f206 := f205.ext E147
    have ne208 : a108 ≠ a147 := Nat.ne_of_lt (Nat.lt_of_lt_of_le f205.lt (Nat.le_of_eq g147.symm))
    have f207 := f206.keep K164 (ninS ne208 nin0)
    have f209 := R146.ext E147
    have ne211 : a134 ≠ a147 := Nat.ne_of_lt (Nat.lt_of_lt_of_le R146.lt (Nat.le_of_eq g147.symm))
    have f210 := f209.keep K164 (ninS ne211 nin0)
    have ne212 : a134 ≠ a164 := Nat.ne_of_lt (Nat.lt_of_lt_of_le f209.lt (G164_0))
    have z213 : n0 ≤ T164.heap.size := Nat.le_trans z165 K164.1
    refine Go.virtual X164 hx hZ (y := (⟨"com/example/ratewright/ratewright/inference/GradientCorrection", "apply", "([D[D[D)V"⟩ : MethodName)) hown (word hw 45 rfl) (word hw 46 rfl) (word hw 48 rfl) (word hw 47 rfl) (word hw 49 rfl) (word hw 4 rfl) (by decide) (rm_app0 l Z a0 hw a147 a101 a108 a134 a164 kk101 kk108 kk134 kk164_1 u57 u63 u69 u77 u86 u21 u26 u33 u40 u47 (4602678819172646912 : UInt64) (4602678819172646912 : UInt64) (4602678819172646912 : UInt64) (4602678819172646912 : UInt64) (4602678819172646912 : UInt64) T164.heap n0 z213 P164_1 P164_2 f190 f207 f210 P164_3 (Ne.symm ne184) (Ne.symm ne201) ne212 ne211 r141 trivial) rfl P164_0  (argsL := [(.ref a101), (.ref a108), (.ref a134)]) (rest := []) (W := 0) (Jvm.hb hby at_185) rfl rfl (lenOf (pd2) rfl) (by rw [hml]; rfl) (Nat.le_of_eq rfl) (by decide) (by decide) (by decide) (by decide) (q := 188) rfl ?_
    intro T167 L167 w167 X167 hQ167
    obtain ⟨rfl, M167, K167, P167_0⟩ := hQ167
    have N167 := Fr.app N164 M167
    show Go p e below _ (T167.setTop (mkF m 188 #[.val (.int q1), .val (.int q2), .val (.int q3), .val (.int q4), .val (.int q5), .val (.int q6), .val (.int (0 : Int32)), .val (.int u12), .val (.ref a101), .val (.ref a108), .val (.ref a121), .val (.ref a134), .val (.ref a147)] []))
    refine Go.aload X167.here hx (Jvm.hb hby at_188) rfl rfl (q := 190) rfl ?_
    refine Go.aload X167.here hx (Jvm.hb hby at_190) rfl rfl (q := 192) rfl ?_
    refine Go.aload X167.here hx (Jvm.hb hby at_192) rfl rfl (q := 194) rfl ?_
    refine Go.iconst X167.here hx (Jvm.hb hby at_194) (v := (0 : Int32)) rfl (q := 195) rfl ?_
    refine Go.iload X167.here hx (Jvm.hb hby at_195) rfl (q := 197) rfl ?_
    have f215 := f207.keep K167 (ninS ne201 nin0)
    have f216 := R133.ext E134
    have ne218 : a121 ≠ a134 := Nat.ne_of_lt (Nat.lt_of_lt_of_le R133.lt (Nat.le_of_eq g134.symm))
    have f217 := f216.other W142 ne218
    have f219 := f217.other W143 ne218
    have f220 := f219.other W144 ne218
    have f221 := f220.other W145 ne218
    have f222 := f221.other W146 ne218
    have f223 := f222.ext E147
    have ne225 : a121 ≠ a147 := Nat.ne_of_lt (Nat.lt_of_lt_of_le f222.lt (Nat.le_of_eq g147.symm))
    have f224 := f223.keep K164 (ninS ne225 nin0)
    have f226 := f224.keep K167 (ninS ne218 nin0)
    have z227 : n0 ≤ T167.heap.size := Nat.le_trans z213 K167.1
    refine Go.static X167 hx hZ (y := (⟨"com/example/ratewright/ratewright/inference/GradientCorrectionApplyPinLaw", "slot", "([D[D[DII)Z"⟩ : MethodName)) hown (word hw 50 rfl) (word hw 51 rfl) (word hw 53 rfl) (word hw 52 rfl) (by decide) (rm_slot0b l Z a0 hw a134 a108 a121 kk134 kk108 kk121 (0 : Int32) (4602678819172646912 : UInt64) (4602678819172646912 : UInt64) (4602678819172646912 : UInt64) (4602678819172646912 : UInt64) (4602678819172646912 : UInt64) u57 u63 u69 u77 u86 u96 u102 u108 u116 u125 T167.heap n0 z227 P167_0 f215 f226 (by decide) (fun o => (own_same hu57 hu96 o)) (fun o => own_half o)) rfl  (argsL := [(.ref a134), (.ref a108), (.ref a121), (.int (0 : Int32)), (.int (0 : Int32))]) (rest := []) (W := 0) (Jvm.hb hby at_197) rfl rfl (lenOf (pd3) rfl) (by rw [hml]; rfl) (Nat.le_of_eq rfl) (by decide) (by decide) (by decide) (by decide) (q := 200) rfl ?_
    intro T214 L214 w214 X214 hQ214
    obtain ⟨rfl, M214, q214⟩ := hQ214
    have N214 := Fr.app N167 M214
    show Go p e below _ (T214.setTop (mkF m 200 #[.val (.int q1), .val (.int q2), .val (.int q3), .val (.int q4), .val (.int q5), .val (.int q6), .val (.int (0 : Int32)), .val (.int u12), .val (.ref a101), .val (.ref a108), .val (.ref a121), .val (.ref a134), .val (.ref a147)] [(.int (1 : Int32))]))
    have hc200_229 : ¬ ((1 : Int32) = (0 : Int32)) := by decide
    refine Go.ifN X214.here hx (Jvm.hb hby at_200) ((if0 _ _).trans (feq hc200_229).1) (q := 203) rfl ?_
    refine Go.aload X214.here hx (Jvm.hb hby at_203) rfl rfl (q := 205) rfl ?_
    refine Go.aload X214.here hx (Jvm.hb hby at_205) rfl rfl (q := 207) rfl ?_
    refine Go.aload X214.here hx (Jvm.hb hby at_207) rfl rfl (q := 209) rfl ?_
    refine Go.iconst X214.here hx (Jvm.hb hby at_209) (v := (1 : Int32)) rfl (q := 210) rfl ?_
    refine Go.iload X214.here hx (Jvm.hb hby at_210) rfl (q := 212) rfl ?_
    refine Go.static X214 hx hZ (y := (⟨"com/example/ratewright/ratewright/inference/GradientCorrectionApplyPinLaw", "slot", "([D[D[DII)Z"⟩ : MethodName)) hown (word hw 50 rfl) (word hw 51 rfl) (word hw 53 rfl) (word hw 52 rfl) (by decide) (rm_slot1b l Z a0 hw a134 a108 a121 kk134 kk108 kk121 (0 : Int32) (4602678819172646912 : UInt64) (4602678819172646912 : UInt64) (4602678819172646912 : UInt64) (4602678819172646912 : UInt64) (4602678819172646912 : UInt64) u57 u63 u69 u77 u86 u96 u102 u108 u116 u125 T167.heap n0 z227 P167_0 f215 f226 (by decide) (fun o => (own_same hu63 hu102 o)) (fun o => own_half o)) q214  (argsL := [(.ref a134), (.ref a108), (.ref a121), (.int (1 : Int32)), (.int (0 : Int32))]) (rest := []) (W := 0) (Jvm.hb hby at_212) rfl rfl (lenOf (pd3) rfl) (by rw [hml]; rfl) (Nat.le_of_eq rfl) (by decide) (by decide) (by decide) (by decide) (q := 215) rfl ?_
    intro T230 L230 w230 X230 hQ230
    obtain ⟨rfl, M230, q230⟩ := hQ230
    have N230 := Fr.app N214 M230
    show Go p e below _ (T230.setTop (mkF m 215 #[.val (.int q1), .val (.int q2), .val (.int q3), .val (.int q4), .val (.int q5), .val (.int q6), .val (.int (0 : Int32)), .val (.int u12), .val (.ref a101), .val (.ref a108), .val (.ref a121), .val (.ref a134), .val (.ref a147)] [(.int (1 : Int32))]))
    have hc215_232 : ¬ ((1 : Int32) = (0 : Int32)) := by decide
    refine Go.ifN X230.here hx (Jvm.hb hby at_215) ((if0 _ _).trans (feq hc215_232).1) (q := 218) rfl ?_
    refine Go.aload X230.here hx (Jvm.hb hby at_218) rfl rfl (q := 220) rfl ?_
    refine Go.aload X230.here hx (Jvm.hb hby at_220) rfl rfl (q := 222) rfl ?_
    refine Go.aload X230.here hx (Jvm.hb hby at_222) rfl rfl (q := 224) rfl ?_
    refine Go.iconst X230.here hx (Jvm.hb hby at_224) (v := (2 : Int32)) rfl (q := 225) rfl ?_
    refine Go.iload X230.here hx (Jvm.hb hby at_225) rfl (q := 227) rfl ?_
    refine Go.static X230 hx hZ (y := (⟨"com/example/ratewright/ratewright/inference/GradientCorrectionApplyPinLaw", "slot", "([D[D[DII)Z"⟩ : MethodName)) hown (word hw 50 rfl) (word hw 51 rfl) (word hw 53 rfl) (word hw 52 rfl) (by decide) (rm_slot2b l Z a0 hw a134 a108 a121 kk134 kk108 kk121 (0 : Int32) (4602678819172646912 : UInt64) (4602678819172646912 : UInt64) (4602678819172646912 : UInt64) (4602678819172646912 : UInt64) (4602678819172646912 : UInt64) u57 u63 u69 u77 u86 u96 u102 u108 u116 u125 T167.heap n0 z227 P167_0 f215 f226 (by decide) (fun o => (own_same hu69 hu108 o)) (fun o => own_half o)) q230  (argsL := [(.ref a134), (.ref a108), (.ref a121), (.int (2 : Int32)), (.int (0 : Int32))]) (rest := []) (W := 0) (Jvm.hb hby at_227) rfl rfl (lenOf (pd3) rfl) (by rw [hml]; rfl) (Nat.le_of_eq rfl) (by decide) (by decide) (by decide) (by decide) (q := 230) rfl ?_
    intro T233 L233 w233 X233 hQ233
    obtain ⟨rfl, M233, q233⟩ := hQ233
    have N233 := Fr.app N230 M233
    show Go p e below _ (T233.setTop (mkF m 230 #[.val (.int q1), .val (.int q2), .val (.int q3), .val (.int q4), .val (.int q5), .val (.int q6), .val (.int (0 : Int32)), .val (.int u12), .val (.ref a101), .val (.ref a108), .val (.ref a121), .val (.ref a134), .val (.ref a147)] [(.int (1 : Int32))]))
    have hc230_235 : ¬ ((1 : Int32) = (0 : Int32)) := by decide
    refine Go.ifN X233.here hx (Jvm.hb hby at_230) ((if0 _ _).trans (feq hc230_235).1) (q := 233) rfl ?_
    refine Go.aload X233.here hx (Jvm.hb hby at_233) rfl rfl (q := 235) rfl ?_
    refine Go.aload X233.here hx (Jvm.hb hby at_235) rfl rfl (q := 237) rfl ?_
    refine Go.aload X233.here hx (Jvm.hb hby at_237) rfl rfl (q := 239) rfl ?_
    refine Go.iconst X233.here hx (Jvm.hb hby at_239) (v := (3 : Int32)) rfl (q := 240) rfl ?_
    refine Go.iload X233.here hx (Jvm.hb hby at_240) rfl (q := 242) rfl ?_
    refine Go.static X233 hx hZ (y := (⟨"com/example/ratewright/ratewright/inference/GradientCorrectionApplyPinLaw", "slot", "([D[D[DII)Z"⟩ : MethodName)) hown (word hw 50 rfl) (word hw 51 rfl) (word hw 53 rfl) (word hw 52 rfl) (by decide) (rm_slot3b l Z a0 hw a134 a108 a121 kk134 kk108 kk121 (0 : Int32) (4602678819172646912 : UInt64) (4602678819172646912 : UInt64) (4602678819172646912 : UInt64) (4602678819172646912 : UInt64) (4602678819172646912 : UInt64) u57 u63 u69 u77 u86 u96 u102 u108 u116 u125 T167.heap n0 z227 P167_0 f215 f226 (by decide) (fun o => (by rw [← hu76] at hu77; rw [← hu115] at hu116; exact own_same hu77 hu116 o)) (fun o => own_half o)) q233  (argsL := [(.ref a134), (.ref a108), (.ref a121), (.int (3 : Int32)), (.int (0 : Int32))]) (rest := []) (W := 0) (Jvm.hb hby at_242) rfl rfl (lenOf (pd3) rfl) (by rw [hml]; rfl) (Nat.le_of_eq rfl) (by decide) (by decide) (by decide) (by decide) (q := 245) rfl ?_
    intro T236 L236 w236 X236 hQ236
    obtain ⟨rfl, M236, q236⟩ := hQ236
    have N236 := Fr.app N233 M236
    show Go p e below _ (T236.setTop (mkF m 245 #[.val (.int q1), .val (.int q2), .val (.int q3), .val (.int q4), .val (.int q5), .val (.int q6), .val (.int (0 : Int32)), .val (.int u12), .val (.ref a101), .val (.ref a108), .val (.ref a121), .val (.ref a134), .val (.ref a147)] [(.int (1 : Int32))]))
    have hc245_238 : ¬ ((1 : Int32) = (0 : Int32)) := by decide
    refine Go.ifN X236.here hx (Jvm.hb hby at_245) ((if0 _ _).trans (feq hc245_238).1) (q := 248) rfl ?_
    refine Go.aload X236.here hx (Jvm.hb hby at_248) rfl rfl (q := 250) rfl ?_
    refine Go.aload X236.here hx (Jvm.hb hby at_250) rfl rfl (q := 252) rfl ?_
    refine Go.aload X236.here hx (Jvm.hb hby at_252) rfl rfl (q := 254) rfl ?_
    refine Go.iconst X236.here hx (Jvm.hb hby at_254) (v := (4 : Int32)) rfl (q := 255) rfl ?_
    refine Go.iload X236.here hx (Jvm.hb hby at_255) rfl (q := 257) rfl ?_
    refine Go.static X236 hx hZ (y := (⟨"com/example/ratewright/ratewright/inference/GradientCorrectionApplyPinLaw", "slot", "([D[D[DII)Z"⟩ : MethodName)) hown (word hw 50 rfl) (word hw 51 rfl) (word hw 53 rfl) (word hw 52 rfl) (by decide) (rm_slot4b l Z a0 hw a134 a108 a121 kk134 kk108 kk121 (0 : Int32) (4602678819172646912 : UInt64) (4602678819172646912 : UInt64) (4602678819172646912 : UInt64) (4602678819172646912 : UInt64) (4602678819172646912 : UInt64) u57 u63 u69 u77 u86 u96 u102 u108 u116 u125 T167.heap n0 z227 P167_0 f215 f226 (by decide) (fun o => (by rw [← hu85] at hu86; rw [← hu124] at hu125; exact own_same hu86 hu125 o)) (fun o => own_half o)) q236  (argsL := [(.ref a134), (.ref a108), (.ref a121), (.int (4 : Int32)), (.int (0 : Int32))]) (rest := []) (W := 0) (Jvm.hb hby at_257) rfl rfl (lenOf (pd3) rfl) (by rw [hml]; rfl) (Nat.le_of_eq rfl) (by decide) (by decide) (by decide) (by decide) (q := 260) rfl ?_
    intro T239 L239 w239 X239 hQ239
    obtain ⟨rfl, M239, q239⟩ := hQ239
    have N239 := Fr.app N236 M239
    show Go p e below _ (T239.setTop (mkF m 260 #[.val (.int q1), .val (.int q2), .val (.int q3), .val (.int q4), .val (.int q5), .val (.int q6), .val (.int (0 : Int32)), .val (.int u12), .val (.ref a101), .val (.ref a108), .val (.ref a121), .val (.ref a134), .val (.ref a147)] [(.int (1 : Int32))]))
    have hc260_241 : ¬ ((1 : Int32) = (0 : Int32)) := by decide
    refine Go.ifN X239.here hx (Jvm.hb hby at_260) ((if0 _ _).trans (feq hc260_241).1) (q := 263) rfl ?_
    refine Go.iconst X239.here hx (Jvm.hb hby at_263) (v := (1 : Int32)) rfl (q := 264) rfl ?_
    refine Go.goto X239.here hx (Jvm.hb hby at_264) (by decide) (q := 268) rfl ?_
    refine Go.retZ X239 hx hret hlk (Jvm.hb hby at_268) (Or.inr rfl) (by decide) (by decide) ?_
    exact ⟨rfl, N239⟩
  · -- u5 = 1
    refine Go.istore X0.here hx (Jvm.hb hby at_6) (l2 := #[.val (.int q1), .val (.int q2), .val (.int q3), .val (.int q4), .val (.int q5), .val (.int q6), .val (.int (1 : Int32)), .unset, .unset, .unset, .unset, .unset, .unset]) rfl (q := 8) rfl ?_
    refine Go.iloadN X0.here hx (Jvm.hb hby at_8) rfl (q := 9) rfl ?_
    refine Go.iconst X0.here hx (Jvm.hb hby at_9) (v := (3 : Int32)) rfl (q := 10) rfl ?_
    obtain ⟨u10, hu10⟩ : ∃ zq, (Int32.toUInt32 q1 >>> Int32.toUInt32 ((3 : Int32) &&& 31)).toInt32 = zq := ⟨_, rfl⟩
    refine Go.iushr X0.here hx (Jvm.hb hby at_10) hu10 (q := 11) rfl ?_
    refine Go.iconst X0.here hx (Jvm.hb hby at_11) (v := (3 : Int32)) rfl (q := 12) rfl ?_
    obtain ⟨u12, hu12⟩ : ∃ zq, u10 &&& (3 : Int32) = zq := ⟨_, rfl⟩
    refine Go.iand X0.here hx (Jvm.hb hby at_12) hu12 (q := 13) rfl ?_
    refine Go.istore X0.here hx (Jvm.hb hby at_13) (l2 := #[.val (.int q1), .val (.int q2), .val (.int q3), .val (.int q4), .val (.int q5), .val (.int q6), .val (.int (1 : Int32)), .val (.int u12), .unset, .unset, .unset, .unset, .unset]) rfl (q := 15) rfl ?_
    refine Go.iconst X0.here hx (Jvm.hb hby at_15) (v := (5 : Int32)) rfl (q := 16) rfl ?_
    refine Go.newarr X0 hx hZ (aty := .double) (word hw 0 rfl) e0 (Jvm.hb hby at_16) (by decide) (k := 5) (by decide) (by decide) (by decide) (by decide) (ad := "[D") (by decide) (q := 18) rfl ?_
    intro T242 h242 a242 kk242 g242 X242 e242 E242 R242 A242
    have r243 : n0 ≤ a242 := Nat.le_trans Z0 (Nat.le_of_eq g242.symm)
    have R242 : Row Z h242 a242 .double kk242 [(.double (0 : UInt64)), (.double (0 : UInt64)), (.double (0 : UInt64)), (.double (0 : UInt64)), (.double (0 : UInt64))] := R242
    refine Go.dup X242.here hx (Jvm.hb hby at_18) rfl (q := 19) rfl ?_
    refine Go.iconst X242.here hx (Jvm.hb hby at_19) (v := (0 : Int32)) rfl (q := 20) rfl ?_
    refine Go.iloadN X242.here hx (Jvm.hb hby at_20) rfl (q := 21) rfl ?_
    obtain ⟨u21, hu21⟩ : ∃ zq, FP.i2d q2 = zq := ⟨_, rfl⟩
    refine Go.i2d X242.here hx (Jvm.hb hby at_21) hu21 (q := 22) rfl ?_
    refine Go.dastore X242 hx hZ e242 R242 (Jvm.hb hby at_22) (i := 0) (by decide) (by decide) rfl (q := 23) rfl ?_
    intro T244 h244 X244 e244 W244 R244
    have N244 := Fr.snoc X244 N0 r243
    have R244 : Row Z h244 a242 .double kk242 [(.double u21), (.double (0 : UInt64)), (.double (0 : UInt64)), (.double (0 : UInt64)), (.double (0 : UInt64))] := R244
    refine Go.dup X244.here hx (Jvm.hb hby at_23) rfl (q := 24) rfl ?_
    refine Go.iconst X244.here hx (Jvm.hb hby at_24) (v := (1 : Int32)) rfl (q := 25) rfl ?_
    refine Go.iloadN X244.here hx (Jvm.hb hby at_25) rfl (q := 26) rfl ?_
    obtain ⟨u26, hu26⟩ : ∃ zq, FP.i2d q3 = zq := ⟨_, rfl⟩
    refine Go.i2d X244.here hx (Jvm.hb hby at_26) hu26 (q := 27) rfl ?_
    refine Go.dastore X244 hx hZ e244 R244 (Jvm.hb hby at_27) (i := 1) (by decide) (by decide) rfl (q := 28) rfl ?_
    intro T245 h245 X245 e245 W245 R245
    have N245 := Fr.snoc X245 N244 r243
    have R245 : Row Z h245 a242 .double kk242 [(.double u21), (.double u26), (.double (0 : UInt64)), (.double (0 : UInt64)), (.double (0 : UInt64))] := R245
    refine Go.dup X245.here hx (Jvm.hb hby at_28) rfl (q := 29) rfl ?_
    refine Go.iconst X245.here hx (Jvm.hb hby at_29) (v := (2 : Int32)) rfl (q := 30) rfl ?_
    refine Go.iloadN X245.here hx (Jvm.hb hby at_30) rfl (q := 31) rfl ?_
    refine Go.iloadN X245.here hx (Jvm.hb hby at_31) rfl (q := 32) rfl ?_
    obtain ⟨u32, hu32⟩ : ∃ zq, q2 ^^^ q3 = zq := ⟨_, rfl⟩
    refine Go.ixor X245.here hx (Jvm.hb hby at_32) hu32 (q := 33) rfl ?_
    obtain ⟨u33, hu33⟩ : ∃ zq, FP.i2d u32 = zq := ⟨_, rfl⟩
    refine Go.i2d X245.here hx (Jvm.hb hby at_33) hu33 (q := 34) rfl ?_
    refine Go.dastore X245 hx hZ e245 R245 (Jvm.hb hby at_34) (i := 2) (by decide) (by decide) rfl (q := 35) rfl ?_
    intro T246 h246 X246 e246 W246 R246
    have N246 := Fr.snoc X246 N245 r243
    have R246 : Row Z h246 a242 .double kk242 [(.double u21), (.double u26), (.double u33), (.double (0 : UInt64)), (.double (0 : UInt64))] := R246
    refine Go.dup X246.here hx (Jvm.hb hby at_35) rfl (q := 36) rfl ?_
    refine Go.iconst X246.here hx (Jvm.hb hby at_36) (v := (3 : Int32)) rfl (q := 37) rfl ?_
    refine Go.iloadN X246.here hx (Jvm.hb hby at_37) rfl (q := 38) rfl ?_
    refine Go.iloadN X246.here hx (Jvm.hb hby at_38) rfl (q := 39) rfl ?_
    obtain ⟨u39, hu39⟩ : ∃ zq, q2 - q3 = zq := ⟨_, rfl⟩
    refine Go.isub X246.here hx (Jvm.hb hby at_39) hu39 (q := 40) rfl ?_
    obtain ⟨u40, hu40⟩ : ∃ zq, FP.i2d u39 = zq := ⟨_, rfl⟩
    refine Go.i2d X246.here hx (Jvm.hb hby at_40) hu40 (q := 41) rfl ?_
    refine Go.dastore X246 hx hZ e246 R246 (Jvm.hb hby at_41) (i := 3) (by decide) (by decide) rfl (q := 42) rfl ?_
    intro T247 h247 X247 e247 W247 R247
    have N247 := Fr.snoc X247 N246 r243
    have R247 : Row Z h247 a242 .double kk242 [(.double u21), (.double u26), (.double u33), (.double u40), (.double (0 : UInt64))] := R247
    refine Go.dup X247.here hx (Jvm.hb hby at_42) rfl (q := 43) rfl ?_
    refine Go.iconst X247.here hx (Jvm.hb hby at_43) (v := (4 : Int32)) rfl (q := 44) rfl ?_
    refine Go.iloadN X247.here hx (Jvm.hb hby at_44) rfl (q := 45) rfl ?_
    refine Go.iconst X247.here hx (Jvm.hb hby at_45) (v := (3 : Int32)) rfl (q := 46) rfl ?_
    obtain ⟨u46, hu46⟩ : ∃ zq, q3 + (3 : Int32) = zq := ⟨_, rfl⟩
    refine Go.iadd X247.here hx (Jvm.hb hby at_46) hu46 (q := 47) rfl ?_
    obtain ⟨u47, hu47⟩ : ∃ zq, FP.i2d u46 = zq := ⟨_, rfl⟩
    refine Go.i2d X247.here hx (Jvm.hb hby at_47) hu47 (q := 48) rfl ?_
    refine Go.dastore X247 hx hZ e247 R247 (Jvm.hb hby at_48) (i := 4) (by decide) (by decide) rfl (q := 49) rfl ?_
    intro T248 h248 X248 e248 W248 R248
    have N248 := Fr.snoc X248 N247 r243
    have R248 : Row Z h248 a242 .double kk242 [(.double u21), (.double u26), (.double u33), (.double u40), (.double u47)] := R248
    refine Go.astore X248.here hx (Jvm.hb hby at_49) rfl (l2 := #[.val (.int q1), .val (.int q2), .val (.int q3), .val (.int q4), .val (.int q5), .val (.int q6), .val (.int (1 : Int32)), .val (.int u12), .val (.ref a242), .unset, .unset, .unset, .unset]) rfl (q := 51) rfl ?_
    refine Go.iconst X248.here hx (Jvm.hb hby at_51) (v := (5 : Int32)) rfl (q := 52) rfl ?_
    refine Go.newarr X248 hx hZ (aty := .double) (word hw 0 rfl) e248 (Jvm.hb hby at_52) (by decide) (k := 5) (by decide) (by decide) (by decide) (by decide) (ad := "[D") (by decide) (q := 54) rfl ?_
    intro T249 h249 a249 kk249 g249 X249 e249 E249 R249 A249
    have z250 : n0 ≤ h242.size := Nat.le_trans Z0 E242.1
    have z251 : n0 ≤ h244.size := Nat.le_trans z250 (Nat.le_of_eq W244.size.symm)
    have z252 : n0 ≤ h245.size := Nat.le_trans z251 (Nat.le_of_eq W245.size.symm)
    have z253 : n0 ≤ h246.size := Nat.le_trans z252 (Nat.le_of_eq W246.size.symm)
    have z254 : n0 ≤ h247.size := Nat.le_trans z253 (Nat.le_of_eq W247.size.symm)
    have z255 : n0 ≤ h248.size := Nat.le_trans z254 (Nat.le_of_eq W248.size.symm)
    have r256 : n0 ≤ a249 := Nat.le_trans z255 (Nat.le_of_eq g249.symm)
    have R249 : Row Z h249 a249 .double kk249 [(.double (0 : UInt64)), (.double (0 : UInt64)), (.double (0 : UInt64)), (.double (0 : UInt64)), (.double (0 : UInt64))] := R249
    refine Go.dup X249.here hx (Jvm.hb hby at_54) rfl (q := 55) rfl ?_
    refine Go.iconst X249.here hx (Jvm.hb hby at_55) (v := (0 : Int32)) rfl (q := 56) rfl ?_
    refine Go.iloadN X249.here hx (Jvm.hb hby at_56) rfl (q := 57) rfl ?_
    obtain ⟨u57, hu57⟩ : ∃ zq, FP.i2d q4 = zq := ⟨_, rfl⟩
    refine Go.i2d X249.here hx (Jvm.hb hby at_57) hu57 (q := 58) rfl ?_
    refine Go.dastore X249 hx hZ e249 R249 (Jvm.hb hby at_58) (i := 0) (by decide) (by decide) rfl (q := 59) rfl ?_
    intro T257 h257 X257 e257 W257 R257
    have N257 := Fr.snoc X257 N248 r256
    have R257 : Row Z h257 a249 .double kk249 [(.double u57), (.double (0 : UInt64)), (.double (0 : UInt64)), (.double (0 : UInt64)), (.double (0 : UInt64))] := R257
    refine Go.dup X257.here hx (Jvm.hb hby at_59) rfl (q := 60) rfl ?_
    refine Go.iconst X257.here hx (Jvm.hb hby at_60) (v := (1 : Int32)) rfl (q := 61) rfl ?_
    refine Go.iload X257.here hx (Jvm.hb hby at_61) rfl (q := 63) rfl ?_
    obtain ⟨u63, hu63⟩ : ∃ zq, FP.i2d q5 = zq := ⟨_, rfl⟩
    refine Go.i2d X257.here hx (Jvm.hb hby at_63) hu63 (q := 64) rfl ?_
    refine Go.dastore X257 hx hZ e257 R257 (Jvm.hb hby at_64) (i := 1) (by decide) (by decide) rfl (q := 65) rfl ?_
    intro T258 h258 X258 e258 W258 R258
    have N258 := Fr.snoc X258 N257 r256
    have R258 : Row Z h258 a249 .double kk249 [(.double u57), (.double u63), (.double (0 : UInt64)), (.double (0 : UInt64)), (.double (0 : UInt64))] := R258
    refine Go.dup X258.here hx (Jvm.hb hby at_65) rfl (q := 66) rfl ?_
    refine Go.iconst X258.here hx (Jvm.hb hby at_66) (v := (2 : Int32)) rfl (q := 67) rfl ?_
    refine Go.iload X258.here hx (Jvm.hb hby at_67) rfl (q := 69) rfl ?_
    obtain ⟨u69, hu69⟩ : ∃ zq, FP.i2d q6 = zq := ⟨_, rfl⟩
    refine Go.i2d X258.here hx (Jvm.hb hby at_69) hu69 (q := 70) rfl ?_
    refine Go.dastore X258 hx hZ e258 R258 (Jvm.hb hby at_70) (i := 2) (by decide) (by decide) rfl (q := 71) rfl ?_
    intro T259 h259 X259 e259 W259 R259
    have N259 := Fr.snoc X259 N258 r256
    have R259 : Row Z h259 a249 .double kk249 [(.double u57), (.double u63), (.double u69), (.double (0 : UInt64)), (.double (0 : UInt64))] := R259
    refine Go.dup X259.here hx (Jvm.hb hby at_71) rfl (q := 72) rfl ?_
    refine Go.iconst X259.here hx (Jvm.hb hby at_72) (v := (3 : Int32)) rfl (q := 73) rfl ?_
    refine Go.iloadN X259.here hx (Jvm.hb hby at_73) rfl (q := 74) rfl ?_
    refine Go.iload X259.here hx (Jvm.hb hby at_74) rfl (q := 76) rfl ?_
    obtain ⟨u76, hu76⟩ : ∃ zq, q4 ^^^ q5 = zq := ⟨_, rfl⟩
    refine Go.ixor X259.here hx (Jvm.hb hby at_76) hu76 (q := 77) rfl ?_
    obtain ⟨u77, hu77⟩ : ∃ zq, FP.i2d u76 = zq := ⟨_, rfl⟩
    refine Go.i2d X259.here hx (Jvm.hb hby at_77) hu77 (q := 78) rfl ?_
    refine Go.dastore X259 hx hZ e259 R259 (Jvm.hb hby at_78) (i := 3) (by decide) (by decide) rfl (q := 79) rfl ?_
    intro T260 h260 X260 e260 W260 R260
    have N260 := Fr.snoc X260 N259 r256
    have R260 : Row Z h260 a249 .double kk249 [(.double u57), (.double u63), (.double u69), (.double u77), (.double (0 : UInt64))] := R260
    refine Go.dup X260.here hx (Jvm.hb hby at_79) rfl (q := 80) rfl ?_
    refine Go.iconst X260.here hx (Jvm.hb hby at_80) (v := (4 : Int32)) rfl (q := 81) rfl ?_
    refine Go.iload X260.here hx (Jvm.hb hby at_81) rfl (q := 83) rfl ?_
    refine Go.iload X260.here hx (Jvm.hb hby at_83) rfl (q := 85) rfl ?_
    obtain ⟨u85, hu85⟩ : ∃ zq, q6 - q5 = zq := ⟨_, rfl⟩
    refine Go.isub X260.here hx (Jvm.hb hby at_85) hu85 (q := 86) rfl ?_
    obtain ⟨u86, hu86⟩ : ∃ zq, FP.i2d u85 = zq := ⟨_, rfl⟩
    refine Go.i2d X260.here hx (Jvm.hb hby at_86) hu86 (q := 87) rfl ?_
    refine Go.dastore X260 hx hZ e260 R260 (Jvm.hb hby at_87) (i := 4) (by decide) (by decide) rfl (q := 88) rfl ?_
    intro T261 h261 X261 e261 W261 R261
    have N261 := Fr.snoc X261 N260 r256
    have R261 : Row Z h261 a249 .double kk249 [(.double u57), (.double u63), (.double u69), (.double u77), (.double u86)] := R261
    refine Go.astore X261.here hx (Jvm.hb hby at_88) rfl (l2 := #[.val (.int q1), .val (.int q2), .val (.int q3), .val (.int q4), .val (.int q5), .val (.int q6), .val (.int (1 : Int32)), .val (.int u12), .val (.ref a242), .val (.ref a249), .unset, .unset, .unset]) rfl (q := 90) rfl ?_
    refine Go.iconst X261.here hx (Jvm.hb hby at_90) (v := (5 : Int32)) rfl (q := 91) rfl ?_
    refine Go.newarr X261 hx hZ (aty := .double) (word hw 0 rfl) e261 (Jvm.hb hby at_91) (by decide) (k := 5) (by decide) (by decide) (by decide) (by decide) (ad := "[D") (by decide) (q := 93) rfl ?_
    intro T262 h262 a262 kk262 g262 X262 e262 E262 R262 A262
    have z263 : n0 ≤ h249.size := Nat.le_trans z255 E249.1
    have z264 : n0 ≤ h257.size := Nat.le_trans z263 (Nat.le_of_eq W257.size.symm)
    have z265 : n0 ≤ h258.size := Nat.le_trans z264 (Nat.le_of_eq W258.size.symm)
    have z266 : n0 ≤ h259.size := Nat.le_trans z265 (Nat.le_of_eq W259.size.symm)
    have z267 : n0 ≤ h260.size := Nat.le_trans z266 (Nat.le_of_eq W260.size.symm)
    have z268 : n0 ≤ h261.size := Nat.le_trans z267 (Nat.le_of_eq W261.size.symm)
    have r269 : n0 ≤ a262 := Nat.le_trans z268 (Nat.le_of_eq g262.symm)
    have R262 : Row Z h262 a262 .double kk262 [(.double (0 : UInt64)), (.double (0 : UInt64)), (.double (0 : UInt64)), (.double (0 : UInt64)), (.double (0 : UInt64))] := R262
    refine Go.dup X262.here hx (Jvm.hb hby at_93) rfl (q := 94) rfl ?_
    refine Go.iconst X262.here hx (Jvm.hb hby at_94) (v := (0 : Int32)) rfl (q := 95) rfl ?_
    refine Go.iloadN X262.here hx (Jvm.hb hby at_95) rfl (q := 96) rfl ?_
    obtain ⟨u96, hu96⟩ : ∃ zq, FP.i2d q4 = zq := ⟨_, rfl⟩
    refine Go.i2d X262.here hx (Jvm.hb hby at_96) hu96 (q := 97) rfl ?_
    refine Go.dastore X262 hx hZ e262 R262 (Jvm.hb hby at_97) (i := 0) (by decide) (by decide) rfl (q := 98) rfl ?_
    intro T270 h270 X270 e270 W270 R270
    have N270 := Fr.snoc X270 N261 r269
    have R270 : Row Z h270 a262 .double kk262 [(.double u96), (.double (0 : UInt64)), (.double (0 : UInt64)), (.double (0 : UInt64)), (.double (0 : UInt64))] := R270
    refine Go.dup X270.here hx (Jvm.hb hby at_98) rfl (q := 99) rfl ?_
    refine Go.iconst X270.here hx (Jvm.hb hby at_99) (v := (1 : Int32)) rfl (q := 100) rfl ?_
    refine Go.iload X270.here hx (Jvm.hb hby at_100) rfl (q := 102) rfl ?_
    obtain ⟨u102, hu102⟩ : ∃ zq, FP.i2d q5 = zq := ⟨_, rfl⟩
    refine Go.i2d X270.here hx (Jvm.hb hby at_102) hu102 (q := 103) rfl ?_
    refine Go.dastore X270 hx hZ e270 R270 (Jvm.hb hby at_103) (i := 1) (by decide) (by decide) rfl (q := 104) rfl ?_
    intro T271 h271 X271 e271 W271 R271
    have N271 := Fr.snoc X271 N270 r269
    have R271 : Row Z h271 a262 .double kk262 [(.double u96), (.double u102), (.double (0 : UInt64)), (.double (0 : UInt64)), (.double (0 : UInt64))] := R271
    refine Go.dup X271.here hx (Jvm.hb hby at_104) rfl (q := 105) rfl ?_
    refine Go.iconst X271.here hx (Jvm.hb hby at_105) (v := (2 : Int32)) rfl (q := 106) rfl ?_
    refine Go.iload X271.here hx (Jvm.hb hby at_106) rfl (q := 108) rfl ?_
    obtain ⟨u108, hu108⟩ : ∃ zq, FP.i2d q6 = zq := ⟨_, rfl⟩
    refine Go.i2d X271.here hx (Jvm.hb hby at_108) hu108 (q := 109) rfl ?_
    refine Go.dastore X271 hx hZ e271 R271 (Jvm.hb hby at_109) (i := 2) (by decide) (by decide) rfl (q := 110) rfl ?_
    intro T272 h272 X272 e272 W272 R272
    have N272 := Fr.snoc X272 N271 r269
    have R272 : Row Z h272 a262 .double kk262 [(.double u96), (.double u102), (.double u108), (.double (0 : UInt64)), (.double (0 : UInt64))] := R272
    refine Go.dup X272.here hx (Jvm.hb hby at_110) rfl (q := 111) rfl ?_
    refine Go.iconst X272.here hx (Jvm.hb hby at_111) (v := (3 : Int32)) rfl (q := 112) rfl ?_
    refine Go.iloadN X272.here hx (Jvm.hb hby at_112) rfl (q := 113) rfl ?_
    refine Go.iload X272.here hx (Jvm.hb hby at_113) rfl (q := 115) rfl ?_
    obtain ⟨u115, hu115⟩ : ∃ zq, q4 ^^^ q5 = zq := ⟨_, rfl⟩
    refine Go.ixor X272.here hx (Jvm.hb hby at_115) hu115 (q := 116) rfl ?_
    obtain ⟨u116, hu116⟩ : ∃ zq, FP.i2d u115 = zq := ⟨_, rfl⟩
    refine Go.i2d X272.here hx (Jvm.hb hby at_116) hu116 (q := 117) rfl ?_
    refine Go.dastore X272 hx hZ e272 R272 (Jvm.hb hby at_117) (i := 3) (by decide) (by decide) rfl (q := 118) rfl ?_
    intro T273 h273 X273 e273 W273 R273
    have N273 := Fr.snoc X273 N272 r269
    have R273 : Row Z h273 a262 .double kk262 [(.double u96), (.double u102), (.double u108), (.double u116), (.double (0 : UInt64))] := R273
    refine Go.dup X273.here hx (Jvm.hb hby at_118) rfl (q := 119) rfl ?_
    refine Go.iconst X273.here hx (Jvm.hb hby at_119) (v := (4 : Int32)) rfl (q := 120) rfl ?_
    refine Go.iload X273.here hx (Jvm.hb hby at_120) rfl (q := 122) rfl ?_
    refine Go.iload X273.here hx (Jvm.hb hby at_122) rfl (q := 124) rfl ?_
    obtain ⟨u124, hu124⟩ : ∃ zq, q6 - q5 = zq := ⟨_, rfl⟩
    refine Go.isub X273.here hx (Jvm.hb hby at_124) hu124 (q := 125) rfl ?_
    obtain ⟨u125, hu125⟩ : ∃ zq, FP.i2d u124 = zq := ⟨_, rfl⟩
    refine Go.i2d X273.here hx (Jvm.hb hby at_125) hu125 (q := 126) rfl ?_
    refine Go.dastore X273 hx hZ e273 R273 (Jvm.hb hby at_126) (i := 4) (by decide) (by decide) rfl (q := 127) rfl ?_
    intro T274 h274 X274 e274 W274 R274
    have N274 := Fr.snoc X274 N273 r269
    have R274 : Row Z h274 a262 .double kk262 [(.double u96), (.double u102), (.double u108), (.double u116), (.double u125)] := R274
    refine Go.astore X274.here hx (Jvm.hb hby at_127) rfl (l2 := #[.val (.int q1), .val (.int q2), .val (.int q3), .val (.int q4), .val (.int q5), .val (.int q6), .val (.int (1 : Int32)), .val (.int u12), .val (.ref a242), .val (.ref a249), .val (.ref a262), .unset, .unset]) rfl (q := 129) rfl ?_
    refine Go.iconst X274.here hx (Jvm.hb hby at_129) (v := (5 : Int32)) rfl (q := 130) rfl ?_
    refine Go.newarr X274 hx hZ (aty := .double) (word hw 0 rfl) e274 (Jvm.hb hby at_130) (by decide) (k := 5) (by decide) (by decide) (by decide) (by decide) (ad := "[D") (by decide) (q := 132) rfl ?_
    intro T275 h275 a275 kk275 g275 X275 e275 E275 R275 A275
    have z276 : n0 ≤ h262.size := Nat.le_trans z268 E262.1
    have z277 : n0 ≤ h270.size := Nat.le_trans z276 (Nat.le_of_eq W270.size.symm)
    have z278 : n0 ≤ h271.size := Nat.le_trans z277 (Nat.le_of_eq W271.size.symm)
    have z279 : n0 ≤ h272.size := Nat.le_trans z278 (Nat.le_of_eq W272.size.symm)
    have z280 : n0 ≤ h273.size := Nat.le_trans z279 (Nat.le_of_eq W273.size.symm)
    have z281 : n0 ≤ h274.size := Nat.le_trans z280 (Nat.le_of_eq W274.size.symm)
    have r282 : n0 ≤ a275 := Nat.le_trans z281 (Nat.le_of_eq g275.symm)
    have R275 : Row Z h275 a275 .double kk275 [(.double (0 : UInt64)), (.double (0 : UInt64)), (.double (0 : UInt64)), (.double (0 : UInt64)), (.double (0 : UInt64))] := R275
    refine Go.dup X275.here hx (Jvm.hb hby at_132) rfl (q := 133) rfl ?_
    refine Go.iconst X275.here hx (Jvm.hb hby at_133) (v := (0 : Int32)) rfl (q := 134) rfl ?_
    refine Go.ldc2D X275 hx hown (mvT hZ (word hw 1 rfl)) (Jvm.hb hby at_134) (q := 137) rfl ?_
    refine Go.dastore X275 hx hZ e275 R275 (Jvm.hb hby at_137) (i := 0) (by decide) (by decide) rfl (q := 138) rfl ?_
    intro T283 h283 X283 e283 W283 R283
    have N283 := Fr.snoc X283 N274 r282
    have R283 : Row Z h283 a275 .double kk275 [(.double (4602678819172646912 : UInt64)), (.double (0 : UInt64)), (.double (0 : UInt64)), (.double (0 : UInt64)), (.double (0 : UInt64))] := R283
    refine Go.dup X283.here hx (Jvm.hb hby at_138) rfl (q := 139) rfl ?_
    refine Go.iconst X283.here hx (Jvm.hb hby at_139) (v := (1 : Int32)) rfl (q := 140) rfl ?_
    refine Go.ldc2D X283 hx hown (mvT hZ (word hw 1 rfl)) (Jvm.hb hby at_140) (q := 143) rfl ?_
    refine Go.dastore X283 hx hZ e283 R283 (Jvm.hb hby at_143) (i := 1) (by decide) (by decide) rfl (q := 144) rfl ?_
    intro T284 h284 X284 e284 W284 R284
    have N284 := Fr.snoc X284 N283 r282
    have R284 : Row Z h284 a275 .double kk275 [(.double (4602678819172646912 : UInt64)), (.double (4602678819172646912 : UInt64)), (.double (0 : UInt64)), (.double (0 : UInt64)), (.double (0 : UInt64))] := R284
    refine Go.dup X284.here hx (Jvm.hb hby at_144) rfl (q := 145) rfl ?_
    refine Go.iconst X284.here hx (Jvm.hb hby at_145) (v := (2 : Int32)) rfl (q := 146) rfl ?_
    refine Go.ldc2D X284 hx hown (mvT hZ (word hw 1 rfl)) (Jvm.hb hby at_146) (q := 149) rfl ?_
    refine Go.dastore X284 hx hZ e284 R284 (Jvm.hb hby at_149) (i := 2) (by decide) (by decide) rfl (q := 150) rfl ?_
    intro T285 h285 X285 e285 W285 R285
    have N285 := Fr.snoc X285 N284 r282
    have R285 : Row Z h285 a275 .double kk275 [(.double (4602678819172646912 : UInt64)), (.double (4602678819172646912 : UInt64)), (.double (4602678819172646912 : UInt64)), (.double (0 : UInt64)), (.double (0 : UInt64))] := R285
    refine Go.dup X285.here hx (Jvm.hb hby at_150) rfl (q := 151) rfl ?_
    refine Go.iconst X285.here hx (Jvm.hb hby at_151) (v := (3 : Int32)) rfl (q := 152) rfl ?_
    refine Go.ldc2D X285 hx hown (mvT hZ (word hw 1 rfl)) (Jvm.hb hby at_152) (q := 155) rfl ?_
    refine Go.dastore X285 hx hZ e285 R285 (Jvm.hb hby at_155) (i := 3) (by decide) (by decide) rfl (q := 156) rfl ?_
    intro T286 h286 X286 e286 W286 R286
    have N286 := Fr.snoc X286 N285 r282
    have R286 : Row Z h286 a275 .double kk275 [(.double (4602678819172646912 : UInt64)), (.double (4602678819172646912 : UInt64)), (.double (4602678819172646912 : UInt64)), (.double (4602678819172646912 : UInt64)), (.double (0 : UInt64))] := R286
    refine Go.dup X286.here hx (Jvm.hb hby at_156) rfl (q := 157) rfl ?_
    refine Go.iconst X286.here hx (Jvm.hb hby at_157) (v := (4 : Int32)) rfl (q := 158) rfl ?_
    refine Go.ldc2D X286 hx hown (mvT hZ (word hw 1 rfl)) (Jvm.hb hby at_158) (q := 161) rfl ?_
    refine Go.dastore X286 hx hZ e286 R286 (Jvm.hb hby at_161) (i := 4) (by decide) (by decide) rfl (q := 162) rfl ?_
    intro T287 h287 X287 e287 W287 R287
    have N287 := Fr.snoc X287 N286 r282
    have R287 : Row Z h287 a275 .double kk275 [(.double (4602678819172646912 : UInt64)), (.double (4602678819172646912 : UInt64)), (.double (4602678819172646912 : UInt64)), (.double (4602678819172646912 : UInt64)), (.double (4602678819172646912 : UInt64))] := R287
    refine Go.astore X287.here hx (Jvm.hb hby at_162) rfl (l2 := #[.val (.int q1), .val (.int q2), .val (.int q3), .val (.int q4), .val (.int q5), .val (.int q6), .val (.int (1 : Int32)), .val (.int u12), .val (.ref a242), .val (.ref a249), .val (.ref a262), .val (.ref a275), .unset]) rfl (q := 164) rfl ?_
    refine Go.new X287 hx hZ hown (word hw 2 rfl) (word hw 3 rfl) (word hw 4 rfl) e287 (Jvm.hb hby at_164) (by decide) (by decide) (q := 167) rfl ?_
    intro T288 h288 a288 g288 X288 e288 E288 A288 D288
    have z289 : n0 ≤ h275.size := Nat.le_trans z281 E275.1
    have z290 : n0 ≤ h283.size := Nat.le_trans z289 (Nat.le_of_eq W283.size.symm)
    have z291 : n0 ≤ h284.size := Nat.le_trans z290 (Nat.le_of_eq W284.size.symm)
    have z292 : n0 ≤ h285.size := Nat.le_trans z291 (Nat.le_of_eq W285.size.symm)
    have z293 : n0 ≤ h286.size := Nat.le_trans z292 (Nat.le_of_eq W286.size.symm)
    have z294 : n0 ≤ h287.size := Nat.le_trans z293 (Nat.le_of_eq W287.size.symm)
    have r295 : n0 ≤ a288 := Nat.le_trans z294 (Nat.le_of_eq g288.symm)
    have F296 : Fld Z h288 a288 "com/example/ratewright/ratewright/inference/GradientCorrection" "dimension" "I" (.int (0 : Int32)) := D288 (Or.inr (word hw 12 rfl)) (ty := .int) (by decide)
    have F297 : Fld Z h288 a288 "com/example/ratewright/ratewright/inference/GradientCorrection" "unknowns" "I" (.int (0 : Int32)) := D288 (Or.inr (word hw 14 rfl)) (ty := .int) (by decide)
    have F298 : Fld Z h288 a288 "com/example/ratewright/ratewright/inference/GradientCorrection" "coefficients" "[D" .null := D288 (Or.inl (word hw 16 rfl)) (ty := (.array .double)) (by decide)
    have F299 : Fld Z h288 a288 "com/example/ratewright/ratewright/inference/GradientCorrection" "fitted" "Lcom/example/ratewright/ratewright/inference/GradientCorrection$NormalEquations;" .null := D288 (Or.inr (word hw 31 rfl)) (ty := (.object "com/example/ratewright/ratewright/inference/GradientCorrection$NormalEquations")) (by decide)
    have F300 : Fld Z h288 a288 "com/example/ratewright/ratewright/inference/GradientCorrection" "heldOut" "Lcom/example/ratewright/ratewright/inference/GradientCorrection$NormalEquations;" .null := D288 (Or.inr (word hw 33 rfl)) (ty := (.object "com/example/ratewright/ratewright/inference/GradientCorrection$NormalEquations")) (by decide)
    have F301 : Fld Z h288 a288 "com/example/ratewright/ratewright/inference/GradientCorrection" "heldOutTerms" "[[D" .null := D288 (Or.inr (word hw 37 rfl)) (ty := (.array (.array .double))) (by decide)
    have F302 : Fld Z h288 a288 "com/example/ratewright/ratewright/inference/GradientCorrection" "heldOutMisses" "[D" .null := D288 (Or.inr (word hw 39 rfl)) (ty := (.array .double)) (by decide)
    have F303 : Fld Z h288 a288 "com/example/ratewright/ratewright/inference/GradientCorrection" "pendingTerms" "[[D" .null := D288 (Or.inr (word hw 42 rfl)) (ty := (.array (.array .double))) (by decide)
    have F304 : Fld Z h288 a288 "com/example/ratewright/ratewright/inference/GradientCorrection" "pendingMisses" "[D" .null := D288 (Or.inr (word hw 44 rfl)) (ty := (.array .double)) (by decide)
    refine Go.dup X288.here hx (Jvm.hb hby at_167) rfl (q := 168) rfl ?_
    refine Go.iload X288.here hx (Jvm.hb hby at_168) rfl (q := 170) rfl ?_
    refine Go.iload X288.here hx (Jvm.hb hby at_170) rfl (q := 172) rfl ?_
    have z306 : n0 ≤ h288.size := Nat.le_trans z294 E288.1
    refine Go.special X288 hx hZ (y := (⟨"com/example/ratewright/ratewright/inference/GradientCorrection", "<init>", "(II)V"⟩ : MethodName)) rfl hown (word hw 5 rfl) (word hw 6 rfl) (word hw 7 rfl) (word hw 4 rfl) (by decide) (rm_init1 l Z a0 hw a288 u12 (.int (0 : Int32)) (.int (0 : Int32)) .null .null .null .null .null .null .null h288 n0 z306 A288 F296 F297 F298 F299 F300 F301 F302 F303 F304 r295 (own_four hu12)) e288 (a := a288) (argsL := [(.int (1 : Int32)), (.int u12)]) (rest := [(.ref a288)]) (W := 1) (Jvm.hb hby at_172) rfl rfl (lenOf (pd1) rfl) (by rw [hml]; rfl) (Nat.le_of_eq rfl) (by decide) (by decide) (by decide) (by decide) (q := 175) rfl ?_
    intro T305 L305 w305 X305 hQ305
    obtain ⟨a305, kk305_1, rfl, M305, K305, G305_0, P305_0, P305_1, P305_2, P305_3⟩ := hQ305
    have N305 := Fr.app N287 M305
    have r307 : n0 ≤ a305 := Nat.le_trans z306 (G305_0)
    show Go p e below _ (T305.setTop (mkF m 175 #[.val (.int q1), .val (.int q2), .val (.int q3), .val (.int q4), .val (.int q5), .val (.int q6), .val (.int (1 : Int32)), .val (.int u12), .val (.ref a242), .val (.ref a249), .val (.ref a262), .val (.ref a275), .unset] [(.ref a288)]))
    refine Go.astore X305.here hx (Jvm.hb hby at_175) rfl (l2 := #[.val (.int q1), .val (.int q2), .val (.int q3), .val (.int q4), .val (.int q5), .val (.int q6), .val (.int (1 : Int32)), .val (.int u12), .val (.ref a242), .val (.ref a249), .val (.ref a262), .val (.ref a275), .val (.ref a288)]) rfl (q := 177) rfl ?_
    refine Go.aload X305.here hx (Jvm.hb hby at_177) rfl rfl (q := 179) rfl ?_
    refine Go.aload X305.here hx (Jvm.hb hby at_179) rfl rfl (q := 181) rfl ?_
    refine Go.aload X305.here hx (Jvm.hb hby at_181) rfl rfl (q := 183) rfl ?_
    refine Go.aload X305.here hx (Jvm.hb hby at_183) rfl rfl (q := 185) rfl ?_
    have f309 := R248.ext E249
    have ne311 : a242 ≠ a249 := Nat.ne_of_lt (Nat.lt_of_lt_of_le R248.lt (Nat.le_of_eq g249.symm))
    have f310 := f309.other W257 ne311
    have f312 := f310.other W258 ne311
    have f313 := f312.other W259 ne311
    have f314 := f313.other W260 ne311
    have f315 := f314.other W261 ne311
    have f316 := f315.ext E262
    have ne318 : a242 ≠ a262 := Nat.ne_of_lt (Nat.lt_of_lt_of_le f315.lt (Nat.le_of_eq g262.symm))
    have f317 := f316.other W270 ne318
    have f319 := f317.other W271 ne318
    have f320 := f319.other W272 ne318
    have f321 := f320.other W273 ne318
    have f322 := f321.other W274 ne318
    have f323 := f322.ext E275
    have ne325 : a242 ≠ a275 := Nat.ne_of_lt (Nat.lt_of_lt_of_le f322.lt (Nat.le_of_eq g275.symm))
    have f324 := f323.other W283 ne325
    have f326 := f324.other W284 ne325
    have f327 := f326.other W285 ne325
    have f328 := f327.other W286 ne325
    have f329 := f328.other W287 ne325
    have f330 := f329.ext E288
    have ne332 : a242 ≠ a288 := Nat.ne_of_lt (Nat.lt_of_lt_of_le f329.lt (Nat.le_of_eq g288.symm))
    have f331 := f330.keep K305 (ninS ne332 nin0)
    have f333 := R261.ext E262
    have ne335 : a249 ≠ a262 := Nat.ne_of_lt (Nat.lt_of_lt_of_le R261.lt (Nat.le_of_eq g262.symm))
    have f334 := f333.other W270 ne335
    have f336 := f334.other W271 ne335
    have f337 := f336.other W272 ne335
    have f338 := f337.other W273 ne335
    have f339 := f338.other W274 ne335
    have f340 := f339.ext E275
    have ne342 : a249 ≠ a275 := Nat.ne_of_lt (Nat.lt_of_lt_of_le f339.lt (Nat.le_of_eq g275.symm))
    have f341 := f340.other W283 ne342
    have f343 := f341.other W284 ne342
    have f344 := f343.other W285 ne342
    have f345 := f344.other W286 ne342
    have f346 := f345.other W287 ne342
    have f347 := f346.ext E288
    have ne349 : a249 ≠ a288 := Nat.ne_of_lt (Nat.lt_of_lt_of_le f346.lt (Nat.le_of_eq g288.symm))
    have f348 := f347.keep K305 (ninS ne349 nin0)
    have f350 := R287.ext E288
    have ne352 : a275 ≠ a288 := Nat.ne_of_lt (Nat.lt_of_lt_of_le R287.lt (Nat.le_of_eq g288.symm))
    have f351 := f350.keep K305 (ninS ne352 nin0)
    have ne353 : a275 ≠ a305 := Nat.ne_of_lt (Nat.lt_of_lt_of_le f350.lt (G305_0))
    have z354 : n0 ≤ T305.heap.size := Nat.le_trans z306 K305.1
    refine Go.virtual X305 hx hZ (y := (⟨"com/example/ratewright/ratewright/inference/GradientCorrection", "apply", "([D[D[D)V"⟩ : MethodName)) hown (word hw 45 rfl) (word hw 46 rfl) (word hw 48 rfl) (word hw 47 rfl) (word hw 49 rfl) (word hw 4 rfl) (by decide) (rm_app1 l Z a0 hw a288 a242 a249 a275 a305 kk242 kk249 kk275 kk305_1 u57 u63 u69 u77 u86 u21 u26 u33 u40 u47 (4602678819172646912 : UInt64) (4602678819172646912 : UInt64) (4602678819172646912 : UInt64) (4602678819172646912 : UInt64) (4602678819172646912 : UInt64) T305.heap n0 z354 P305_1 P305_2 f331 f348 f351 P305_3 (Ne.symm ne325) (Ne.symm ne342) ne353 ne352 r282 (⟨(own_one (own_fin hu57) (own_fin hu21)).1, trivial⟩)) rfl P305_0  (argsL := [(.ref a242), (.ref a249), (.ref a275)]) (rest := []) (W := 0) (Jvm.hb hby at_185) rfl rfl (lenOf (pd2) rfl) (by rw [hml]; rfl) (Nat.le_of_eq rfl) (by decide) (by decide) (by decide) (by decide) (q := 188) rfl ?_
    intro T308 L308 w308 X308 hQ308
    obtain ⟨rfl, M308, K308, P308_0⟩ := hQ308
    have N308 := Fr.app N305 M308
    show Go p e below _ (T308.setTop (mkF m 188 #[.val (.int q1), .val (.int q2), .val (.int q3), .val (.int q4), .val (.int q5), .val (.int q6), .val (.int (1 : Int32)), .val (.int u12), .val (.ref a242), .val (.ref a249), .val (.ref a262), .val (.ref a275), .val (.ref a288)] []))
    refine Go.aload X308.here hx (Jvm.hb hby at_188) rfl rfl (q := 190) rfl ?_
    refine Go.aload X308.here hx (Jvm.hb hby at_190) rfl rfl (q := 192) rfl ?_
    refine Go.aload X308.here hx (Jvm.hb hby at_192) rfl rfl (q := 194) rfl ?_
    refine Go.iconst X308.here hx (Jvm.hb hby at_194) (v := (0 : Int32)) rfl (q := 195) rfl ?_
    refine Go.iload X308.here hx (Jvm.hb hby at_195) rfl (q := 197) rfl ?_
    have f356 := f348.keep K308 (ninS ne342 nin0)
    have f357 := R274.ext E275
    have ne359 : a262 ≠ a275 := Nat.ne_of_lt (Nat.lt_of_lt_of_le R274.lt (Nat.le_of_eq g275.symm))
    have f358 := f357.other W283 ne359
    have f360 := f358.other W284 ne359
    have f361 := f360.other W285 ne359
    have f362 := f361.other W286 ne359
    have f363 := f362.other W287 ne359
    have f364 := f363.ext E288
    have ne366 : a262 ≠ a288 := Nat.ne_of_lt (Nat.lt_of_lt_of_le f363.lt (Nat.le_of_eq g288.symm))
    have f365 := f364.keep K305 (ninS ne366 nin0)
    have f367 := f365.keep K308 (ninS ne359 nin0)
    have z368 : n0 ≤ T308.heap.size := Nat.le_trans z354 K308.1
    refine Go.static X308 hx hZ (y := (⟨"com/example/ratewright/ratewright/inference/GradientCorrectionApplyPinLaw", "slot", "([D[D[DII)Z"⟩ : MethodName)) hown (word hw 50 rfl) (word hw 51 rfl) (word hw 53 rfl) (word hw 52 rfl) (by decide) (rm_slot0a l Z a0 hw a275 a249 a262 kk275 kk249 kk262 (1 : Int32) (own_r u57 u21) (4602678819172646912 : UInt64) (4602678819172646912 : UInt64) (4602678819172646912 : UInt64) (4602678819172646912 : UInt64) u57 u63 u69 u77 u86 u96 u102 u108 u116 u125 T308.heap n0 z368 P308_0 f356 f367 (by decide) (fun o => (own_same hu57 hu96 o)) (fun o => (own_hit hu57 hu21 hu96 o))) rfl  (argsL := [(.ref a275), (.ref a249), (.ref a262), (.int (0 : Int32)), (.int (1 : Int32))]) (rest := []) (W := 0) (Jvm.hb hby at_197) rfl rfl (lenOf (pd3) rfl) (by rw [hml]; rfl) (Nat.le_of_eq rfl) (by decide) (by decide) (by decide) (by decide) (q := 200) rfl ?_
    intro T355 L355 w355 X355 hQ355
    obtain ⟨rfl, M355, q355⟩ := hQ355
    have N355 := Fr.app N308 M355
    show Go p e below _ (T355.setTop (mkF m 200 #[.val (.int q1), .val (.int q2), .val (.int q3), .val (.int q4), .val (.int q5), .val (.int q6), .val (.int (1 : Int32)), .val (.int u12), .val (.ref a242), .val (.ref a249), .val (.ref a262), .val (.ref a275), .val (.ref a288)] [(.int (1 : Int32))]))
    have hc200_370 : ¬ ((1 : Int32) = (0 : Int32)) := by decide
    refine Go.ifN X355.here hx (Jvm.hb hby at_200) ((if0 _ _).trans (feq hc200_370).1) (q := 203) rfl ?_
    refine Go.aload X355.here hx (Jvm.hb hby at_203) rfl rfl (q := 205) rfl ?_
    refine Go.aload X355.here hx (Jvm.hb hby at_205) rfl rfl (q := 207) rfl ?_
    refine Go.aload X355.here hx (Jvm.hb hby at_207) rfl rfl (q := 209) rfl ?_
    refine Go.iconst X355.here hx (Jvm.hb hby at_209) (v := (1 : Int32)) rfl (q := 210) rfl ?_
    refine Go.iload X355.here hx (Jvm.hb hby at_210) rfl (q := 212) rfl ?_
    refine Go.static X355 hx hZ (y := (⟨"com/example/ratewright/ratewright/inference/GradientCorrectionApplyPinLaw", "slot", "([D[D[DII)Z"⟩ : MethodName)) hown (word hw 50 rfl) (word hw 51 rfl) (word hw 53 rfl) (word hw 52 rfl) (by decide) (rm_slot1b l Z a0 hw a275 a249 a262 kk275 kk249 kk262 (1 : Int32) (own_r u57 u21) (4602678819172646912 : UInt64) (4602678819172646912 : UInt64) (4602678819172646912 : UInt64) (4602678819172646912 : UInt64) u57 u63 u69 u77 u86 u96 u102 u108 u116 u125 T308.heap n0 z368 P308_0 f356 f367 (by decide) (fun o => (own_same hu63 hu102 o)) (fun o => own_half o)) q355  (argsL := [(.ref a275), (.ref a249), (.ref a262), (.int (1 : Int32)), (.int (1 : Int32))]) (rest := []) (W := 0) (Jvm.hb hby at_212) rfl rfl (lenOf (pd3) rfl) (by rw [hml]; rfl) (Nat.le_of_eq rfl) (by decide) (by decide) (by decide) (by decide) (q := 215) rfl ?_
    intro T371 L371 w371 X371 hQ371
    obtain ⟨rfl, M371, q371⟩ := hQ371
    have N371 := Fr.app N355 M371
    show Go p e below _ (T371.setTop (mkF m 215 #[.val (.int q1), .val (.int q2), .val (.int q3), .val (.int q4), .val (.int q5), .val (.int q6), .val (.int (1 : Int32)), .val (.int u12), .val (.ref a242), .val (.ref a249), .val (.ref a262), .val (.ref a275), .val (.ref a288)] [(.int (1 : Int32))]))
    have hc215_373 : ¬ ((1 : Int32) = (0 : Int32)) := by decide
    refine Go.ifN X371.here hx (Jvm.hb hby at_215) ((if0 _ _).trans (feq hc215_373).1) (q := 218) rfl ?_
    refine Go.aload X371.here hx (Jvm.hb hby at_218) rfl rfl (q := 220) rfl ?_
    refine Go.aload X371.here hx (Jvm.hb hby at_220) rfl rfl (q := 222) rfl ?_
    refine Go.aload X371.here hx (Jvm.hb hby at_222) rfl rfl (q := 224) rfl ?_
    refine Go.iconst X371.here hx (Jvm.hb hby at_224) (v := (2 : Int32)) rfl (q := 225) rfl ?_
    refine Go.iload X371.here hx (Jvm.hb hby at_225) rfl (q := 227) rfl ?_
    refine Go.static X371 hx hZ (y := (⟨"com/example/ratewright/ratewright/inference/GradientCorrectionApplyPinLaw", "slot", "([D[D[DII)Z"⟩ : MethodName)) hown (word hw 50 rfl) (word hw 51 rfl) (word hw 53 rfl) (word hw 52 rfl) (by decide) (rm_slot2b l Z a0 hw a275 a249 a262 kk275 kk249 kk262 (1 : Int32) (own_r u57 u21) (4602678819172646912 : UInt64) (4602678819172646912 : UInt64) (4602678819172646912 : UInt64) (4602678819172646912 : UInt64) u57 u63 u69 u77 u86 u96 u102 u108 u116 u125 T308.heap n0 z368 P308_0 f356 f367 (by decide) (fun o => (own_same hu69 hu108 o)) (fun o => own_half o)) q371  (argsL := [(.ref a275), (.ref a249), (.ref a262), (.int (2 : Int32)), (.int (1 : Int32))]) (rest := []) (W := 0) (Jvm.hb hby at_227) rfl rfl (lenOf (pd3) rfl) (by rw [hml]; rfl) (Nat.le_of_eq rfl) (by decide) (by decide) (by decide) (by decide) (q := 230) rfl ?_
    intro T374 L374 w374 X374 hQ374
    obtain ⟨rfl, M374, q374⟩ := hQ374
    have N374 := Fr.app N371 M374
    show Go p e below _ (T374.setTop (mkF m 230 #[.val (.int q1), .val (.int q2), .val (.int q3), .val (.int q4), .val (.int q5), .val (.int q6), .val (.int (1 : Int32)), .val (.int u12), .val (.ref a242), .val (.ref a249), .val (.ref a262), .val (.ref a275), .val (.ref a288)] [(.int (1 : Int32))]))
    have hc230_376 : ¬ ((1 : Int32) = (0 : Int32)) := by decide
    refine Go.ifN X374.here hx (Jvm.hb hby at_230) ((if0 _ _).trans (feq hc230_376).1) (q := 233) rfl ?_
    refine Go.aload X374.here hx (Jvm.hb hby at_233) rfl rfl (q := 235) rfl ?_
    refine Go.aload X374.here hx (Jvm.hb hby at_235) rfl rfl (q := 237) rfl ?_
    refine Go.aload X374.here hx (Jvm.hb hby at_237) rfl rfl (q := 239) rfl ?_
    refine Go.iconst X374.here hx (Jvm.hb hby at_239) (v := (3 : Int32)) rfl (q := 240) rfl ?_
    refine Go.iload X374.here hx (Jvm.hb hby at_240) rfl (q := 242) rfl ?_
    refine Go.static X374 hx hZ (y := (⟨"com/example/ratewright/ratewright/inference/GradientCorrectionApplyPinLaw", "slot", "([D[D[DII)Z"⟩ : MethodName)) hown (word hw 50 rfl) (word hw 51 rfl) (word hw 53 rfl) (word hw 52 rfl) (by decide) (rm_slot3b l Z a0 hw a275 a249 a262 kk275 kk249 kk262 (1 : Int32) (own_r u57 u21) (4602678819172646912 : UInt64) (4602678819172646912 : UInt64) (4602678819172646912 : UInt64) (4602678819172646912 : UInt64) u57 u63 u69 u77 u86 u96 u102 u108 u116 u125 T308.heap n0 z368 P308_0 f356 f367 (by decide) (fun o => (by rw [← hu76] at hu77; rw [← hu115] at hu116; exact own_same hu77 hu116 o)) (fun o => own_half o)) q374  (argsL := [(.ref a275), (.ref a249), (.ref a262), (.int (3 : Int32)), (.int (1 : Int32))]) (rest := []) (W := 0) (Jvm.hb hby at_242) rfl rfl (lenOf (pd3) rfl) (by rw [hml]; rfl) (Nat.le_of_eq rfl) (by decide) (by decide) (by decide) (by decide) (q := 245) rfl ?_
    intro T377 L377 w377 X377 hQ377
    obtain ⟨rfl, M377, q377⟩ := hQ377
    have N377 := Fr.app N374 M377
    show Go p e below _ (T377.setTop (mkF m 245 #[.val (.int q1), .val (.int q2), .val (.int q3), .val (.int q4), .val (.int q5), .val (.int q6), .val (.int (1 : Int32)), .val (.int u12), .val (.ref a242), .val (.ref a249), .val (.ref a262), .val (.ref a275), .val (.ref a288)] [(.int (1 : Int32))]))
    have hc245_379 : ¬ ((1 : Int32) = (0 : Int32)) := by decide
    refine Go.ifN X377.here hx (Jvm.hb hby at_245) ((if0 _ _).trans (feq hc245_379).1) (q := 248) rfl ?_
    refine Go.aload X377.here hx (Jvm.hb hby at_248) rfl rfl (q := 250) rfl ?_
    refine Go.aload X377.here hx (Jvm.hb hby at_250) rfl rfl (q := 252) rfl ?_
    refine Go.aload X377.here hx (Jvm.hb hby at_252) rfl rfl (q := 254) rfl ?_
    refine Go.iconst X377.here hx (Jvm.hb hby at_254) (v := (4 : Int32)) rfl (q := 255) rfl ?_
    refine Go.iload X377.here hx (Jvm.hb hby at_255) rfl (q := 257) rfl ?_
    refine Go.static X377 hx hZ (y := (⟨"com/example/ratewright/ratewright/inference/GradientCorrectionApplyPinLaw", "slot", "([D[D[DII)Z"⟩ : MethodName)) hown (word hw 50 rfl) (word hw 51 rfl) (word hw 53 rfl) (word hw 52 rfl) (by decide) (rm_slot4b l Z a0 hw a275 a249 a262 kk275 kk249 kk262 (1 : Int32) (own_r u57 u21) (4602678819172646912 : UInt64) (4602678819172646912 : UInt64) (4602678819172646912 : UInt64) (4602678819172646912 : UInt64) u57 u63 u69 u77 u86 u96 u102 u108 u116 u125 T308.heap n0 z368 P308_0 f356 f367 (by decide) (fun o => (by rw [← hu85] at hu86; rw [← hu124] at hu125; exact own_same hu86 hu125 o)) (fun o => own_half o)) q377  (argsL := [(.ref a275), (.ref a249), (.ref a262), (.int (4 : Int32)), (.int (1 : Int32))]) (rest := []) (W := 0) (Jvm.hb hby at_257) rfl rfl (lenOf (pd3) rfl) (by rw [hml]; rfl) (Nat.le_of_eq rfl) (by decide) (by decide) (by decide) (by decide) (q := 260) rfl ?_
    intro T380 L380 w380 X380 hQ380
    obtain ⟨rfl, M380, q380⟩ := hQ380
    have N380 := Fr.app N377 M380
    show Go p e below _ (T380.setTop (mkF m 260 #[.val (.int q1), .val (.int q2), .val (.int q3), .val (.int q4), .val (.int q5), .val (.int q6), .val (.int (1 : Int32)), .val (.int u12), .val (.ref a242), .val (.ref a249), .val (.ref a262), .val (.ref a275), .val (.ref a288)] [(.int (1 : Int32))]))
    have hc260_382 : ¬ ((1 : Int32) = (0 : Int32)) := by decide
    refine Go.ifN X380.here hx (Jvm.hb hby at_260) ((if0 _ _).trans (feq hc260_382).1) (q := 263) rfl ?_
    refine Go.iconst X380.here hx (Jvm.hb hby at_263) (v := (1 : Int32)) rfl (q := 264) rfl ?_
    refine Go.goto X380.here hx (Jvm.hb hby at_264) (by decide) (q := 268) rfl ?_
    refine Go.retZ X380 hx hret hlk (Jvm.hb hby at_268) (Or.inr rfl) (by decide) (by decide) ?_
    exact ⟨rfl, N380⟩
  · -- u5 = 2
    refine Go.istore X0.here hx (Jvm.hb hby at_6) (l2 := #[.val (.int q1), .val (.int q2), .val (.int q3), .val (.int q4), .val (.int q5), .val (.int q6), .val (.int (2 : Int32)), .unset, .unset, .unset, .unset, .unset, .unset]) rfl (q := 8) rfl ?_
    refine Go.iloadN X0.here hx (Jvm.hb hby at_8) rfl (q := 9) rfl ?_
    refine Go.iconst X0.here hx (Jvm.hb hby at_9) (v := (3 : Int32)) rfl (q := 10) rfl ?_
    obtain ⟨u10, hu10⟩ : ∃ zq, (Int32.toUInt32 q1 >>> Int32.toUInt32 ((3 : Int32) &&& 31)).toInt32 = zq := ⟨_, rfl⟩
    refine Go.iushr X0.here hx (Jvm.hb hby at_10) hu10 (q := 11) rfl ?_
    refine Go.iconst X0.here hx (Jvm.hb hby at_11) (v := (3 : Int32)) rfl (q := 12) rfl ?_
    obtain ⟨u12, hu12⟩ : ∃ zq, u10 &&& (3 : Int32) = zq := ⟨_, rfl⟩
    refine Go.iand X0.here hx (Jvm.hb hby at_12) hu12 (q := 13) rfl ?_
    refine Go.istore X0.here hx (Jvm.hb hby at_13) (l2 := #[.val (.int q1), .val (.int q2), .val (.int q3), .val (.int q4), .val (.int q5), .val (.int q6), .val (.int (2 : Int32)), .val (.int u12), .unset, .unset, .unset, .unset, .unset]) rfl (q := 15) rfl ?_
    refine Go.iconst X0.here hx (Jvm.hb hby at_15) (v := (5 : Int32)) rfl (q := 16) rfl ?_
    refine Go.newarr X0 hx hZ (aty := .double) (word hw 0 rfl) e0 (Jvm.hb hby at_16) (by decide) (k := 5) (by decide) (by decide) (by decide) (by decide) (ad := "[D") (by decide) (q := 18) rfl ?_
    intro T383 h383 a383 kk383 g383 X383 e383 E383 R383 A383
    have r384 : n0 ≤ a383 := Nat.le_trans Z0 (Nat.le_of_eq g383.symm)
    have R383 : Row Z h383 a383 .double kk383 [(.double (0 : UInt64)), (.double (0 : UInt64)), (.double (0 : UInt64)), (.double (0 : UInt64)), (.double (0 : UInt64))] := R383
    refine Go.dup X383.here hx (Jvm.hb hby at_18) rfl (q := 19) rfl ?_
    refine Go.iconst X383.here hx (Jvm.hb hby at_19) (v := (0 : Int32)) rfl (q := 20) rfl ?_
    refine Go.iloadN X383.here hx (Jvm.hb hby at_20) rfl (q := 21) rfl ?_
    obtain ⟨u21, hu21⟩ : ∃ zq, FP.i2d q2 = zq := ⟨_, rfl⟩
    refine Go.i2d X383.here hx (Jvm.hb hby at_21) hu21 (q := 22) rfl ?_
    refine Go.dastore X383 hx hZ e383 R383 (Jvm.hb hby at_22) (i := 0) (by decide) (by decide) rfl (q := 23) rfl ?_
    intro T385 h385 X385 e385 W385 R385
    have N385 := Fr.snoc X385 N0 r384
    have R385 : Row Z h385 a383 .double kk383 [(.double u21), (.double (0 : UInt64)), (.double (0 : UInt64)), (.double (0 : UInt64)), (.double (0 : UInt64))] := R385
    refine Go.dup X385.here hx (Jvm.hb hby at_23) rfl (q := 24) rfl ?_
    refine Go.iconst X385.here hx (Jvm.hb hby at_24) (v := (1 : Int32)) rfl (q := 25) rfl ?_
    refine Go.iloadN X385.here hx (Jvm.hb hby at_25) rfl (q := 26) rfl ?_
    obtain ⟨u26, hu26⟩ : ∃ zq, FP.i2d q3 = zq := ⟨_, rfl⟩
    refine Go.i2d X385.here hx (Jvm.hb hby at_26) hu26 (q := 27) rfl ?_
    refine Go.dastore X385 hx hZ e385 R385 (Jvm.hb hby at_27) (i := 1) (by decide) (by decide) rfl (q := 28) rfl ?_
    intro T386 h386 X386 e386 W386 R386
    have N386 := Fr.snoc X386 N385 r384
    have R386 : Row Z h386 a383 .double kk383 [(.double u21), (.double u26), (.double (0 : UInt64)), (.double (0 : UInt64)), (.double (0 : UInt64))] := R386
    refine Go.dup X386.here hx (Jvm.hb hby at_28) rfl (q := 29) rfl ?_
    refine Go.iconst X386.here hx (Jvm.hb hby at_29) (v := (2 : Int32)) rfl (q := 30) rfl ?_
    refine Go.iloadN X386.here hx (Jvm.hb hby at_30) rfl (q := 31) rfl ?_
    refine Go.iloadN X386.here hx (Jvm.hb hby at_31) rfl (q := 32) rfl ?_
    obtain ⟨u32, hu32⟩ : ∃ zq, q2 ^^^ q3 = zq := ⟨_, rfl⟩
    refine Go.ixor X386.here hx (Jvm.hb hby at_32) hu32 (q := 33) rfl ?_
    obtain ⟨u33, hu33⟩ : ∃ zq, FP.i2d u32 = zq := ⟨_, rfl⟩
    refine Go.i2d X386.here hx (Jvm.hb hby at_33) hu33 (q := 34) rfl ?_
    refine Go.dastore X386 hx hZ e386 R386 (Jvm.hb hby at_34) (i := 2) (by decide) (by decide) rfl (q := 35) rfl ?_
    intro T387 h387 X387 e387 W387 R387
    have N387 := Fr.snoc X387 N386 r384
    have R387 : Row Z h387 a383 .double kk383 [(.double u21), (.double u26), (.double u33), (.double (0 : UInt64)), (.double (0 : UInt64))] := R387
    refine Go.dup X387.here hx (Jvm.hb hby at_35) rfl (q := 36) rfl ?_
    refine Go.iconst X387.here hx (Jvm.hb hby at_36) (v := (3 : Int32)) rfl (q := 37) rfl ?_
    refine Go.iloadN X387.here hx (Jvm.hb hby at_37) rfl (q := 38) rfl ?_
    refine Go.iloadN X387.here hx (Jvm.hb hby at_38) rfl (q := 39) rfl ?_
    obtain ⟨u39, hu39⟩ : ∃ zq, q2 - q3 = zq := ⟨_, rfl⟩
    refine Go.isub X387.here hx (Jvm.hb hby at_39) hu39 (q := 40) rfl ?_
    obtain ⟨u40, hu40⟩ : ∃ zq, FP.i2d u39 = zq := ⟨_, rfl⟩
    refine Go.i2d X387.here hx (Jvm.hb hby at_40) hu40 (q := 41) rfl ?_
    refine Go.dastore X387 hx hZ e387 R387 (Jvm.hb hby at_41) (i := 3) (by decide) (by decide) rfl (q := 42) rfl ?_
    intro T388 h388 X388 e388 W388 R388
    have N388 := Fr.snoc X388 N387 r384
    have R388 : Row Z h388 a383 .double kk383 [(.double u21), (.double u26), (.double u33), (.double u40), (.double (0 : UInt64))] := R388
    refine Go.dup X388.here hx (Jvm.hb hby at_42) rfl (q := 43) rfl ?_
    refine Go.iconst X388.here hx (Jvm.hb hby at_43) (v := (4 : Int32)) rfl (q := 44) rfl ?_
    refine Go.iloadN X388.here hx (Jvm.hb hby at_44) rfl (q := 45) rfl ?_
    refine Go.iconst X388.here hx (Jvm.hb hby at_45) (v := (3 : Int32)) rfl (q := 46) rfl ?_
    obtain ⟨u46, hu46⟩ : ∃ zq, q3 + (3 : Int32) = zq := ⟨_, rfl⟩
    refine Go.iadd X388.here hx (Jvm.hb hby at_46) hu46 (q := 47) rfl ?_
    obtain ⟨u47, hu47⟩ : ∃ zq, FP.i2d u46 = zq := ⟨_, rfl⟩
    refine Go.i2d X388.here hx (Jvm.hb hby at_47) hu47 (q := 48) rfl ?_
    refine Go.dastore X388 hx hZ e388 R388 (Jvm.hb hby at_48) (i := 4) (by decide) (by decide) rfl (q := 49) rfl ?_
    intro T389 h389 X389 e389 W389 R389
    have N389 := Fr.snoc X389 N388 r384
    have R389 : Row Z h389 a383 .double kk383 [(.double u21), (.double u26), (.double u33), (.double u40), (.double u47)] := R389
    refine Go.astore X389.here hx (Jvm.hb hby at_49) rfl (l2 := #[.val (.int q1), .val (.int q2), .val (.int q3), .val (.int q4), .val (.int q5), .val (.int q6), .val (.int (2 : Int32)), .val (.int u12), .val (.ref a383), .unset, .unset, .unset, .unset]) rfl (q := 51) rfl ?_
    refine Go.iconst X389.here hx (Jvm.hb hby at_51) (v := (5 : Int32)) rfl (q := 52) rfl ?_
    refine Go.newarr X389 hx hZ (aty := .double) (word hw 0 rfl) e389 (Jvm.hb hby at_52) (by decide) (k := 5) (by decide) (by decide) (by decide) (by decide) (ad := "[D") (by decide) (q := 54) rfl ?_
    intro T390 h390 a390 kk390 g390 X390 e390 E390 R390 A390
    have z391 : n0 ≤ h383.size := Nat.le_trans Z0 E383.1
    have z392 : n0 ≤ h385.size := Nat.le_trans z391 (Nat.le_of_eq W385.size.symm)
    have z393 : n0 ≤ h386.size := Nat.le_trans z392 (Nat.le_of_eq W386.size.symm)
    have z394 : n0 ≤ h387.size := Nat.le_trans z393 (Nat.le_of_eq W387.size.symm)
    have z395 : n0 ≤ h388.size := Nat.le_trans z394 (Nat.le_of_eq W388.size.symm)
    have z396 : n0 ≤ h389.size := Nat.le_trans z395 (Nat.le_of_eq W389.size.symm)
    have r397 : n0 ≤ a390 := Nat.le_trans z396 (Nat.le_of_eq g390.symm)
    have R390 : Row Z h390 a390 .double kk390 [(.double (0 : UInt64)), (.double (0 : UInt64)), (.double (0 : UInt64)), (.double (0 : UInt64)), (.double (0 : UInt64))] := R390
    refine Go.dup X390.here hx (Jvm.hb hby at_54) rfl (q := 55) rfl ?_
    refine Go.iconst X390.here hx (Jvm.hb hby at_55) (v := (0 : Int32)) rfl (q := 56) rfl ?_
    refine Go.iloadN X390.here hx (Jvm.hb hby at_56) rfl (q := 57) rfl ?_
    obtain ⟨u57, hu57⟩ : ∃ zq, FP.i2d q4 = zq := ⟨_, rfl⟩
    refine Go.i2d X390.here hx (Jvm.hb hby at_57) hu57 (q := 58) rfl ?_
    refine Go.dastore X390 hx hZ e390 R390 (Jvm.hb hby at_58) (i := 0) (by decide) (by decide) rfl (q := 59) rfl ?_
    intro T398 h398 X398 e398 W398 R398
    have N398 := Fr.snoc X398 N389 r397
    have R398 : Row Z h398 a390 .double kk390 [(.double u57), (.double (0 : UInt64)), (.double (0 : UInt64)), (.double (0 : UInt64)), (.double (0 : UInt64))] := R398
    refine Go.dup X398.here hx (Jvm.hb hby at_59) rfl (q := 60) rfl ?_
    refine Go.iconst X398.here hx (Jvm.hb hby at_60) (v := (1 : Int32)) rfl (q := 61) rfl ?_
    refine Go.iload X398.here hx (Jvm.hb hby at_61) rfl (q := 63) rfl ?_
    obtain ⟨u63, hu63⟩ : ∃ zq, FP.i2d q5 = zq := ⟨_, rfl⟩
    refine Go.i2d X398.here hx (Jvm.hb hby at_63) hu63 (q := 64) rfl ?_
    refine Go.dastore X398 hx hZ e398 R398 (Jvm.hb hby at_64) (i := 1) (by decide) (by decide) rfl (q := 65) rfl ?_
    intro T399 h399 X399 e399 W399 R399
    have N399 := Fr.snoc X399 N398 r397
    have R399 : Row Z h399 a390 .double kk390 [(.double u57), (.double u63), (.double (0 : UInt64)), (.double (0 : UInt64)), (.double (0 : UInt64))] := R399
    refine Go.dup X399.here hx (Jvm.hb hby at_65) rfl (q := 66) rfl ?_
    refine Go.iconst X399.here hx (Jvm.hb hby at_66) (v := (2 : Int32)) rfl (q := 67) rfl ?_
    refine Go.iload X399.here hx (Jvm.hb hby at_67) rfl (q := 69) rfl ?_
    obtain ⟨u69, hu69⟩ : ∃ zq, FP.i2d q6 = zq := ⟨_, rfl⟩
    refine Go.i2d X399.here hx (Jvm.hb hby at_69) hu69 (q := 70) rfl ?_
    refine Go.dastore X399 hx hZ e399 R399 (Jvm.hb hby at_70) (i := 2) (by decide) (by decide) rfl (q := 71) rfl ?_
    intro T400 h400 X400 e400 W400 R400
    have N400 := Fr.snoc X400 N399 r397
    have R400 : Row Z h400 a390 .double kk390 [(.double u57), (.double u63), (.double u69), (.double (0 : UInt64)), (.double (0 : UInt64))] := R400
    refine Go.dup X400.here hx (Jvm.hb hby at_71) rfl (q := 72) rfl ?_
    refine Go.iconst X400.here hx (Jvm.hb hby at_72) (v := (3 : Int32)) rfl (q := 73) rfl ?_
    refine Go.iloadN X400.here hx (Jvm.hb hby at_73) rfl (q := 74) rfl ?_
    refine Go.iload X400.here hx (Jvm.hb hby at_74) rfl (q := 76) rfl ?_
    obtain ⟨u76, hu76⟩ : ∃ zq, q4 ^^^ q5 = zq := ⟨_, rfl⟩
    refine Go.ixor X400.here hx (Jvm.hb hby at_76) hu76 (q := 77) rfl ?_
    obtain ⟨u77, hu77⟩ : ∃ zq, FP.i2d u76 = zq := ⟨_, rfl⟩
    refine Go.i2d X400.here hx (Jvm.hb hby at_77) hu77 (q := 78) rfl ?_
    refine Go.dastore X400 hx hZ e400 R400 (Jvm.hb hby at_78) (i := 3) (by decide) (by decide) rfl (q := 79) rfl ?_
    intro T401 h401 X401 e401 W401 R401
    have N401 := Fr.snoc X401 N400 r397
    have R401 : Row Z h401 a390 .double kk390 [(.double u57), (.double u63), (.double u69), (.double u77), (.double (0 : UInt64))] := R401
    refine Go.dup X401.here hx (Jvm.hb hby at_79) rfl (q := 80) rfl ?_
    refine Go.iconst X401.here hx (Jvm.hb hby at_80) (v := (4 : Int32)) rfl (q := 81) rfl ?_
    refine Go.iload X401.here hx (Jvm.hb hby at_81) rfl (q := 83) rfl ?_
    refine Go.iload X401.here hx (Jvm.hb hby at_83) rfl (q := 85) rfl ?_
    obtain ⟨u85, hu85⟩ : ∃ zq, q6 - q5 = zq := ⟨_, rfl⟩
    refine Go.isub X401.here hx (Jvm.hb hby at_85) hu85 (q := 86) rfl ?_
    obtain ⟨u86, hu86⟩ : ∃ zq, FP.i2d u85 = zq := ⟨_, rfl⟩
    refine Go.i2d X401.here hx (Jvm.hb hby at_86) hu86 (q := 87) rfl ?_
    refine Go.dastore X401 hx hZ e401 R401 (Jvm.hb hby at_87) (i := 4) (by decide) (by decide) rfl (q := 88) rfl ?_
    intro T402 h402 X402 e402 W402 R402
    have N402 := Fr.snoc X402 N401 r397
    have R402 : Row Z h402 a390 .double kk390 [(.double u57), (.double u63), (.double u69), (.double u77), (.double u86)] := R402
    refine Go.astore X402.here hx (Jvm.hb hby at_88) rfl (l2 := #[.val (.int q1), .val (.int q2), .val (.int q3), .val (.int q4), .val (.int q5), .val (.int q6), .val (.int (2 : Int32)), .val (.int u12), .val (.ref a383), .val (.ref a390), .unset, .unset, .unset]) rfl (q := 90) rfl ?_
    refine Go.iconst X402.here hx (Jvm.hb hby at_90) (v := (5 : Int32)) rfl (q := 91) rfl ?_
    refine Go.newarr X402 hx hZ (aty := .double) (word hw 0 rfl) e402 (Jvm.hb hby at_91) (by decide) (k := 5) (by decide) (by decide) (by decide) (by decide) (ad := "[D") (by decide) (q := 93) rfl ?_
    intro T403 h403 a403 kk403 g403 X403 e403 E403 R403 A403
    have z404 : n0 ≤ h390.size := Nat.le_trans z396 E390.1
    have z405 : n0 ≤ h398.size := Nat.le_trans z404 (Nat.le_of_eq W398.size.symm)
    have z406 : n0 ≤ h399.size := Nat.le_trans z405 (Nat.le_of_eq W399.size.symm)
    have z407 : n0 ≤ h400.size := Nat.le_trans z406 (Nat.le_of_eq W400.size.symm)
    have z408 : n0 ≤ h401.size := Nat.le_trans z407 (Nat.le_of_eq W401.size.symm)
    have z409 : n0 ≤ h402.size := Nat.le_trans z408 (Nat.le_of_eq W402.size.symm)
    have r410 : n0 ≤ a403 := Nat.le_trans z409 (Nat.le_of_eq g403.symm)
    have R403 : Row Z h403 a403 .double kk403 [(.double (0 : UInt64)), (.double (0 : UInt64)), (.double (0 : UInt64)), (.double (0 : UInt64)), (.double (0 : UInt64))] := R403
    refine Go.dup X403.here hx (Jvm.hb hby at_93) rfl (q := 94) rfl ?_
    refine Go.iconst X403.here hx (Jvm.hb hby at_94) (v := (0 : Int32)) rfl (q := 95) rfl ?_
    refine Go.iloadN X403.here hx (Jvm.hb hby at_95) rfl (q := 96) rfl ?_
    obtain ⟨u96, hu96⟩ : ∃ zq, FP.i2d q4 = zq := ⟨_, rfl⟩
    refine Go.i2d X403.here hx (Jvm.hb hby at_96) hu96 (q := 97) rfl ?_
    refine Go.dastore X403 hx hZ e403 R403 (Jvm.hb hby at_97) (i := 0) (by decide) (by decide) rfl (q := 98) rfl ?_
    intro T411 h411 X411 e411 W411 R411
    have N411 := Fr.snoc X411 N402 r410
    have R411 : Row Z h411 a403 .double kk403 [(.double u96), (.double (0 : UInt64)), (.double (0 : UInt64)), (.double (0 : UInt64)), (.double (0 : UInt64))] := R411
    refine Go.dup X411.here hx (Jvm.hb hby at_98) rfl (q := 99) rfl ?_
    refine Go.iconst X411.here hx (Jvm.hb hby at_99) (v := (1 : Int32)) rfl (q := 100) rfl ?_
    refine Go.iload X411.here hx (Jvm.hb hby at_100) rfl (q := 102) rfl ?_
    obtain ⟨u102, hu102⟩ : ∃ zq, FP.i2d q5 = zq := ⟨_, rfl⟩
    refine Go.i2d X411.here hx (Jvm.hb hby at_102) hu102 (q := 103) rfl ?_
    refine Go.dastore X411 hx hZ e411 R411 (Jvm.hb hby at_103) (i := 1) (by decide) (by decide) rfl (q := 104) rfl ?_
    intro T412 h412 X412 e412 W412 R412
    have N412 := Fr.snoc X412 N411 r410
    have R412 : Row Z h412 a403 .double kk403 [(.double u96), (.double u102), (.double (0 : UInt64)), (.double (0 : UInt64)), (.double (0 : UInt64))] := R412
    refine Go.dup X412.here hx (Jvm.hb hby at_104) rfl (q := 105) rfl ?_
    refine Go.iconst X412.here hx (Jvm.hb hby at_105) (v := (2 : Int32)) rfl (q := 106) rfl ?_
    refine Go.iload X412.here hx (Jvm.hb hby at_106) rfl (q := 108) rfl ?_
    obtain ⟨u108, hu108⟩ : ∃ zq, FP.i2d q6 = zq := ⟨_, rfl⟩
    refine Go.i2d X412.here hx (Jvm.hb hby at_108) hu108 (q := 109) rfl ?_
    refine Go.dastore X412 hx hZ e412 R412 (Jvm.hb hby at_109) (i := 2) (by decide) (by decide) rfl (q := 110) rfl ?_
    intro T413 h413 X413 e413 W413 R413
    have N413 := Fr.snoc X413 N412 r410
    have R413 : Row Z h413 a403 .double kk403 [(.double u96), (.double u102), (.double u108), (.double (0 : UInt64)), (.double (0 : UInt64))] := R413
    refine Go.dup X413.here hx (Jvm.hb hby at_110) rfl (q := 111) rfl ?_
    refine Go.iconst X413.here hx (Jvm.hb hby at_111) (v := (3 : Int32)) rfl (q := 112) rfl ?_
    refine Go.iloadN X413.here hx (Jvm.hb hby at_112) rfl (q := 113) rfl ?_
    refine Go.iload X413.here hx (Jvm.hb hby at_113) rfl (q := 115) rfl ?_
    obtain ⟨u115, hu115⟩ : ∃ zq, q4 ^^^ q5 = zq := ⟨_, rfl⟩
    refine Go.ixor X413.here hx (Jvm.hb hby at_115) hu115 (q := 116) rfl ?_
    obtain ⟨u116, hu116⟩ : ∃ zq, FP.i2d u115 = zq := ⟨_, rfl⟩
    refine Go.i2d X413.here hx (Jvm.hb hby at_116) hu116 (q := 117) rfl ?_
    refine Go.dastore X413 hx hZ e413 R413 (Jvm.hb hby at_117) (i := 3) (by decide) (by decide) rfl (q := 118) rfl ?_
    intro T414 h414 X414 e414 W414 R414
    have N414 := Fr.snoc X414 N413 r410
    have R414 : Row Z h414 a403 .double kk403 [(.double u96), (.double u102), (.double u108), (.double u116), (.double (0 : UInt64))] := R414
    refine Go.dup X414.here hx (Jvm.hb hby at_118) rfl (q := 119) rfl ?_
    refine Go.iconst X414.here hx (Jvm.hb hby at_119) (v := (4 : Int32)) rfl (q := 120) rfl ?_
    refine Go.iload X414.here hx (Jvm.hb hby at_120) rfl (q := 122) rfl ?_
    refine Go.iload X414.here hx (Jvm.hb hby at_122) rfl (q := 124) rfl ?_
    obtain ⟨u124, hu124⟩ : ∃ zq, q6 - q5 = zq := ⟨_, rfl⟩
    refine Go.isub X414.here hx (Jvm.hb hby at_124) hu124 (q := 125) rfl ?_
    obtain ⟨u125, hu125⟩ : ∃ zq, FP.i2d u124 = zq := ⟨_, rfl⟩
    refine Go.i2d X414.here hx (Jvm.hb hby at_125) hu125 (q := 126) rfl ?_
    refine Go.dastore X414 hx hZ e414 R414 (Jvm.hb hby at_126) (i := 4) (by decide) (by decide) rfl (q := 127) rfl ?_
    intro T415 h415 X415 e415 W415 R415
    have N415 := Fr.snoc X415 N414 r410
    have R415 : Row Z h415 a403 .double kk403 [(.double u96), (.double u102), (.double u108), (.double u116), (.double u125)] := R415
    refine Go.astore X415.here hx (Jvm.hb hby at_127) rfl (l2 := #[.val (.int q1), .val (.int q2), .val (.int q3), .val (.int q4), .val (.int q5), .val (.int q6), .val (.int (2 : Int32)), .val (.int u12), .val (.ref a383), .val (.ref a390), .val (.ref a403), .unset, .unset]) rfl (q := 129) rfl ?_
    refine Go.iconst X415.here hx (Jvm.hb hby at_129) (v := (5 : Int32)) rfl (q := 130) rfl ?_
    refine Go.newarr X415 hx hZ (aty := .double) (word hw 0 rfl) e415 (Jvm.hb hby at_130) (by decide) (k := 5) (by decide) (by decide) (by decide) (by decide) (ad := "[D") (by decide) (q := 132) rfl ?_
    intro T416 h416 a416 kk416 g416 X416 e416 E416 R416 A416
    have z417 : n0 ≤ h403.size := Nat.le_trans z409 E403.1
    have z418 : n0 ≤ h411.size := Nat.le_trans z417 (Nat.le_of_eq W411.size.symm)
    have z419 : n0 ≤ h412.size := Nat.le_trans z418 (Nat.le_of_eq W412.size.symm)
    have z420 : n0 ≤ h413.size := Nat.le_trans z419 (Nat.le_of_eq W413.size.symm)
    have z421 : n0 ≤ h414.size := Nat.le_trans z420 (Nat.le_of_eq W414.size.symm)
    have z422 : n0 ≤ h415.size := Nat.le_trans z421 (Nat.le_of_eq W415.size.symm)
    have r423 : n0 ≤ a416 := Nat.le_trans z422 (Nat.le_of_eq g416.symm)
    have R416 : Row Z h416 a416 .double kk416 [(.double (0 : UInt64)), (.double (0 : UInt64)), (.double (0 : UInt64)), (.double (0 : UInt64)), (.double (0 : UInt64))] := R416
    refine Go.dup X416.here hx (Jvm.hb hby at_132) rfl (q := 133) rfl ?_
    refine Go.iconst X416.here hx (Jvm.hb hby at_133) (v := (0 : Int32)) rfl (q := 134) rfl ?_
    refine Go.ldc2D X416 hx hown (mvT hZ (word hw 1 rfl)) (Jvm.hb hby at_134) (q := 137) rfl ?_
    refine Go.dastore X416 hx hZ e416 R416 (Jvm.hb hby at_137) (i := 0) (by decide) (by decide) rfl (q := 138) rfl ?_
    intro T424 h424 X424 e424 W424 R424
    have N424 := Fr.snoc X424 N415 r423
    have R424 : Row Z h424 a416 .double kk416 [(.double (4602678819172646912 : UInt64)), (.double (0 : UInt64)), (.double (0 : UInt64)), (.double (0 : UInt64)), (.double (0 : UInt64))] := R424
    refine Go.dup X424.here hx (Jvm.hb hby at_138) rfl (q := 139) rfl ?_
    refine Go.iconst X424.here hx (Jvm.hb hby at_139) (v := (1 : Int32)) rfl (q := 140) rfl ?_
    refine Go.ldc2D X424 hx hown (mvT hZ (word hw 1 rfl)) (Jvm.hb hby at_140) (q := 143) rfl ?_
    refine Go.dastore X424 hx hZ e424 R424 (Jvm.hb hby at_143) (i := 1) (by decide) (by decide) rfl (q := 144) rfl ?_
    intro T425 h425 X425 e425 W425 R425
    have N425 := Fr.snoc X425 N424 r423
    have R425 : Row Z h425 a416 .double kk416 [(.double (4602678819172646912 : UInt64)), (.double (4602678819172646912 : UInt64)), (.double (0 : UInt64)), (.double (0 : UInt64)), (.double (0 : UInt64))] := R425
    refine Go.dup X425.here hx (Jvm.hb hby at_144) rfl (q := 145) rfl ?_
    refine Go.iconst X425.here hx (Jvm.hb hby at_145) (v := (2 : Int32)) rfl (q := 146) rfl ?_
    refine Go.ldc2D X425 hx hown (mvT hZ (word hw 1 rfl)) (Jvm.hb hby at_146) (q := 149) rfl ?_
    refine Go.dastore X425 hx hZ e425 R425 (Jvm.hb hby at_149) (i := 2) (by decide) (by decide) rfl (q := 150) rfl ?_
    intro T426 h426 X426 e426 W426 R426
    have N426 := Fr.snoc X426 N425 r423
    have R426 : Row Z h426 a416 .double kk416 [(.double (4602678819172646912 : UInt64)), (.double (4602678819172646912 : UInt64)), (.double (4602678819172646912 : UInt64)), (.double (0 : UInt64)), (.double (0 : UInt64))] := R426
    refine Go.dup X426.here hx (Jvm.hb hby at_150) rfl (q := 151) rfl ?_
    refine Go.iconst X426.here hx (Jvm.hb hby at_151) (v := (3 : Int32)) rfl (q := 152) rfl ?_
    refine Go.ldc2D X426 hx hown (mvT hZ (word hw 1 rfl)) (Jvm.hb hby at_152) (q := 155) rfl ?_
    refine Go.dastore X426 hx hZ e426 R426 (Jvm.hb hby at_155) (i := 3) (by decide) (by decide) rfl (q := 156) rfl ?_
    intro T427 h427 X427 e427 W427 R427
    have N427 := Fr.snoc X427 N426 r423
    have R427 : Row Z h427 a416 .double kk416 [(.double (4602678819172646912 : UInt64)), (.double (4602678819172646912 : UInt64)), (.double (4602678819172646912 : UInt64)), (.double (4602678819172646912 : UInt64)), (.double (0 : UInt64))] := R427
    refine Go.dup X427.here hx (Jvm.hb hby at_156) rfl (q := 157) rfl ?_
    refine Go.iconst X427.here hx (Jvm.hb hby at_157) (v := (4 : Int32)) rfl (q := 158) rfl ?_
    refine Go.ldc2D X427 hx hown (mvT hZ (word hw 1 rfl)) (Jvm.hb hby at_158) (q := 161) rfl ?_
    refine Go.dastore X427 hx hZ e427 R427 (Jvm.hb hby at_161) (i := 4) (by decide) (by decide) rfl (q := 162) rfl ?_
    intro T428 h428 X428 e428 W428 R428
    have N428 := Fr.snoc X428 N427 r423
    have R428 : Row Z h428 a416 .double kk416 [(.double (4602678819172646912 : UInt64)), (.double (4602678819172646912 : UInt64)), (.double (4602678819172646912 : UInt64)), (.double (4602678819172646912 : UInt64)), (.double (4602678819172646912 : UInt64))] := R428
    refine Go.astore X428.here hx (Jvm.hb hby at_162) rfl (l2 := #[.val (.int q1), .val (.int q2), .val (.int q3), .val (.int q4), .val (.int q5), .val (.int q6), .val (.int (2 : Int32)), .val (.int u12), .val (.ref a383), .val (.ref a390), .val (.ref a403), .val (.ref a416), .unset]) rfl (q := 164) rfl ?_
    refine Go.new X428 hx hZ hown (word hw 2 rfl) (word hw 3 rfl) (word hw 4 rfl) e428 (Jvm.hb hby at_164) (by decide) (by decide) (q := 167) rfl ?_
    intro T429 h429 a429 g429 X429 e429 E429 A429 D429
    have z430 : n0 ≤ h416.size := Nat.le_trans z422 E416.1
    have z431 : n0 ≤ h424.size := Nat.le_trans z430 (Nat.le_of_eq W424.size.symm)
    have z432 : n0 ≤ h425.size := Nat.le_trans z431 (Nat.le_of_eq W425.size.symm)
    have z433 : n0 ≤ h426.size := Nat.le_trans z432 (Nat.le_of_eq W426.size.symm)
    have z434 : n0 ≤ h427.size := Nat.le_trans z433 (Nat.le_of_eq W427.size.symm)
    have z435 : n0 ≤ h428.size := Nat.le_trans z434 (Nat.le_of_eq W428.size.symm)
    have r436 : n0 ≤ a429 := Nat.le_trans z435 (Nat.le_of_eq g429.symm)
    have F437 : Fld Z h429 a429 "com/example/ratewright/ratewright/inference/GradientCorrection" "dimension" "I" (.int (0 : Int32)) := D429 (Or.inr (word hw 12 rfl)) (ty := .int) (by decide)
    have F438 : Fld Z h429 a429 "com/example/ratewright/ratewright/inference/GradientCorrection" "unknowns" "I" (.int (0 : Int32)) := D429 (Or.inr (word hw 14 rfl)) (ty := .int) (by decide)
    have F439 : Fld Z h429 a429 "com/example/ratewright/ratewright/inference/GradientCorrection" "coefficients" "[D" .null := D429 (Or.inl (word hw 16 rfl)) (ty := (.array .double)) (by decide)
    have F440 : Fld Z h429 a429 "com/example/ratewright/ratewright/inference/GradientCorrection" "fitted" "Lcom/example/ratewright/ratewright/inference/GradientCorrection$NormalEquations;" .null := D429 (Or.inr (word hw 31 rfl)) (ty := (.object "com/example/ratewright/ratewright/inference/GradientCorrection$NormalEquations")) (by decide)
    have F441 : Fld Z h429 a429 "com/example/ratewright/ratewright/inference/GradientCorrection" "heldOut" "Lcom/example/ratewright/ratewright/inference/GradientCorrection$NormalEquations;" .null := D429 (Or.inr (word hw 33 rfl)) (ty := (.object "com/example/ratewright/ratewright/inference/GradientCorrection$NormalEquations")) (by decide)
    have F442 : Fld Z h429 a429 "com/example/ratewright/ratewright/inference/GradientCorrection" "heldOutTerms" "[[D" .null := D429 (Or.inr (word hw 37 rfl)) (ty := (.array (.array .double))) (by decide)
    have F443 : Fld Z h429 a429 "com/example/ratewright/ratewright/inference/GradientCorrection" "heldOutMisses" "[D" .null := D429 (Or.inr (word hw 39 rfl)) (ty := (.array .double)) (by decide)
    have F444 : Fld Z h429 a429 "com/example/ratewright/ratewright/inference/GradientCorrection" "pendingTerms" "[[D" .null := D429 (Or.inr (word hw 42 rfl)) (ty := (.array (.array .double))) (by decide)
    have F445 : Fld Z h429 a429 "com/example/ratewright/ratewright/inference/GradientCorrection" "pendingMisses" "[D" .null := D429 (Or.inr (word hw 44 rfl)) (ty := (.array .double)) (by decide)
    refine Go.dup X429.here hx (Jvm.hb hby at_167) rfl (q := 168) rfl ?_
    refine Go.iload X429.here hx (Jvm.hb hby at_168) rfl (q := 170) rfl ?_
    refine Go.iload X429.here hx (Jvm.hb hby at_170) rfl (q := 172) rfl ?_
    have z447 : n0 ≤ h429.size := Nat.le_trans z435 E429.1
    refine Go.special X429 hx hZ (y := (⟨"com/example/ratewright/ratewright/inference/GradientCorrection", "<init>", "(II)V"⟩ : MethodName)) rfl hown (word hw 5 rfl) (word hw 6 rfl) (word hw 7 rfl) (word hw 4 rfl) (by decide) (rm_init2 l Z a0 hw a429 u12 (.int (0 : Int32)) (.int (0 : Int32)) .null .null .null .null .null .null .null h429 n0 z447 A429 F437 F438 F439 F440 F441 F442 F443 F444 F445 r436 (own_four hu12)) e429 (a := a429) (argsL := [(.int (2 : Int32)), (.int u12)]) (rest := [(.ref a429)]) (W := 1) (Jvm.hb hby at_172) rfl rfl (lenOf (pd1) rfl) (by rw [hml]; rfl) (Nat.le_of_eq rfl) (by decide) (by decide) (by decide) (by decide) (q := 175) rfl ?_
    intro T446 L446 w446 X446 hQ446
    obtain ⟨a446, kk446_1, rfl, M446, K446, G446_0, P446_0, P446_1, P446_2, P446_3⟩ := hQ446
    have N446 := Fr.app N428 M446
    have r448 : n0 ≤ a446 := Nat.le_trans z447 (G446_0)
    show Go p e below _ (T446.setTop (mkF m 175 #[.val (.int q1), .val (.int q2), .val (.int q3), .val (.int q4), .val (.int q5), .val (.int q6), .val (.int (2 : Int32)), .val (.int u12), .val (.ref a383), .val (.ref a390), .val (.ref a403), .val (.ref a416), .unset] [(.ref a429)]))
    refine Go.astore X446.here hx (Jvm.hb hby at_175) rfl (l2 := #[.val (.int q1), .val (.int q2), .val (.int q3), .val (.int q4), .val (.int q5), .val (.int q6), .val (.int (2 : Int32)), .val (.int u12), .val (.ref a383), .val (.ref a390), .val (.ref a403), .val (.ref a416), .val (.ref a429)]) rfl (q := 177) rfl ?_
    refine Go.aload X446.here hx (Jvm.hb hby at_177) rfl rfl (q := 179) rfl ?_
    refine Go.aload X446.here hx (Jvm.hb hby at_179) rfl rfl (q := 181) rfl ?_
    refine Go.aload X446.here hx (Jvm.hb hby at_181) rfl rfl (q := 183) rfl ?_
    refine Go.aload X446.here hx (Jvm.hb hby at_183) rfl rfl (q := 185) rfl ?_
    have f450 := R389.ext E390
    have ne452 : a383 ≠ a390 := Nat.ne_of_lt (Nat.lt_of_lt_of_le R389.lt (Nat.le_of_eq g390.symm))
    have f451 := f450.other W398 ne452
    have f453 := f451.other W399 ne452
    have f454 := f453.other W400 ne452
    have f455 := f454.other W401 ne452
    have f456 := f455.other W402 ne452
    have f457 := f456.ext E403
    have ne459 : a383 ≠ a403 := Nat.ne_of_lt (Nat.lt_of_lt_of_le f456.lt (Nat.le_of_eq g403.symm))
    have f458 := f457.other W411 ne459
    have f460 := f458.other W412 ne459
    have f461 := f460.other W413 ne459
    have f462 := f461.other W414 ne459
    have f463 := f462.other W415 ne459
    have f464 := f463.ext E416
    have ne466 : a383 ≠ a416 := Nat.ne_of_lt (Nat.lt_of_lt_of_le f463.lt (Nat.le_of_eq g416.symm))
    have f465 := f464.other W424 ne466
    have f467 := f465.other W425 ne466
    have f468 := f467.other W426 ne466
    have f469 := f468.other W427 ne466
    have f470 := f469.other W428 ne466
    have f471 := f470.ext E429
    have ne473 : a383 ≠ a429 := Nat.ne_of_lt (Nat.lt_of_lt_of_le f470.lt (Nat.le_of_eq g429.symm))
    have f472 := f471.keep K446 (ninS ne473 nin0)
    have f474 := R402.ext E403
    have ne476 : a390 ≠ a403 := Nat.ne_of_lt (Nat.lt_of_lt_of_le R402.lt (Nat.le_of_eq g403.symm))
    have f475 := f474.other W411 ne476
    have f477 := f475.other W412 ne476
    have f478 := f477.other W413 ne476
    have f479 := f478.other W414 ne476
    have f480 := f479.other W415 ne476
    have f481 := f480.ext E416
    have ne483 : a390 ≠ a416 := Nat.ne_of_lt (Nat.lt_of_lt_of_le f480.lt (Nat.le_of_eq g416.symm))
    have f482 := f481.other W424 ne483
    have f484 := f482.other W425 ne483
    have f485 := f484.other W426 ne483
    have f486 := f485.other W427 ne483
    have f487 := f486.other W428 ne483
    have f488 := f487.ext E429
    have ne490 : a390 ≠ a429 := Nat.ne_of_lt (Nat.lt_of_lt_of_le f487.lt (Nat.le_of_eq g429.symm))
    have f489 := f488.keep K446 (ninS ne490 nin0)
    have f491 := R428.ext E429
    have ne493 : a416 ≠ a429 := Nat.ne_of_lt (Nat.lt_of_lt_of_le R428.lt (Nat.le_of_eq g429.symm))
    have f492 := f491.keep K446 (ninS ne493 nin0)
    have ne494 : a416 ≠ a446 := Nat.ne_of_lt (Nat.lt_of_lt_of_le f491.lt (G446_0))
    have z495 : n0 ≤ T446.heap.size := Nat.le_trans z447 K446.1
    refine Go.virtual X446 hx hZ (y := (⟨"com/example/ratewright/ratewright/inference/GradientCorrection", "apply", "([D[D[D)V"⟩ : MethodName)) hown (word hw 45 rfl) (word hw 46 rfl) (word hw 48 rfl) (word hw 47 rfl) (word hw 49 rfl) (word hw 4 rfl) (by decide) (rm_app2 l Z a0 hw a429 a383 a390 a416 a446 kk383 kk390 kk416 kk446_1 u57 u63 u69 u77 u86 u21 u26 u33 u40 u47 (4602678819172646912 : UInt64) (4602678819172646912 : UInt64) (4602678819172646912 : UInt64) (4602678819172646912 : UInt64) (4602678819172646912 : UInt64) T446.heap n0 z495 P446_1 P446_2 f472 f489 f492 P446_3 (Ne.symm ne466) (Ne.symm ne483) ne494 ne493 r423 (⟨(own_one (own_fin hu57) (own_fin hu21)).1, (own_one (own_fin hu63) (own_fin hu26)).1, trivial⟩)) rfl P446_0  (argsL := [(.ref a383), (.ref a390), (.ref a416)]) (rest := []) (W := 0) (Jvm.hb hby at_185) rfl rfl (lenOf (pd2) rfl) (by rw [hml]; rfl) (Nat.le_of_eq rfl) (by decide) (by decide) (by decide) (by decide) (q := 188) rfl ?_
    intro T449 L449 w449 X449 hQ449
    obtain ⟨rfl, M449, K449, P449_0⟩ := hQ449
    have N449 := Fr.app N446 M449
    show Go p e below _ (T449.setTop (mkF m 188 #[.val (.int q1), .val (.int q2), .val (.int q3), .val (.int q4), .val (.int q5), .val (.int q6), .val (.int (2 : Int32)), .val (.int u12), .val (.ref a383), .val (.ref a390), .val (.ref a403), .val (.ref a416), .val (.ref a429)] []))
    refine Go.aload X449.here hx (Jvm.hb hby at_188) rfl rfl (q := 190) rfl ?_
    refine Go.aload X449.here hx (Jvm.hb hby at_190) rfl rfl (q := 192) rfl ?_
    refine Go.aload X449.here hx (Jvm.hb hby at_192) rfl rfl (q := 194) rfl ?_
    refine Go.iconst X449.here hx (Jvm.hb hby at_194) (v := (0 : Int32)) rfl (q := 195) rfl ?_
    refine Go.iload X449.here hx (Jvm.hb hby at_195) rfl (q := 197) rfl ?_
    have f497 := f489.keep K449 (ninS ne483 nin0)
    have f498 := R415.ext E416
    have ne500 : a403 ≠ a416 := Nat.ne_of_lt (Nat.lt_of_lt_of_le R415.lt (Nat.le_of_eq g416.symm))
    have f499 := f498.other W424 ne500
    have f501 := f499.other W425 ne500
    have f502 := f501.other W426 ne500
    have f503 := f502.other W427 ne500
    have f504 := f503.other W428 ne500
    have f505 := f504.ext E429
    have ne507 : a403 ≠ a429 := Nat.ne_of_lt (Nat.lt_of_lt_of_le f504.lt (Nat.le_of_eq g429.symm))
    have f506 := f505.keep K446 (ninS ne507 nin0)
    have f508 := f506.keep K449 (ninS ne500 nin0)
    have z509 : n0 ≤ T449.heap.size := Nat.le_trans z495 K449.1
    refine Go.static X449 hx hZ (y := (⟨"com/example/ratewright/ratewright/inference/GradientCorrectionApplyPinLaw", "slot", "([D[D[DII)Z"⟩ : MethodName)) hown (word hw 50 rfl) (word hw 51 rfl) (word hw 53 rfl) (word hw 52 rfl) (by decide) (rm_slot0a l Z a0 hw a416 a390 a403 kk416 kk390 kk403 (2 : Int32) (own_r u57 u21) (own_r u63 u26) (4602678819172646912 : UInt64) (4602678819172646912 : UInt64) (4602678819172646912 : UInt64) u57 u63 u69 u77 u86 u96 u102 u108 u116 u125 T449.heap n0 z509 P449_0 f497 f508 (by decide) (fun o => (own_same hu57 hu96 o)) (fun o => (own_hit hu57 hu21 hu96 o))) rfl  (argsL := [(.ref a416), (.ref a390), (.ref a403), (.int (0 : Int32)), (.int (2 : Int32))]) (rest := []) (W := 0) (Jvm.hb hby at_197) rfl rfl (lenOf (pd3) rfl) (by rw [hml]; rfl) (Nat.le_of_eq rfl) (by decide) (by decide) (by decide) (by decide) (q := 200) rfl ?_
    intro T496 L496 w496 X496 hQ496
    obtain ⟨rfl, M496, q496⟩ := hQ496
    have N496 := Fr.app N449 M496
    show Go p e below _ (T496.setTop (mkF m 200 #[.val (.int q1), .val (.int q2), .val (.int q3), .val (.int q4), .val (.int q5), .val (.int q6), .val (.int (2 : Int32)), .val (.int u12), .val (.ref a383), .val (.ref a390), .val (.ref a403), .val (.ref a416), .val (.ref a429)] [(.int (1 : Int32))]))
    have hc200_511 : ¬ ((1 : Int32) = (0 : Int32)) := by decide
    refine Go.ifN X496.here hx (Jvm.hb hby at_200) ((if0 _ _).trans (feq hc200_511).1) (q := 203) rfl ?_
    refine Go.aload X496.here hx (Jvm.hb hby at_203) rfl rfl (q := 205) rfl ?_
    refine Go.aload X496.here hx (Jvm.hb hby at_205) rfl rfl (q := 207) rfl ?_
    refine Go.aload X496.here hx (Jvm.hb hby at_207) rfl rfl (q := 209) rfl ?_
    refine Go.iconst X496.here hx (Jvm.hb hby at_209) (v := (1 : Int32)) rfl (q := 210) rfl ?_
    refine Go.iload X496.here hx (Jvm.hb hby at_210) rfl (q := 212) rfl ?_
    refine Go.static X496 hx hZ (y := (⟨"com/example/ratewright/ratewright/inference/GradientCorrectionApplyPinLaw", "slot", "([D[D[DII)Z"⟩ : MethodName)) hown (word hw 50 rfl) (word hw 51 rfl) (word hw 53 rfl) (word hw 52 rfl) (by decide) (rm_slot1a l Z a0 hw a416 a390 a403 kk416 kk390 kk403 (2 : Int32) (own_r u57 u21) (own_r u63 u26) (4602678819172646912 : UInt64) (4602678819172646912 : UInt64) (4602678819172646912 : UInt64) u57 u63 u69 u77 u86 u96 u102 u108 u116 u125 T449.heap n0 z509 P449_0 f497 f508 (by decide) (fun o => (own_same hu63 hu102 o)) (fun o => (own_hit hu63 hu26 hu102 o))) q496  (argsL := [(.ref a416), (.ref a390), (.ref a403), (.int (1 : Int32)), (.int (2 : Int32))]) (rest := []) (W := 0) (Jvm.hb hby at_212) rfl rfl (lenOf (pd3) rfl) (by rw [hml]; rfl) (Nat.le_of_eq rfl) (by decide) (by decide) (by decide) (by decide) (q := 215) rfl ?_
    intro T512 L512 w512 X512 hQ512
    obtain ⟨rfl, M512, q512⟩ := hQ512
    have N512 := Fr.app N496 M512
    show Go p e below _ (T512.setTop (mkF m 215 #[.val (.int q1), .val (.int q2), .val (.int q3), .val (.int q4), .val (.int q5), .val (.int q6), .val (.int (2 : Int32)), .val (.int u12), .val (.ref a383), .val (.ref a390), .val (.ref a403), .val (.ref a416), .val (.ref a429)] [(.int (1 : Int32))]))
    have hc215_514 : ¬ ((1 : Int32) = (0 : Int32)) := by decide
    refine Go.ifN X512.here hx (Jvm.hb hby at_215) ((if0 _ _).trans (feq hc215_514).1) (q := 218) rfl ?_
    refine Go.aload X512.here hx (Jvm.hb hby at_218) rfl rfl (q := 220) rfl ?_
    refine Go.aload X512.here hx (Jvm.hb hby at_220) rfl rfl (q := 222) rfl ?_
    refine Go.aload X512.here hx (Jvm.hb hby at_222) rfl rfl (q := 224) rfl ?_
    refine Go.iconst X512.here hx (Jvm.hb hby at_224) (v := (2 : Int32)) rfl (q := 225) rfl ?_
    refine Go.iload X512.here hx (Jvm.hb hby at_225) rfl (q := 227) rfl ?_
    refine Go.static X512 hx hZ (y := (⟨"com/example/ratewright/ratewright/inference/GradientCorrectionApplyPinLaw", "slot", "([D[D[DII)Z"⟩ : MethodName)) hown (word hw 50 rfl) (word hw 51 rfl) (word hw 53 rfl) (word hw 52 rfl) (by decide) (rm_slot2b l Z a0 hw a416 a390 a403 kk416 kk390 kk403 (2 : Int32) (own_r u57 u21) (own_r u63 u26) (4602678819172646912 : UInt64) (4602678819172646912 : UInt64) (4602678819172646912 : UInt64) u57 u63 u69 u77 u86 u96 u102 u108 u116 u125 T449.heap n0 z509 P449_0 f497 f508 (by decide) (fun o => (own_same hu69 hu108 o)) (fun o => own_half o)) q512  (argsL := [(.ref a416), (.ref a390), (.ref a403), (.int (2 : Int32)), (.int (2 : Int32))]) (rest := []) (W := 0) (Jvm.hb hby at_227) rfl rfl (lenOf (pd3) rfl) (by rw [hml]; rfl) (Nat.le_of_eq rfl) (by decide) (by decide) (by decide) (by decide) (q := 230) rfl ?_
    intro T515 L515 w515 X515 hQ515
    obtain ⟨rfl, M515, q515⟩ := hQ515
    have N515 := Fr.app N512 M515
    show Go p e below _ (T515.setTop (mkF m 230 #[.val (.int q1), .val (.int q2), .val (.int q3), .val (.int q4), .val (.int q5), .val (.int q6), .val (.int (2 : Int32)), .val (.int u12), .val (.ref a383), .val (.ref a390), .val (.ref a403), .val (.ref a416), .val (.ref a429)] [(.int (1 : Int32))]))
    have hc230_517 : ¬ ((1 : Int32) = (0 : Int32)) := by decide
    refine Go.ifN X515.here hx (Jvm.hb hby at_230) ((if0 _ _).trans (feq hc230_517).1) (q := 233) rfl ?_
    refine Go.aload X515.here hx (Jvm.hb hby at_233) rfl rfl (q := 235) rfl ?_
    refine Go.aload X515.here hx (Jvm.hb hby at_235) rfl rfl (q := 237) rfl ?_
    refine Go.aload X515.here hx (Jvm.hb hby at_237) rfl rfl (q := 239) rfl ?_
    refine Go.iconst X515.here hx (Jvm.hb hby at_239) (v := (3 : Int32)) rfl (q := 240) rfl ?_
    refine Go.iload X515.here hx (Jvm.hb hby at_240) rfl (q := 242) rfl ?_
    refine Go.static X515 hx hZ (y := (⟨"com/example/ratewright/ratewright/inference/GradientCorrectionApplyPinLaw", "slot", "([D[D[DII)Z"⟩ : MethodName)) hown (word hw 50 rfl) (word hw 51 rfl) (word hw 53 rfl) (word hw 52 rfl) (by decide) (rm_slot3b l Z a0 hw a416 a390 a403 kk416 kk390 kk403 (2 : Int32) (own_r u57 u21) (own_r u63 u26) (4602678819172646912 : UInt64) (4602678819172646912 : UInt64) (4602678819172646912 : UInt64) u57 u63 u69 u77 u86 u96 u102 u108 u116 u125 T449.heap n0 z509 P449_0 f497 f508 (by decide) (fun o => (by rw [← hu76] at hu77; rw [← hu115] at hu116; exact own_same hu77 hu116 o)) (fun o => own_half o)) q515  (argsL := [(.ref a416), (.ref a390), (.ref a403), (.int (3 : Int32)), (.int (2 : Int32))]) (rest := []) (W := 0) (Jvm.hb hby at_242) rfl rfl (lenOf (pd3) rfl) (by rw [hml]; rfl) (Nat.le_of_eq rfl) (by decide) (by decide) (by decide) (by decide) (q := 245) rfl ?_
    intro T518 L518 w518 X518 hQ518
    obtain ⟨rfl, M518, q518⟩ := hQ518
    have N518 := Fr.app N515 M518
    show Go p e below _ (T518.setTop (mkF m 245 #[.val (.int q1), .val (.int q2), .val (.int q3), .val (.int q4), .val (.int q5), .val (.int q6), .val (.int (2 : Int32)), .val (.int u12), .val (.ref a383), .val (.ref a390), .val (.ref a403), .val (.ref a416), .val (.ref a429)] [(.int (1 : Int32))]))
    have hc245_520 : ¬ ((1 : Int32) = (0 : Int32)) := by decide
    refine Go.ifN X518.here hx (Jvm.hb hby at_245) ((if0 _ _).trans (feq hc245_520).1) (q := 248) rfl ?_
    refine Go.aload X518.here hx (Jvm.hb hby at_248) rfl rfl (q := 250) rfl ?_
    refine Go.aload X518.here hx (Jvm.hb hby at_250) rfl rfl (q := 252) rfl ?_
    refine Go.aload X518.here hx (Jvm.hb hby at_252) rfl rfl (q := 254) rfl ?_
    refine Go.iconst X518.here hx (Jvm.hb hby at_254) (v := (4 : Int32)) rfl (q := 255) rfl ?_
    refine Go.iload X518.here hx (Jvm.hb hby at_255) rfl (q := 257) rfl ?_
    refine Go.static X518 hx hZ (y := (⟨"com/example/ratewright/ratewright/inference/GradientCorrectionApplyPinLaw", "slot", "([D[D[DII)Z"⟩ : MethodName)) hown (word hw 50 rfl) (word hw 51 rfl) (word hw 53 rfl) (word hw 52 rfl) (by decide) (rm_slot4b l Z a0 hw a416 a390 a403 kk416 kk390 kk403 (2 : Int32) (own_r u57 u21) (own_r u63 u26) (4602678819172646912 : UInt64) (4602678819172646912 : UInt64) (4602678819172646912 : UInt64) u57 u63 u69 u77 u86 u96 u102 u108 u116 u125 T449.heap n0 z509 P449_0 f497 f508 (by decide) (fun o => (by rw [← hu85] at hu86; rw [← hu124] at hu125; exact own_same hu86 hu125 o)) (fun o => own_half o)) q518  (argsL := [(.ref a416), (.ref a390), (.ref a403), (.int (4 : Int32)), (.int (2 : Int32))]) (rest := []) (W := 0) (Jvm.hb hby at_257) rfl rfl (lenOf (pd3) rfl) (by rw [hml]; rfl) (Nat.le_of_eq rfl) (by decide) (by decide) (by decide) (by decide) (q := 260) rfl ?_
    intro T521 L521 w521 X521 hQ521
    obtain ⟨rfl, M521, q521⟩ := hQ521
    have N521 := Fr.app N518 M521
    show Go p e below _ (T521.setTop (mkF m 260 #[.val (.int q1), .val (.int q2), .val (.int q3), .val (.int q4), .val (.int q5), .val (.int q6), .val (.int (2 : Int32)), .val (.int u12), .val (.ref a383), .val (.ref a390), .val (.ref a403), .val (.ref a416), .val (.ref a429)] [(.int (1 : Int32))]))
    have hc260_523 : ¬ ((1 : Int32) = (0 : Int32)) := by decide
    refine Go.ifN X521.here hx (Jvm.hb hby at_260) ((if0 _ _).trans (feq hc260_523).1) (q := 263) rfl ?_
    refine Go.iconst X521.here hx (Jvm.hb hby at_263) (v := (1 : Int32)) rfl (q := 264) rfl ?_
    refine Go.goto X521.here hx (Jvm.hb hby at_264) (by decide) (q := 268) rfl ?_
    refine Go.retZ X521 hx hret hlk (Jvm.hb hby at_268) (Or.inr rfl) (by decide) (by decide) ?_
    exact ⟨rfl, N521⟩
  · -- u5 = 3
    refine Go.istore X0.here hx (Jvm.hb hby at_6) (l2 := #[.val (.int q1), .val (.int q2), .val (.int q3), .val (.int q4), .val (.int q5), .val (.int q6), .val (.int (3 : Int32)), .unset, .unset, .unset, .unset, .unset, .unset]) rfl (q := 8) rfl ?_
    refine Go.iloadN X0.here hx (Jvm.hb hby at_8) rfl (q := 9) rfl ?_
    refine Go.iconst X0.here hx (Jvm.hb hby at_9) (v := (3 : Int32)) rfl (q := 10) rfl ?_
    obtain ⟨u10, hu10⟩ : ∃ zq, (Int32.toUInt32 q1 >>> Int32.toUInt32 ((3 : Int32) &&& 31)).toInt32 = zq := ⟨_, rfl⟩
    refine Go.iushr X0.here hx (Jvm.hb hby at_10) hu10 (q := 11) rfl ?_
    refine Go.iconst X0.here hx (Jvm.hb hby at_11) (v := (3 : Int32)) rfl (q := 12) rfl ?_
    obtain ⟨u12, hu12⟩ : ∃ zq, u10 &&& (3 : Int32) = zq := ⟨_, rfl⟩
    refine Go.iand X0.here hx (Jvm.hb hby at_12) hu12 (q := 13) rfl ?_
    refine Go.istore X0.here hx (Jvm.hb hby at_13) (l2 := #[.val (.int q1), .val (.int q2), .val (.int q3), .val (.int q4), .val (.int q5), .val (.int q6), .val (.int (3 : Int32)), .val (.int u12), .unset, .unset, .unset, .unset, .unset]) rfl (q := 15) rfl ?_
    refine Go.iconst X0.here hx (Jvm.hb hby at_15) (v := (5 : Int32)) rfl (q := 16) rfl ?_
    refine Go.newarr X0 hx hZ (aty := .double) (word hw 0 rfl) e0 (Jvm.hb hby at_16) (by decide) (k := 5) (by decide) (by decide) (by decide) (by decide) (ad := "[D") (by decide) (q := 18) rfl ?_
    intro T524 h524 a524 kk524 g524 X524 e524 E524 R524 A524
    have r525 : n0 ≤ a524 := Nat.le_trans Z0 (Nat.le_of_eq g524.symm)
    have R524 : Row Z h524 a524 .double kk524 [(.double (0 : UInt64)), (.double (0 : UInt64)), (.double (0 : UInt64)), (.double (0 : UInt64)), (.double (0 : UInt64))] := R524
    refine Go.dup X524.here hx (Jvm.hb hby at_18) rfl (q := 19) rfl ?_
    refine Go.iconst X524.here hx (Jvm.hb hby at_19) (v := (0 : Int32)) rfl (q := 20) rfl ?_
    refine Go.iloadN X524.here hx (Jvm.hb hby at_20) rfl (q := 21) rfl ?_
    obtain ⟨u21, hu21⟩ : ∃ zq, FP.i2d q2 = zq := ⟨_, rfl⟩
    refine Go.i2d X524.here hx (Jvm.hb hby at_21) hu21 (q := 22) rfl ?_
    refine Go.dastore X524 hx hZ e524 R524 (Jvm.hb hby at_22) (i := 0) (by decide) (by decide) rfl (q := 23) rfl ?_
    intro T526 h526 X526 e526 W526 R526
    have N526 := Fr.snoc X526 N0 r525
    have R526 : Row Z h526 a524 .double kk524 [(.double u21), (.double (0 : UInt64)), (.double (0 : UInt64)), (.double (0 : UInt64)), (.double (0 : UInt64))] := R526
    refine Go.dup X526.here hx (Jvm.hb hby at_23) rfl (q := 24) rfl ?_
    refine Go.iconst X526.here hx (Jvm.hb hby at_24) (v := (1 : Int32)) rfl (q := 25) rfl ?_
    refine Go.iloadN X526.here hx (Jvm.hb hby at_25) rfl (q := 26) rfl ?_
    obtain ⟨u26, hu26⟩ : ∃ zq, FP.i2d q3 = zq := ⟨_, rfl⟩
    refine Go.i2d X526.here hx (Jvm.hb hby at_26) hu26 (q := 27) rfl ?_
    refine Go.dastore X526 hx hZ e526 R526 (Jvm.hb hby at_27) (i := 1) (by decide) (by decide) rfl (q := 28) rfl ?_
    intro T527 h527 X527 e527 W527 R527
    have N527 := Fr.snoc X527 N526 r525
    have R527 : Row Z h527 a524 .double kk524 [(.double u21), (.double u26), (.double (0 : UInt64)), (.double (0 : UInt64)), (.double (0 : UInt64))] := R527
    refine Go.dup X527.here hx (Jvm.hb hby at_28) rfl (q := 29) rfl ?_
    refine Go.iconst X527.here hx (Jvm.hb hby at_29) (v := (2 : Int32)) rfl (q := 30) rfl ?_
    refine Go.iloadN X527.here hx (Jvm.hb hby at_30) rfl (q := 31) rfl ?_
    refine Go.iloadN X527.here hx (Jvm.hb hby at_31) rfl (q := 32) rfl ?_
    obtain ⟨u32, hu32⟩ : ∃ zq, q2 ^^^ q3 = zq := ⟨_, rfl⟩
    refine Go.ixor X527.here hx (Jvm.hb hby at_32) hu32 (q := 33) rfl ?_
    obtain ⟨u33, hu33⟩ : ∃ zq, FP.i2d u32 = zq := ⟨_, rfl⟩
    refine Go.i2d X527.here hx (Jvm.hb hby at_33) hu33 (q := 34) rfl ?_
    refine Go.dastore X527 hx hZ e527 R527 (Jvm.hb hby at_34) (i := 2) (by decide) (by decide) rfl (q := 35) rfl ?_
    intro T528 h528 X528 e528 W528 R528
    have N528 := Fr.snoc X528 N527 r525
    have R528 : Row Z h528 a524 .double kk524 [(.double u21), (.double u26), (.double u33), (.double (0 : UInt64)), (.double (0 : UInt64))] := R528
    refine Go.dup X528.here hx (Jvm.hb hby at_35) rfl (q := 36) rfl ?_
    refine Go.iconst X528.here hx (Jvm.hb hby at_36) (v := (3 : Int32)) rfl (q := 37) rfl ?_
    refine Go.iloadN X528.here hx (Jvm.hb hby at_37) rfl (q := 38) rfl ?_
    refine Go.iloadN X528.here hx (Jvm.hb hby at_38) rfl (q := 39) rfl ?_
    obtain ⟨u39, hu39⟩ : ∃ zq, q2 - q3 = zq := ⟨_, rfl⟩
    refine Go.isub X528.here hx (Jvm.hb hby at_39) hu39 (q := 40) rfl ?_
    obtain ⟨u40, hu40⟩ : ∃ zq, FP.i2d u39 = zq := ⟨_, rfl⟩
    refine Go.i2d X528.here hx (Jvm.hb hby at_40) hu40 (q := 41) rfl ?_
    refine Go.dastore X528 hx hZ e528 R528 (Jvm.hb hby at_41) (i := 3) (by decide) (by decide) rfl (q := 42) rfl ?_
    intro T529 h529 X529 e529 W529 R529
    have N529 := Fr.snoc X529 N528 r525
    have R529 : Row Z h529 a524 .double kk524 [(.double u21), (.double u26), (.double u33), (.double u40), (.double (0 : UInt64))] := R529
    refine Go.dup X529.here hx (Jvm.hb hby at_42) rfl (q := 43) rfl ?_
    refine Go.iconst X529.here hx (Jvm.hb hby at_43) (v := (4 : Int32)) rfl (q := 44) rfl ?_
    refine Go.iloadN X529.here hx (Jvm.hb hby at_44) rfl (q := 45) rfl ?_
    refine Go.iconst X529.here hx (Jvm.hb hby at_45) (v := (3 : Int32)) rfl (q := 46) rfl ?_
    obtain ⟨u46, hu46⟩ : ∃ zq, q3 + (3 : Int32) = zq := ⟨_, rfl⟩
    refine Go.iadd X529.here hx (Jvm.hb hby at_46) hu46 (q := 47) rfl ?_
    obtain ⟨u47, hu47⟩ : ∃ zq, FP.i2d u46 = zq := ⟨_, rfl⟩
    refine Go.i2d X529.here hx (Jvm.hb hby at_47) hu47 (q := 48) rfl ?_
    refine Go.dastore X529 hx hZ e529 R529 (Jvm.hb hby at_48) (i := 4) (by decide) (by decide) rfl (q := 49) rfl ?_
    intro T530 h530 X530 e530 W530 R530
    have N530 := Fr.snoc X530 N529 r525
    have R530 : Row Z h530 a524 .double kk524 [(.double u21), (.double u26), (.double u33), (.double u40), (.double u47)] := R530
    refine Go.astore X530.here hx (Jvm.hb hby at_49) rfl (l2 := #[.val (.int q1), .val (.int q2), .val (.int q3), .val (.int q4), .val (.int q5), .val (.int q6), .val (.int (3 : Int32)), .val (.int u12), .val (.ref a524), .unset, .unset, .unset, .unset]) rfl (q := 51) rfl ?_
    refine Go.iconst X530.here hx (Jvm.hb hby at_51) (v := (5 : Int32)) rfl (q := 52) rfl ?_
    refine Go.newarr X530 hx hZ (aty := .double) (word hw 0 rfl) e530 (Jvm.hb hby at_52) (by decide) (k := 5) (by decide) (by decide) (by decide) (by decide) (ad := "[D") (by decide) (q := 54) rfl ?_
    intro T531 h531 a531 kk531 g531 X531 e531 E531 R531 A531
    have z532 : n0 ≤ h524.size := Nat.le_trans Z0 E524.1
    have z533 : n0 ≤ h526.size := Nat.le_trans z532 (Nat.le_of_eq W526.size.symm)
    have z534 : n0 ≤ h527.size := Nat.le_trans z533 (Nat.le_of_eq W527.size.symm)
    have z535 : n0 ≤ h528.size := Nat.le_trans z534 (Nat.le_of_eq W528.size.symm)
    have z536 : n0 ≤ h529.size := Nat.le_trans z535 (Nat.le_of_eq W529.size.symm)
    have z537 : n0 ≤ h530.size := Nat.le_trans z536 (Nat.le_of_eq W530.size.symm)
    have r538 : n0 ≤ a531 := Nat.le_trans z537 (Nat.le_of_eq g531.symm)
    have R531 : Row Z h531 a531 .double kk531 [(.double (0 : UInt64)), (.double (0 : UInt64)), (.double (0 : UInt64)), (.double (0 : UInt64)), (.double (0 : UInt64))] := R531
    refine Go.dup X531.here hx (Jvm.hb hby at_54) rfl (q := 55) rfl ?_
    refine Go.iconst X531.here hx (Jvm.hb hby at_55) (v := (0 : Int32)) rfl (q := 56) rfl ?_
    refine Go.iloadN X531.here hx (Jvm.hb hby at_56) rfl (q := 57) rfl ?_
    obtain ⟨u57, hu57⟩ : ∃ zq, FP.i2d q4 = zq := ⟨_, rfl⟩
    refine Go.i2d X531.here hx (Jvm.hb hby at_57) hu57 (q := 58) rfl ?_
    refine Go.dastore X531 hx hZ e531 R531 (Jvm.hb hby at_58) (i := 0) (by decide) (by decide) rfl (q := 59) rfl ?_
    intro T539 h539 X539 e539 W539 R539
    have N539 := Fr.snoc X539 N530 r538
    have R539 : Row Z h539 a531 .double kk531 [(.double u57), (.double (0 : UInt64)), (.double (0 : UInt64)), (.double (0 : UInt64)), (.double (0 : UInt64))] := R539
    refine Go.dup X539.here hx (Jvm.hb hby at_59) rfl (q := 60) rfl ?_
    refine Go.iconst X539.here hx (Jvm.hb hby at_60) (v := (1 : Int32)) rfl (q := 61) rfl ?_
    refine Go.iload X539.here hx (Jvm.hb hby at_61) rfl (q := 63) rfl ?_
    obtain ⟨u63, hu63⟩ : ∃ zq, FP.i2d q5 = zq := ⟨_, rfl⟩
    refine Go.i2d X539.here hx (Jvm.hb hby at_63) hu63 (q := 64) rfl ?_
    refine Go.dastore X539 hx hZ e539 R539 (Jvm.hb hby at_64) (i := 1) (by decide) (by decide) rfl (q := 65) rfl ?_
    intro T540 h540 X540 e540 W540 R540
    have N540 := Fr.snoc X540 N539 r538
    have R540 : Row Z h540 a531 .double kk531 [(.double u57), (.double u63), (.double (0 : UInt64)), (.double (0 : UInt64)), (.double (0 : UInt64))] := R540
    refine Go.dup X540.here hx (Jvm.hb hby at_65) rfl (q := 66) rfl ?_
    refine Go.iconst X540.here hx (Jvm.hb hby at_66) (v := (2 : Int32)) rfl (q := 67) rfl ?_
    refine Go.iload X540.here hx (Jvm.hb hby at_67) rfl (q := 69) rfl ?_
    obtain ⟨u69, hu69⟩ : ∃ zq, FP.i2d q6 = zq := ⟨_, rfl⟩
    refine Go.i2d X540.here hx (Jvm.hb hby at_69) hu69 (q := 70) rfl ?_
    refine Go.dastore X540 hx hZ e540 R540 (Jvm.hb hby at_70) (i := 2) (by decide) (by decide) rfl (q := 71) rfl ?_
    intro T541 h541 X541 e541 W541 R541
    have N541 := Fr.snoc X541 N540 r538
    have R541 : Row Z h541 a531 .double kk531 [(.double u57), (.double u63), (.double u69), (.double (0 : UInt64)), (.double (0 : UInt64))] := R541
    refine Go.dup X541.here hx (Jvm.hb hby at_71) rfl (q := 72) rfl ?_
    refine Go.iconst X541.here hx (Jvm.hb hby at_72) (v := (3 : Int32)) rfl (q := 73) rfl ?_
    refine Go.iloadN X541.here hx (Jvm.hb hby at_73) rfl (q := 74) rfl ?_
    refine Go.iload X541.here hx (Jvm.hb hby at_74) rfl (q := 76) rfl ?_
    obtain ⟨u76, hu76⟩ : ∃ zq, q4 ^^^ q5 = zq := ⟨_, rfl⟩
    refine Go.ixor X541.here hx (Jvm.hb hby at_76) hu76 (q := 77) rfl ?_
    obtain ⟨u77, hu77⟩ : ∃ zq, FP.i2d u76 = zq := ⟨_, rfl⟩
    refine Go.i2d X541.here hx (Jvm.hb hby at_77) hu77 (q := 78) rfl ?_
    refine Go.dastore X541 hx hZ e541 R541 (Jvm.hb hby at_78) (i := 3) (by decide) (by decide) rfl (q := 79) rfl ?_
    intro T542 h542 X542 e542 W542 R542
    have N542 := Fr.snoc X542 N541 r538
    have R542 : Row Z h542 a531 .double kk531 [(.double u57), (.double u63), (.double u69), (.double u77), (.double (0 : UInt64))] := R542
    refine Go.dup X542.here hx (Jvm.hb hby at_79) rfl (q := 80) rfl ?_
    refine Go.iconst X542.here hx (Jvm.hb hby at_80) (v := (4 : Int32)) rfl (q := 81) rfl ?_
    refine Go.iload X542.here hx (Jvm.hb hby at_81) rfl (q := 83) rfl ?_
    refine Go.iload X542.here hx (Jvm.hb hby at_83) rfl (q := 85) rfl ?_
    obtain ⟨u85, hu85⟩ : ∃ zq, q6 - q5 = zq := ⟨_, rfl⟩
    refine Go.isub X542.here hx (Jvm.hb hby at_85) hu85 (q := 86) rfl ?_
    obtain ⟨u86, hu86⟩ : ∃ zq, FP.i2d u85 = zq := ⟨_, rfl⟩
    refine Go.i2d X542.here hx (Jvm.hb hby at_86) hu86 (q := 87) rfl ?_
    refine Go.dastore X542 hx hZ e542 R542 (Jvm.hb hby at_87) (i := 4) (by decide) (by decide) rfl (q := 88) rfl ?_
    intro T543 h543 X543 e543 W543 R543
    have N543 := Fr.snoc X543 N542 r538
    have R543 : Row Z h543 a531 .double kk531 [(.double u57), (.double u63), (.double u69), (.double u77), (.double u86)] := R543
    refine Go.astore X543.here hx (Jvm.hb hby at_88) rfl (l2 := #[.val (.int q1), .val (.int q2), .val (.int q3), .val (.int q4), .val (.int q5), .val (.int q6), .val (.int (3 : Int32)), .val (.int u12), .val (.ref a524), .val (.ref a531), .unset, .unset, .unset]) rfl (q := 90) rfl ?_
    refine Go.iconst X543.here hx (Jvm.hb hby at_90) (v := (5 : Int32)) rfl (q := 91) rfl ?_
    refine Go.newarr X543 hx hZ (aty := .double) (word hw 0 rfl) e543 (Jvm.hb hby at_91) (by decide) (k := 5) (by decide) (by decide) (by decide) (by decide) (ad := "[D") (by decide) (q := 93) rfl ?_
    intro T544 h544 a544 kk544 g544 X544 e544 E544 R544 A544
    have z545 : n0 ≤ h531.size := Nat.le_trans z537 E531.1
    have z546 : n0 ≤ h539.size := Nat.le_trans z545 (Nat.le_of_eq W539.size.symm)
    have z547 : n0 ≤ h540.size := Nat.le_trans z546 (Nat.le_of_eq W540.size.symm)
    have z548 : n0 ≤ h541.size := Nat.le_trans z547 (Nat.le_of_eq W541.size.symm)
    have z549 : n0 ≤ h542.size := Nat.le_trans z548 (Nat.le_of_eq W542.size.symm)
    have z550 : n0 ≤ h543.size := Nat.le_trans z549 (Nat.le_of_eq W543.size.symm)
    have r551 : n0 ≤ a544 := Nat.le_trans z550 (Nat.le_of_eq g544.symm)
    have R544 : Row Z h544 a544 .double kk544 [(.double (0 : UInt64)), (.double (0 : UInt64)), (.double (0 : UInt64)), (.double (0 : UInt64)), (.double (0 : UInt64))] := R544
    refine Go.dup X544.here hx (Jvm.hb hby at_93) rfl (q := 94) rfl ?_
    refine Go.iconst X544.here hx (Jvm.hb hby at_94) (v := (0 : Int32)) rfl (q := 95) rfl ?_
    refine Go.iloadN X544.here hx (Jvm.hb hby at_95) rfl (q := 96) rfl ?_
    obtain ⟨u96, hu96⟩ : ∃ zq, FP.i2d q4 = zq := ⟨_, rfl⟩
    refine Go.i2d X544.here hx (Jvm.hb hby at_96) hu96 (q := 97) rfl ?_
    refine Go.dastore X544 hx hZ e544 R544 (Jvm.hb hby at_97) (i := 0) (by decide) (by decide) rfl (q := 98) rfl ?_
    intro T552 h552 X552 e552 W552 R552
    have N552 := Fr.snoc X552 N543 r551
    have R552 : Row Z h552 a544 .double kk544 [(.double u96), (.double (0 : UInt64)), (.double (0 : UInt64)), (.double (0 : UInt64)), (.double (0 : UInt64))] := R552
    refine Go.dup X552.here hx (Jvm.hb hby at_98) rfl (q := 99) rfl ?_
    refine Go.iconst X552.here hx (Jvm.hb hby at_99) (v := (1 : Int32)) rfl (q := 100) rfl ?_
    refine Go.iload X552.here hx (Jvm.hb hby at_100) rfl (q := 102) rfl ?_
    obtain ⟨u102, hu102⟩ : ∃ zq, FP.i2d q5 = zq := ⟨_, rfl⟩
    refine Go.i2d X552.here hx (Jvm.hb hby at_102) hu102 (q := 103) rfl ?_
    refine Go.dastore X552 hx hZ e552 R552 (Jvm.hb hby at_103) (i := 1) (by decide) (by decide) rfl (q := 104) rfl ?_
    intro T553 h553 X553 e553 W553 R553
    have N553 := Fr.snoc X553 N552 r551
    have R553 : Row Z h553 a544 .double kk544 [(.double u96), (.double u102), (.double (0 : UInt64)), (.double (0 : UInt64)), (.double (0 : UInt64))] := R553
    refine Go.dup X553.here hx (Jvm.hb hby at_104) rfl (q := 105) rfl ?_
    refine Go.iconst X553.here hx (Jvm.hb hby at_105) (v := (2 : Int32)) rfl (q := 106) rfl ?_
    refine Go.iload X553.here hx (Jvm.hb hby at_106) rfl (q := 108) rfl ?_
    obtain ⟨u108, hu108⟩ : ∃ zq, FP.i2d q6 = zq := ⟨_, rfl⟩
    refine Go.i2d X553.here hx (Jvm.hb hby at_108) hu108 (q := 109) rfl ?_
    refine Go.dastore X553 hx hZ e553 R553 (Jvm.hb hby at_109) (i := 2) (by decide) (by decide) rfl (q := 110) rfl ?_
    intro T554 h554 X554 e554 W554 R554
    have N554 := Fr.snoc X554 N553 r551
    have R554 : Row Z h554 a544 .double kk544 [(.double u96), (.double u102), (.double u108), (.double (0 : UInt64)), (.double (0 : UInt64))] := R554
    refine Go.dup X554.here hx (Jvm.hb hby at_110) rfl (q := 111) rfl ?_
    refine Go.iconst X554.here hx (Jvm.hb hby at_111) (v := (3 : Int32)) rfl (q := 112) rfl ?_
    refine Go.iloadN X554.here hx (Jvm.hb hby at_112) rfl (q := 113) rfl ?_
    refine Go.iload X554.here hx (Jvm.hb hby at_113) rfl (q := 115) rfl ?_
    obtain ⟨u115, hu115⟩ : ∃ zq, q4 ^^^ q5 = zq := ⟨_, rfl⟩
    refine Go.ixor X554.here hx (Jvm.hb hby at_115) hu115 (q := 116) rfl ?_
    obtain ⟨u116, hu116⟩ : ∃ zq, FP.i2d u115 = zq := ⟨_, rfl⟩
    refine Go.i2d X554.here hx (Jvm.hb hby at_116) hu116 (q := 117) rfl ?_
    refine Go.dastore X554 hx hZ e554 R554 (Jvm.hb hby at_117) (i := 3) (by decide) (by decide) rfl (q := 118) rfl ?_
    intro T555 h555 X555 e555 W555 R555
    have N555 := Fr.snoc X555 N554 r551
    have R555 : Row Z h555 a544 .double kk544 [(.double u96), (.double u102), (.double u108), (.double u116), (.double (0 : UInt64))] := R555
    refine Go.dup X555.here hx (Jvm.hb hby at_118) rfl (q := 119) rfl ?_
    refine Go.iconst X555.here hx (Jvm.hb hby at_119) (v := (4 : Int32)) rfl (q := 120) rfl ?_
    refine Go.iload X555.here hx (Jvm.hb hby at_120) rfl (q := 122) rfl ?_
    refine Go.iload X555.here hx (Jvm.hb hby at_122) rfl (q := 124) rfl ?_
    obtain ⟨u124, hu124⟩ : ∃ zq, q6 - q5 = zq := ⟨_, rfl⟩
    refine Go.isub X555.here hx (Jvm.hb hby at_124) hu124 (q := 125) rfl ?_
    obtain ⟨u125, hu125⟩ : ∃ zq, FP.i2d u124 = zq := ⟨_, rfl⟩
    refine Go.i2d X555.here hx (Jvm.hb hby at_125) hu125 (q := 126) rfl ?_
    refine Go.dastore X555 hx hZ e555 R555 (Jvm.hb hby at_126) (i := 4) (by decide) (by decide) rfl (q := 127) rfl ?_
    intro T556 h556 X556 e556 W556 R556
    have N556 := Fr.snoc X556 N555 r551
    have R556 : Row Z h556 a544 .double kk544 [(.double u96), (.double u102), (.double u108), (.double u116), (.double u125)] := R556
    refine Go.astore X556.here hx (Jvm.hb hby at_127) rfl (l2 := #[.val (.int q1), .val (.int q2), .val (.int q3), .val (.int q4), .val (.int q5), .val (.int q6), .val (.int (3 : Int32)), .val (.int u12), .val (.ref a524), .val (.ref a531), .val (.ref a544), .unset, .unset]) rfl (q := 129) rfl ?_
    refine Go.iconst X556.here hx (Jvm.hb hby at_129) (v := (5 : Int32)) rfl (q := 130) rfl ?_
    refine Go.newarr X556 hx hZ (aty := .double) (word hw 0 rfl) e556 (Jvm.hb hby at_130) (by decide) (k := 5) (by decide) (by decide) (by decide) (by decide) (ad := "[D") (by decide) (q := 132) rfl ?_
    intro T557 h557 a557 kk557 g557 X557 e557 E557 R557 A557
    have z558 : n0 ≤ h544.size := Nat.le_trans z550 E544.1
    have z559 : n0 ≤ h552.size := Nat.le_trans z558 (Nat.le_of_eq W552.size.symm)
    have z560 : n0 ≤ h553.size := Nat.le_trans z559 (Nat.le_of_eq W553.size.symm)
    have z561 : n0 ≤ h554.size := Nat.le_trans z560 (Nat.le_of_eq W554.size.symm)
    have z562 : n0 ≤ h555.size := Nat.le_trans z561 (Nat.le_of_eq W555.size.symm)
    have z563 : n0 ≤ h556.size := Nat.le_trans z562 (Nat.le_of_eq W556.size.symm)
    have r564 : n0 ≤ a557 := Nat.le_trans z563 (Nat.le_of_eq g557.symm)
    have R557 : Row Z h557 a557 .double kk557 [(.double (0 : UInt64)), (.double (0 : UInt64)), (.double (0 : UInt64)), (.double (0 : UInt64)), (.double (0 : UInt64))] := R557
    refine Go.dup X557.here hx (Jvm.hb hby at_132) rfl (q := 133) rfl ?_
    refine Go.iconst X557.here hx (Jvm.hb hby at_133) (v := (0 : Int32)) rfl (q := 134) rfl ?_
    refine Go.ldc2D X557 hx hown (mvT hZ (word hw 1 rfl)) (Jvm.hb hby at_134) (q := 137) rfl ?_
    refine Go.dastore X557 hx hZ e557 R557 (Jvm.hb hby at_137) (i := 0) (by decide) (by decide) rfl (q := 138) rfl ?_
    intro T565 h565 X565 e565 W565 R565
    have N565 := Fr.snoc X565 N556 r564
    have R565 : Row Z h565 a557 .double kk557 [(.double (4602678819172646912 : UInt64)), (.double (0 : UInt64)), (.double (0 : UInt64)), (.double (0 : UInt64)), (.double (0 : UInt64))] := R565
    refine Go.dup X565.here hx (Jvm.hb hby at_138) rfl (q := 139) rfl ?_
    refine Go.iconst X565.here hx (Jvm.hb hby at_139) (v := (1 : Int32)) rfl (q := 140) rfl ?_
    refine Go.ldc2D X565 hx hown (mvT hZ (word hw 1 rfl)) (Jvm.hb hby at_140) (q := 143) rfl ?_
    refine Go.dastore X565 hx hZ e565 R565 (Jvm.hb hby at_143) (i := 1) (by decide) (by decide) rfl (q := 144) rfl ?_
    intro T566 h566 X566 e566 W566 R566
    have N566 := Fr.snoc X566 N565 r564
    have R566 : Row Z h566 a557 .double kk557 [(.double (4602678819172646912 : UInt64)), (.double (4602678819172646912 : UInt64)), (.double (0 : UInt64)), (.double (0 : UInt64)), (.double (0 : UInt64))] := R566
    refine Go.dup X566.here hx (Jvm.hb hby at_144) rfl (q := 145) rfl ?_
    refine Go.iconst X566.here hx (Jvm.hb hby at_145) (v := (2 : Int32)) rfl (q := 146) rfl ?_
    refine Go.ldc2D X566 hx hown (mvT hZ (word hw 1 rfl)) (Jvm.hb hby at_146) (q := 149) rfl ?_
    refine Go.dastore X566 hx hZ e566 R566 (Jvm.hb hby at_149) (i := 2) (by decide) (by decide) rfl (q := 150) rfl ?_
    intro T567 h567 X567 e567 W567 R567
    have N567 := Fr.snoc X567 N566 r564
    have R567 : Row Z h567 a557 .double kk557 [(.double (4602678819172646912 : UInt64)), (.double (4602678819172646912 : UInt64)), (.double (4602678819172646912 : UInt64)), (.double (0 : UInt64)), (.double (0 : UInt64))] := R567
    refine Go.dup X567.here hx (Jvm.hb hby at_150) rfl (q := 151) rfl ?_
    refine Go.iconst X567.here hx (Jvm.hb hby at_151) (v := (3 : Int32)) rfl (q := 152) rfl ?_
    refine Go.ldc2D X567 hx hown (mvT hZ (word hw 1 rfl)) (Jvm.hb hby at_152) (q := 155) rfl ?_
    refine Go.dastore X567 hx hZ e567 R567 (Jvm.hb hby at_155) (i := 3) (by decide) (by decide) rfl (q := 156) rfl ?_
    intro T568 h568 X568 e568 W568 R568
    have N568 := Fr.snoc X568 N567 r564
    have R568 : Row Z h568 a557 .double kk557 [(.double (4602678819172646912 : UInt64)), (.double (4602678819172646912 : UInt64)), (.double (4602678819172646912 : UInt64)), (.double (4602678819172646912 : UInt64)), (.double (0 : UInt64))] := R568
    refine Go.dup X568.here hx (Jvm.hb hby at_156) rfl (q := 157) rfl ?_
    refine Go.iconst X568.here hx (Jvm.hb hby at_157) (v := (4 : Int32)) rfl (q := 158) rfl ?_
    refine Go.ldc2D X568 hx hown (mvT hZ (word hw 1 rfl)) (Jvm.hb hby at_158) (q := 161) rfl ?_
    refine Go.dastore X568 hx hZ e568 R568 (Jvm.hb hby at_161) (i := 4) (by decide) (by decide) rfl (q := 162) rfl ?_
    intro T569 h569 X569 e569 W569 R569
    have N569 := Fr.snoc X569 N568 r564
    have R569 : Row Z h569 a557 .double kk557 [(.double (4602678819172646912 : UInt64)), (.double (4602678819172646912 : UInt64)), (.double (4602678819172646912 : UInt64)), (.double (4602678819172646912 : UInt64)), (.double (4602678819172646912 : UInt64))] := R569
    refine Go.astore X569.here hx (Jvm.hb hby at_162) rfl (l2 := #[.val (.int q1), .val (.int q2), .val (.int q3), .val (.int q4), .val (.int q5), .val (.int q6), .val (.int (3 : Int32)), .val (.int u12), .val (.ref a524), .val (.ref a531), .val (.ref a544), .val (.ref a557), .unset]) rfl (q := 164) rfl ?_
    refine Go.new X569 hx hZ hown (word hw 2 rfl) (word hw 3 rfl) (word hw 4 rfl) e569 (Jvm.hb hby at_164) (by decide) (by decide) (q := 167) rfl ?_
    intro T570 h570 a570 g570 X570 e570 E570 A570 D570
    have z571 : n0 ≤ h557.size := Nat.le_trans z563 E557.1
    have z572 : n0 ≤ h565.size := Nat.le_trans z571 (Nat.le_of_eq W565.size.symm)
    have z573 : n0 ≤ h566.size := Nat.le_trans z572 (Nat.le_of_eq W566.size.symm)
    have z574 : n0 ≤ h567.size := Nat.le_trans z573 (Nat.le_of_eq W567.size.symm)
    have z575 : n0 ≤ h568.size := Nat.le_trans z574 (Nat.le_of_eq W568.size.symm)
    have z576 : n0 ≤ h569.size := Nat.le_trans z575 (Nat.le_of_eq W569.size.symm)
    have r577 : n0 ≤ a570 := Nat.le_trans z576 (Nat.le_of_eq g570.symm)
    have F578 : Fld Z h570 a570 "com/example/ratewright/ratewright/inference/GradientCorrection" "dimension" "I" (.int (0 : Int32)) := D570 (Or.inr (word hw 12 rfl)) (ty := .int) (by decide)
    have F579 : Fld Z h570 a570 "com/example/ratewright/ratewright/inference/GradientCorrection" "unknowns" "I" (.int (0 : Int32)) := D570 (Or.inr (word hw 14 rfl)) (ty := .int) (by decide)
    have F580 : Fld Z h570 a570 "com/example/ratewright/ratewright/inference/GradientCorrection" "coefficients" "[D" .null := D570 (Or.inl (word hw 16 rfl)) (ty := (.array .double)) (by decide)
    have F581 : Fld Z h570 a570 "com/example/ratewright/ratewright/inference/GradientCorrection" "fitted" "Lcom/example/ratewright/ratewright/inference/GradientCorrection$NormalEquations;" .null := D570 (Or.inr (word hw 31 rfl)) (ty := (.object "com/example/ratewright/ratewright/inference/GradientCorrection$NormalEquations")) (by decide)
    have F582 : Fld Z h570 a570 "com/example/ratewright/ratewright/inference/GradientCorrection" "heldOut" "Lcom/example/ratewright/ratewright/inference/GradientCorrection$NormalEquations;" .null := D570 (Or.inr (word hw 33 rfl)) (ty := (.object "com/example/ratewright/ratewright/inference/GradientCorrection$NormalEquations")) (by decide)
    have F583 : Fld Z h570 a570 "com/example/ratewright/ratewright/inference/GradientCorrection" "heldOutTerms" "[[D" .null := D570 (Or.inr (word hw 37 rfl)) (ty := (.array (.array .double))) (by decide)
    have F584 : Fld Z h570 a570 "com/example/ratewright/ratewright/inference/GradientCorrection" "heldOutMisses" "[D" .null := D570 (Or.inr (word hw 39 rfl)) (ty := (.array .double)) (by decide)
    have F585 : Fld Z h570 a570 "com/example/ratewright/ratewright/inference/GradientCorrection" "pendingTerms" "[[D" .null := D570 (Or.inr (word hw 42 rfl)) (ty := (.array (.array .double))) (by decide)
    have F586 : Fld Z h570 a570 "com/example/ratewright/ratewright/inference/GradientCorrection" "pendingMisses" "[D" .null := D570 (Or.inr (word hw 44 rfl)) (ty := (.array .double)) (by decide)
    refine Go.dup X570.here hx (Jvm.hb hby at_167) rfl (q := 168) rfl ?_
    refine Go.iload X570.here hx (Jvm.hb hby at_168) rfl (q := 170) rfl ?_
    refine Go.iload X570.here hx (Jvm.hb hby at_170) rfl (q := 172) rfl ?_
    have z588 : n0 ≤ h570.size := Nat.le_trans z576 E570.1
    refine Go.special X570 hx hZ (y := (⟨"com/example/ratewright/ratewright/inference/GradientCorrection", "<init>", "(II)V"⟩ : MethodName)) rfl hown (word hw 5 rfl) (word hw 6 rfl) (word hw 7 rfl) (word hw 4 rfl) (by decide) (rm_init3 l Z a0 hw a570 u12 (.int (0 : Int32)) (.int (0 : Int32)) .null .null .null .null .null .null .null h570 n0 z588 A570 F578 F579 F580 F581 F582 F583 F584 F585 F586 r577 (own_four hu12)) e570 (a := a570) (argsL := [(.int (3 : Int32)), (.int u12)]) (rest := [(.ref a570)]) (W := 1) (Jvm.hb hby at_172) rfl rfl (lenOf (pd1) rfl) (by rw [hml]; rfl) (Nat.le_of_eq rfl) (by decide) (by decide) (by decide) (by decide) (q := 175) rfl ?_
    intro T587 L587 w587 X587 hQ587
    obtain ⟨a587, kk587_1, rfl, M587, K587, G587_0, P587_0, P587_1, P587_2, P587_3⟩ := hQ587
    have N587 := Fr.app N569 M587
    have r589 : n0 ≤ a587 := Nat.le_trans z588 (G587_0)
    show Go p e below _ (T587.setTop (mkF m 175 #[.val (.int q1), .val (.int q2), .val (.int q3), .val (.int q4), .val (.int q5), .val (.int q6), .val (.int (3 : Int32)), .val (.int u12), .val (.ref a524), .val (.ref a531), .val (.ref a544), .val (.ref a557), .unset] [(.ref a570)]))
    refine Go.astore X587.here hx (Jvm.hb hby at_175) rfl (l2 := #[.val (.int q1), .val (.int q2), .val (.int q3), .val (.int q4), .val (.int q5), .val (.int q6), .val (.int (3 : Int32)), .val (.int u12), .val (.ref a524), .val (.ref a531), .val (.ref a544), .val (.ref a557), .val (.ref a570)]) rfl (q := 177) rfl ?_
    refine Go.aload X587.here hx (Jvm.hb hby at_177) rfl rfl (q := 179) rfl ?_
    refine Go.aload X587.here hx (Jvm.hb hby at_179) rfl rfl (q := 181) rfl ?_
    refine Go.aload X587.here hx (Jvm.hb hby at_181) rfl rfl (q := 183) rfl ?_
    refine Go.aload X587.here hx (Jvm.hb hby at_183) rfl rfl (q := 185) rfl ?_
    have f591 := R530.ext E531
    have ne593 : a524 ≠ a531 := Nat.ne_of_lt (Nat.lt_of_lt_of_le R530.lt (Nat.le_of_eq g531.symm))
    have f592 := f591.other W539 ne593
    have f594 := f592.other W540 ne593
    have f595 := f594.other W541 ne593
    have f596 := f595.other W542 ne593
    have f597 := f596.other W543 ne593
    have f598 := f597.ext E544
    have ne600 : a524 ≠ a544 := Nat.ne_of_lt (Nat.lt_of_lt_of_le f597.lt (Nat.le_of_eq g544.symm))
    have f599 := f598.other W552 ne600
    have f601 := f599.other W553 ne600
    have f602 := f601.other W554 ne600
    have f603 := f602.other W555 ne600
    have f604 := f603.other W556 ne600
    have f605 := f604.ext E557
    have ne607 : a524 ≠ a557 := Nat.ne_of_lt (Nat.lt_of_lt_of_le f604.lt (Nat.le_of_eq g557.symm))
    have f606 := f605.other W565 ne607
    have f608 := f606.other W566 ne607
    have f609 := f608.other W567 ne607
    have f610 := f609.other W568 ne607
    have f611 := f610.other W569 ne607
    have f612 := f611.ext E570
    have ne614 : a524 ≠ a570 := Nat.ne_of_lt (Nat.lt_of_lt_of_le f611.lt (Nat.le_of_eq g570.symm))
    have f613 := f612.keep K587 (ninS ne614 nin0)
    have f615 := R543.ext E544
    have ne617 : a531 ≠ a544 := Nat.ne_of_lt (Nat.lt_of_lt_of_le R543.lt (Nat.le_of_eq g544.symm))
    have f616 := f615.other W552 ne617
    have f618 := f616.other W553 ne617
    have f619 := f618.other W554 ne617
    have f620 := f619.other W555 ne617
    have f621 := f620.other W556 ne617
    have f622 := f621.ext E557
    have ne624 : a531 ≠ a557 := Nat.ne_of_lt (Nat.lt_of_lt_of_le f621.lt (Nat.le_of_eq g557.symm))
    have f623 := f622.other W565 ne624
    have f625 := f623.other W566 ne624
    have f626 := f625.other W567 ne624
    have f627 := f626.other W568 ne624
    have f628 := f627.other W569 ne624
    have f629 := f628.ext E570
    have ne631 : a531 ≠ a570 := Nat.ne_of_lt (Nat.lt_of_lt_of_le f628.lt (Nat.le_of_eq g570.symm))
    have f630 := f629.keep K587 (ninS ne631 nin0)
    have f632 := R569.ext E570
    have ne634 : a557 ≠ a570 := Nat.ne_of_lt (Nat.lt_of_lt_of_le R569.lt (Nat.le_of_eq g570.symm))
    have f633 := f632.keep K587 (ninS ne634 nin0)
    have ne635 : a557 ≠ a587 := Nat.ne_of_lt (Nat.lt_of_lt_of_le f632.lt (G587_0))
    have z636 : n0 ≤ T587.heap.size := Nat.le_trans z588 K587.1
    refine Go.virtual X587 hx hZ (y := (⟨"com/example/ratewright/ratewright/inference/GradientCorrection", "apply", "([D[D[D)V"⟩ : MethodName)) hown (word hw 45 rfl) (word hw 46 rfl) (word hw 48 rfl) (word hw 47 rfl) (word hw 49 rfl) (word hw 4 rfl) (by decide) (rm_app3 l Z a0 hw a570 a524 a531 a557 a587 kk524 kk531 kk557 kk587_1 u57 u63 u69 u77 u86 u21 u26 u33 u40 u47 (4602678819172646912 : UInt64) (4602678819172646912 : UInt64) (4602678819172646912 : UInt64) (4602678819172646912 : UInt64) (4602678819172646912 : UInt64) T587.heap n0 z636 P587_1 P587_2 f613 f630 f633 P587_3 (Ne.symm ne607) (Ne.symm ne624) ne635 ne634 r564 (⟨(own_one (own_fin hu57) (own_fin hu21)).1, (own_one (own_fin hu63) (own_fin hu26)).1, (own_one (own_fin hu69) (own_fin hu33)).1, trivial⟩)) rfl P587_0  (argsL := [(.ref a524), (.ref a531), (.ref a557)]) (rest := []) (W := 0) (Jvm.hb hby at_185) rfl rfl (lenOf (pd2) rfl) (by rw [hml]; rfl) (Nat.le_of_eq rfl) (by decide) (by decide) (by decide) (by decide) (q := 188) rfl ?_
    intro T590 L590 w590 X590 hQ590
    obtain ⟨rfl, M590, K590, P590_0⟩ := hQ590
    have N590 := Fr.app N587 M590
    show Go p e below _ (T590.setTop (mkF m 188 #[.val (.int q1), .val (.int q2), .val (.int q3), .val (.int q4), .val (.int q5), .val (.int q6), .val (.int (3 : Int32)), .val (.int u12), .val (.ref a524), .val (.ref a531), .val (.ref a544), .val (.ref a557), .val (.ref a570)] []))
    refine Go.aload X590.here hx (Jvm.hb hby at_188) rfl rfl (q := 190) rfl ?_
    refine Go.aload X590.here hx (Jvm.hb hby at_190) rfl rfl (q := 192) rfl ?_
    refine Go.aload X590.here hx (Jvm.hb hby at_192) rfl rfl (q := 194) rfl ?_
    refine Go.iconst X590.here hx (Jvm.hb hby at_194) (v := (0 : Int32)) rfl (q := 195) rfl ?_
    refine Go.iload X590.here hx (Jvm.hb hby at_195) rfl (q := 197) rfl ?_
    have f638 := f630.keep K590 (ninS ne624 nin0)
    have f639 := R556.ext E557
    have ne641 : a544 ≠ a557 := Nat.ne_of_lt (Nat.lt_of_lt_of_le R556.lt (Nat.le_of_eq g557.symm))
    have f640 := f639.other W565 ne641
    have f642 := f640.other W566 ne641
    have f643 := f642.other W567 ne641
    have f644 := f643.other W568 ne641
    have f645 := f644.other W569 ne641
    have f646 := f645.ext E570
    have ne648 : a544 ≠ a570 := Nat.ne_of_lt (Nat.lt_of_lt_of_le f645.lt (Nat.le_of_eq g570.symm))
    have f647 := f646.keep K587 (ninS ne648 nin0)
    have f649 := f647.keep K590 (ninS ne641 nin0)
    have z650 : n0 ≤ T590.heap.size := Nat.le_trans z636 K590.1
    refine Go.static X590 hx hZ (y := (⟨"com/example/ratewright/ratewright/inference/GradientCorrectionApplyPinLaw", "slot", "([D[D[DII)Z"⟩ : MethodName)) hown (word hw 50 rfl) (word hw 51 rfl) (word hw 53 rfl) (word hw 52 rfl) (by decide) (rm_slot0a l Z a0 hw a557 a531 a544 kk557 kk531 kk544 (3 : Int32) (own_r u57 u21) (own_r u63 u26) (own_r u69 u33) (4602678819172646912 : UInt64) (4602678819172646912 : UInt64) u57 u63 u69 u77 u86 u96 u102 u108 u116 u125 T590.heap n0 z650 P590_0 f638 f649 (by decide) (fun o => (own_same hu57 hu96 o)) (fun o => (own_hit hu57 hu21 hu96 o))) rfl  (argsL := [(.ref a557), (.ref a531), (.ref a544), (.int (0 : Int32)), (.int (3 : Int32))]) (rest := []) (W := 0) (Jvm.hb hby at_197) rfl rfl (lenOf (pd3) rfl) (by rw [hml]; rfl) (Nat.le_of_eq rfl) (by decide) (by decide) (by decide) (by decide) (q := 200) rfl ?_
    intro T637 L637 w637 X637 hQ637
    obtain ⟨rfl, M637, q637⟩ := hQ637
    have N637 := Fr.app N590 M637
    show Go p e below _ (T637.setTop (mkF m 200 #[.val (.int q1), .val (.int q2), .val (.int q3), .val (.int q4), .val (.int q5), .val (.int q6), .val (.int (3 : Int32)), .val (.int u12), .val (.ref a524), .val (.ref a531), .val (.ref a544), .val (.ref a557), .val (.ref a570)] [(.int (1 : Int32))]))
    have hc200_652 : ¬ ((1 : Int32) = (0 : Int32)) := by decide
    refine Go.ifN X637.here hx (Jvm.hb hby at_200) ((if0 _ _).trans (feq hc200_652).1) (q := 203) rfl ?_
    refine Go.aload X637.here hx (Jvm.hb hby at_203) rfl rfl (q := 205) rfl ?_
    refine Go.aload X637.here hx (Jvm.hb hby at_205) rfl rfl (q := 207) rfl ?_
    refine Go.aload X637.here hx (Jvm.hb hby at_207) rfl rfl (q := 209) rfl ?_
    refine Go.iconst X637.here hx (Jvm.hb hby at_209) (v := (1 : Int32)) rfl (q := 210) rfl ?_
    refine Go.iload X637.here hx (Jvm.hb hby at_210) rfl (q := 212) rfl ?_
    refine Go.static X637 hx hZ (y := (⟨"com/example/ratewright/ratewright/inference/GradientCorrectionApplyPinLaw", "slot", "([D[D[DII)Z"⟩ : MethodName)) hown (word hw 50 rfl) (word hw 51 rfl) (word hw 53 rfl) (word hw 52 rfl) (by decide) (rm_slot1a l Z a0 hw a557 a531 a544 kk557 kk531 kk544 (3 : Int32) (own_r u57 u21) (own_r u63 u26) (own_r u69 u33) (4602678819172646912 : UInt64) (4602678819172646912 : UInt64) u57 u63 u69 u77 u86 u96 u102 u108 u116 u125 T590.heap n0 z650 P590_0 f638 f649 (by decide) (fun o => (own_same hu63 hu102 o)) (fun o => (own_hit hu63 hu26 hu102 o))) q637  (argsL := [(.ref a557), (.ref a531), (.ref a544), (.int (1 : Int32)), (.int (3 : Int32))]) (rest := []) (W := 0) (Jvm.hb hby at_212) rfl rfl (lenOf (pd3) rfl) (by rw [hml]; rfl) (Nat.le_of_eq rfl) (by decide) (by decide) (by decide) (by decide) (q := 215) rfl ?_
    intro T653 L653 w653 X653 hQ653
    obtain ⟨rfl, M653, q653⟩ := hQ653
    have N653 := Fr.app N637 M653
    show Go p e below _ (T653.setTop (mkF m 215 #[.val (.int q1), .val (.int q2), .val (.int q3), .val (.int q4), .val (.int q5), .val (.int q6), .val (.int (3 : Int32)), .val (.int u12), .val (.ref a524), .val (.ref a531), .val (.ref a544), .val (.ref a557), .val (.ref a570)] [(.int (1 : Int32))]))
    have hc215_655 : ¬ ((1 : Int32) = (0 : Int32)) := by decide
    refine Go.ifN X653.here hx (Jvm.hb hby at_215) ((if0 _ _).trans (feq hc215_655).1) (q := 218) rfl ?_
    refine Go.aload X653.here hx (Jvm.hb hby at_218) rfl rfl (q := 220) rfl ?_
    refine Go.aload X653.here hx (Jvm.hb hby at_220) rfl rfl (q := 222) rfl ?_
    refine Go.aload X653.here hx (Jvm.hb hby at_222) rfl rfl (q := 224) rfl ?_
    refine Go.iconst X653.here hx (Jvm.hb hby at_224) (v := (2 : Int32)) rfl (q := 225) rfl ?_
    refine Go.iload X653.here hx (Jvm.hb hby at_225) rfl (q := 227) rfl ?_
    refine Go.static X653 hx hZ (y := (⟨"com/example/ratewright/ratewright/inference/GradientCorrectionApplyPinLaw", "slot", "([D[D[DII)Z"⟩ : MethodName)) hown (word hw 50 rfl) (word hw 51 rfl) (word hw 53 rfl) (word hw 52 rfl) (by decide) (rm_slot2a l Z a0 hw a557 a531 a544 kk557 kk531 kk544 (3 : Int32) (own_r u57 u21) (own_r u63 u26) (own_r u69 u33) (4602678819172646912 : UInt64) (4602678819172646912 : UInt64) u57 u63 u69 u77 u86 u96 u102 u108 u116 u125 T590.heap n0 z650 P590_0 f638 f649 (by decide) (fun o => (own_same hu69 hu108 o)) (fun o => (own_hit hu69 hu33 hu108 o))) q653  (argsL := [(.ref a557), (.ref a531), (.ref a544), (.int (2 : Int32)), (.int (3 : Int32))]) (rest := []) (W := 0) (Jvm.hb hby at_227) rfl rfl (lenOf (pd3) rfl) (by rw [hml]; rfl) (Nat.le_of_eq rfl) (by decide) (by decide) (by decide) (by decide) (q := 230) rfl ?_
    intro T656 L656 w656 X656 hQ656
    obtain ⟨rfl, M656, q656⟩ := hQ656
    have N656 := Fr.app N653 M656
    show Go p e below _ (T656.setTop (mkF m 230 #[.val (.int q1), .val (.int q2), .val (.int q3), .val (.int q4), .val (.int q5), .val (.int q6), .val (.int (3 : Int32)), .val (.int u12), .val (.ref a524), .val (.ref a531), .val (.ref a544), .val (.ref a557), .val (.ref a570)] [(.int (1 : Int32))]))
    have hc230_658 : ¬ ((1 : Int32) = (0 : Int32)) := by decide
    refine Go.ifN X656.here hx (Jvm.hb hby at_230) ((if0 _ _).trans (feq hc230_658).1) (q := 233) rfl ?_
    refine Go.aload X656.here hx (Jvm.hb hby at_233) rfl rfl (q := 235) rfl ?_
    refine Go.aload X656.here hx (Jvm.hb hby at_235) rfl rfl (q := 237) rfl ?_
    refine Go.aload X656.here hx (Jvm.hb hby at_237) rfl rfl (q := 239) rfl ?_
    refine Go.iconst X656.here hx (Jvm.hb hby at_239) (v := (3 : Int32)) rfl (q := 240) rfl ?_
    refine Go.iload X656.here hx (Jvm.hb hby at_240) rfl (q := 242) rfl ?_
    refine Go.static X656 hx hZ (y := (⟨"com/example/ratewright/ratewright/inference/GradientCorrectionApplyPinLaw", "slot", "([D[D[DII)Z"⟩ : MethodName)) hown (word hw 50 rfl) (word hw 51 rfl) (word hw 53 rfl) (word hw 52 rfl) (by decide) (rm_slot3b l Z a0 hw a557 a531 a544 kk557 kk531 kk544 (3 : Int32) (own_r u57 u21) (own_r u63 u26) (own_r u69 u33) (4602678819172646912 : UInt64) (4602678819172646912 : UInt64) u57 u63 u69 u77 u86 u96 u102 u108 u116 u125 T590.heap n0 z650 P590_0 f638 f649 (by decide) (fun o => (by rw [← hu76] at hu77; rw [← hu115] at hu116; exact own_same hu77 hu116 o)) (fun o => own_half o)) q656  (argsL := [(.ref a557), (.ref a531), (.ref a544), (.int (3 : Int32)), (.int (3 : Int32))]) (rest := []) (W := 0) (Jvm.hb hby at_242) rfl rfl (lenOf (pd3) rfl) (by rw [hml]; rfl) (Nat.le_of_eq rfl) (by decide) (by decide) (by decide) (by decide) (q := 245) rfl ?_
    intro T659 L659 w659 X659 hQ659
    obtain ⟨rfl, M659, q659⟩ := hQ659
    have N659 := Fr.app N656 M659
    show Go p e below _ (T659.setTop (mkF m 245 #[.val (.int q1), .val (.int q2), .val (.int q3), .val (.int q4), .val (.int q5), .val (.int q6), .val (.int (3 : Int32)), .val (.int u12), .val (.ref a524), .val (.ref a531), .val (.ref a544), .val (.ref a557), .val (.ref a570)] [(.int (1 : Int32))]))
    have hc245_661 : ¬ ((1 : Int32) = (0 : Int32)) := by decide
    refine Go.ifN X659.here hx (Jvm.hb hby at_245) ((if0 _ _).trans (feq hc245_661).1) (q := 248) rfl ?_
    refine Go.aload X659.here hx (Jvm.hb hby at_248) rfl rfl (q := 250) rfl ?_
    refine Go.aload X659.here hx (Jvm.hb hby at_250) rfl rfl (q := 252) rfl ?_
    refine Go.aload X659.here hx (Jvm.hb hby at_252) rfl rfl (q := 254) rfl ?_
    refine Go.iconst X659.here hx (Jvm.hb hby at_254) (v := (4 : Int32)) rfl (q := 255) rfl ?_
    refine Go.iload X659.here hx (Jvm.hb hby at_255) rfl (q := 257) rfl ?_
    refine Go.static X659 hx hZ (y := (⟨"com/example/ratewright/ratewright/inference/GradientCorrectionApplyPinLaw", "slot", "([D[D[DII)Z"⟩ : MethodName)) hown (word hw 50 rfl) (word hw 51 rfl) (word hw 53 rfl) (word hw 52 rfl) (by decide) (rm_slot4b l Z a0 hw a557 a531 a544 kk557 kk531 kk544 (3 : Int32) (own_r u57 u21) (own_r u63 u26) (own_r u69 u33) (4602678819172646912 : UInt64) (4602678819172646912 : UInt64) u57 u63 u69 u77 u86 u96 u102 u108 u116 u125 T590.heap n0 z650 P590_0 f638 f649 (by decide) (fun o => (by rw [← hu85] at hu86; rw [← hu124] at hu125; exact own_same hu86 hu125 o)) (fun o => own_half o)) q659  (argsL := [(.ref a557), (.ref a531), (.ref a544), (.int (4 : Int32)), (.int (3 : Int32))]) (rest := []) (W := 0) (Jvm.hb hby at_257) rfl rfl (lenOf (pd3) rfl) (by rw [hml]; rfl) (Nat.le_of_eq rfl) (by decide) (by decide) (by decide) (by decide) (q := 260) rfl ?_
    intro T662 L662 w662 X662 hQ662
    obtain ⟨rfl, M662, q662⟩ := hQ662
    have N662 := Fr.app N659 M662
    show Go p e below _ (T662.setTop (mkF m 260 #[.val (.int q1), .val (.int q2), .val (.int q3), .val (.int q4), .val (.int q5), .val (.int q6), .val (.int (3 : Int32)), .val (.int u12), .val (.ref a524), .val (.ref a531), .val (.ref a544), .val (.ref a557), .val (.ref a570)] [(.int (1 : Int32))]))
    have hc260_664 : ¬ ((1 : Int32) = (0 : Int32)) := by decide
    refine Go.ifN X662.here hx (Jvm.hb hby at_260) ((if0 _ _).trans (feq hc260_664).1) (q := 263) rfl ?_
    refine Go.iconst X662.here hx (Jvm.hb hby at_263) (v := (1 : Int32)) rfl (q := 264) rfl ?_
    refine Go.goto X662.here hx (Jvm.hb hby at_264) (by decide) (q := 268) rfl ?_
    refine Go.retZ X662 hx hret hlk (Jvm.hb hby at_268) (Or.inr rfl) (by decide) (by decide) ?_
    exact ⟨rfl, N662⟩
  · -- u5 = 4
    refine Go.istore X0.here hx (Jvm.hb hby at_6) (l2 := #[.val (.int q1), .val (.int q2), .val (.int q3), .val (.int q4), .val (.int q5), .val (.int q6), .val (.int (4 : Int32)), .unset, .unset, .unset, .unset, .unset, .unset]) rfl (q := 8) rfl ?_
    refine Go.iloadN X0.here hx (Jvm.hb hby at_8) rfl (q := 9) rfl ?_
    refine Go.iconst X0.here hx (Jvm.hb hby at_9) (v := (3 : Int32)) rfl (q := 10) rfl ?_
    obtain ⟨u10, hu10⟩ : ∃ zq, (Int32.toUInt32 q1 >>> Int32.toUInt32 ((3 : Int32) &&& 31)).toInt32 = zq := ⟨_, rfl⟩
    refine Go.iushr X0.here hx (Jvm.hb hby at_10) hu10 (q := 11) rfl ?_
    refine Go.iconst X0.here hx (Jvm.hb hby at_11) (v := (3 : Int32)) rfl (q := 12) rfl ?_
    obtain ⟨u12, hu12⟩ : ∃ zq, u10 &&& (3 : Int32) = zq := ⟨_, rfl⟩
    refine Go.iand X0.here hx (Jvm.hb hby at_12) hu12 (q := 13) rfl ?_
    refine Go.istore X0.here hx (Jvm.hb hby at_13) (l2 := #[.val (.int q1), .val (.int q2), .val (.int q3), .val (.int q4), .val (.int q5), .val (.int q6), .val (.int (4 : Int32)), .val (.int u12), .unset, .unset, .unset, .unset, .unset]) rfl (q := 15) rfl ?_
    refine Go.iconst X0.here hx (Jvm.hb hby at_15) (v := (5 : Int32)) rfl (q := 16) rfl ?_
    refine Go.newarr X0 hx hZ (aty := .double) (word hw 0 rfl) e0 (Jvm.hb hby at_16) (by decide) (k := 5) (by decide) (by decide) (by decide) (by decide) (ad := "[D") (by decide) (q := 18) rfl ?_
    intro T665 h665 a665 kk665 g665 X665 e665 E665 R665 A665
    have r666 : n0 ≤ a665 := Nat.le_trans Z0 (Nat.le_of_eq g665.symm)
    have R665 : Row Z h665 a665 .double kk665 [(.double (0 : UInt64)), (.double (0 : UInt64)), (.double (0 : UInt64)), (.double (0 : UInt64)), (.double (0 : UInt64))] := R665
    refine Go.dup X665.here hx (Jvm.hb hby at_18) rfl (q := 19) rfl ?_
    refine Go.iconst X665.here hx (Jvm.hb hby at_19) (v := (0 : Int32)) rfl (q := 20) rfl ?_
    refine Go.iloadN X665.here hx (Jvm.hb hby at_20) rfl (q := 21) rfl ?_
    obtain ⟨u21, hu21⟩ : ∃ zq, FP.i2d q2 = zq := ⟨_, rfl⟩
    refine Go.i2d X665.here hx (Jvm.hb hby at_21) hu21 (q := 22) rfl ?_
    refine Go.dastore X665 hx hZ e665 R665 (Jvm.hb hby at_22) (i := 0) (by decide) (by decide) rfl (q := 23) rfl ?_
    intro T667 h667 X667 e667 W667 R667
    have N667 := Fr.snoc X667 N0 r666
    have R667 : Row Z h667 a665 .double kk665 [(.double u21), (.double (0 : UInt64)), (.double (0 : UInt64)), (.double (0 : UInt64)), (.double (0 : UInt64))] := R667
    refine Go.dup X667.here hx (Jvm.hb hby at_23) rfl (q := 24) rfl ?_
    refine Go.iconst X667.here hx (Jvm.hb hby at_24) (v := (1 : Int32)) rfl (q := 25) rfl ?_
    refine Go.iloadN X667.here hx (Jvm.hb hby at_25) rfl (q := 26) rfl ?_
    obtain ⟨u26, hu26⟩ : ∃ zq, FP.i2d q3 = zq := ⟨_, rfl⟩
    refine Go.i2d X667.here hx (Jvm.hb hby at_26) hu26 (q := 27) rfl ?_
    refine Go.dastore X667 hx hZ e667 R667 (Jvm.hb hby at_27) (i := 1) (by decide) (by decide) rfl (q := 28) rfl ?_
    intro T668 h668 X668 e668 W668 R668
    have N668 := Fr.snoc X668 N667 r666
    have R668 : Row Z h668 a665 .double kk665 [(.double u21), (.double u26), (.double (0 : UInt64)), (.double (0 : UInt64)), (.double (0 : UInt64))] := R668
    refine Go.dup X668.here hx (Jvm.hb hby at_28) rfl (q := 29) rfl ?_
    refine Go.iconst X668.here hx (Jvm.hb hby at_29) (v := (2 : Int32)) rfl (q := 30) rfl ?_
    refine Go.iloadN X668.here hx (Jvm.hb hby at_30) rfl (q := 31) rfl ?_
    refine Go.iloadN X668.here hx (Jvm.hb hby at_31) rfl (q := 32) rfl ?_
    obtain ⟨u32, hu32⟩ : ∃ zq, q2 ^^^ q3 = zq := ⟨_, rfl⟩
    refine Go.ixor X668.here hx (Jvm.hb hby at_32) hu32 (q := 33) rfl ?_
    obtain ⟨u33, hu33⟩ : ∃ zq, FP.i2d u32 = zq := ⟨_, rfl⟩
    refine Go.i2d X668.here hx (Jvm.hb hby at_33) hu33 (q := 34) rfl ?_
    refine Go.dastore X668 hx hZ e668 R668 (Jvm.hb hby at_34) (i := 2) (by decide) (by decide) rfl (q := 35) rfl ?_
    intro T669 h669 X669 e669 W669 R669
    have N669 := Fr.snoc X669 N668 r666
    have R669 : Row Z h669 a665 .double kk665 [(.double u21), (.double u26), (.double u33), (.double (0 : UInt64)), (.double (0 : UInt64))] := R669
    refine Go.dup X669.here hx (Jvm.hb hby at_35) rfl (q := 36) rfl ?_
    refine Go.iconst X669.here hx (Jvm.hb hby at_36) (v := (3 : Int32)) rfl (q := 37) rfl ?_
    refine Go.iloadN X669.here hx (Jvm.hb hby at_37) rfl (q := 38) rfl ?_
    refine Go.iloadN X669.here hx (Jvm.hb hby at_38) rfl (q := 39) rfl ?_
    obtain ⟨u39, hu39⟩ : ∃ zq, q2 - q3 = zq := ⟨_, rfl⟩
    refine Go.isub X669.here hx (Jvm.hb hby at_39) hu39 (q := 40) rfl ?_
    obtain ⟨u40, hu40⟩ : ∃ zq, FP.i2d u39 = zq := ⟨_, rfl⟩
    refine Go.i2d X669.here hx (Jvm.hb hby at_40) hu40 (q := 41) rfl ?_
    refine Go.dastore X669 hx hZ e669 R669 (Jvm.hb hby at_41) (i := 3) (by decide) (by decide) rfl (q := 42) rfl ?_
    intro T670 h670 X670 e670 W670 R670
    have N670 := Fr.snoc X670 N669 r666
    have R670 : Row Z h670 a665 .double kk665 [(.double u21), (.double u26), (.double u33), (.double u40), (.double (0 : UInt64))] := R670
    refine Go.dup X670.here hx (Jvm.hb hby at_42) rfl (q := 43) rfl ?_
    refine Go.iconst X670.here hx (Jvm.hb hby at_43) (v := (4 : Int32)) rfl (q := 44) rfl ?_
    refine Go.iloadN X670.here hx (Jvm.hb hby at_44) rfl (q := 45) rfl ?_
    refine Go.iconst X670.here hx (Jvm.hb hby at_45) (v := (3 : Int32)) rfl (q := 46) rfl ?_
    obtain ⟨u46, hu46⟩ : ∃ zq, q3 + (3 : Int32) = zq := ⟨_, rfl⟩
    refine Go.iadd X670.here hx (Jvm.hb hby at_46) hu46 (q := 47) rfl ?_
    obtain ⟨u47, hu47⟩ : ∃ zq, FP.i2d u46 = zq := ⟨_, rfl⟩
    refine Go.i2d X670.here hx (Jvm.hb hby at_47) hu47 (q := 48) rfl ?_
    refine Go.dastore X670 hx hZ e670 R670 (Jvm.hb hby at_48) (i := 4) (by decide) (by decide) rfl (q := 49) rfl ?_
    intro T671 h671 X671 e671 W671 R671
    have N671 := Fr.snoc X671 N670 r666
    have R671 : Row Z h671 a665 .double kk665 [(.double u21), (.double u26), (.double u33), (.double u40), (.double u47)] := R671
    refine Go.astore X671.here hx (Jvm.hb hby at_49) rfl (l2 := #[.val (.int q1), .val (.int q2), .val (.int q3), .val (.int q4), .val (.int q5), .val (.int q6), .val (.int (4 : Int32)), .val (.int u12), .val (.ref a665), .unset, .unset, .unset, .unset]) rfl (q := 51) rfl ?_
    refine Go.iconst X671.here hx (Jvm.hb hby at_51) (v := (5 : Int32)) rfl (q := 52) rfl ?_
    refine Go.newarr X671 hx hZ (aty := .double) (word hw 0 rfl) e671 (Jvm.hb hby at_52) (by decide) (k := 5) (by decide) (by decide) (by decide) (by decide) (ad := "[D") (by decide) (q := 54) rfl ?_
    intro T672 h672 a672 kk672 g672 X672 e672 E672 R672 A672
    have z673 : n0 ≤ h665.size := Nat.le_trans Z0 E665.1
    have z674 : n0 ≤ h667.size := Nat.le_trans z673 (Nat.le_of_eq W667.size.symm)
    have z675 : n0 ≤ h668.size := Nat.le_trans z674 (Nat.le_of_eq W668.size.symm)
    have z676 : n0 ≤ h669.size := Nat.le_trans z675 (Nat.le_of_eq W669.size.symm)
    have z677 : n0 ≤ h670.size := Nat.le_trans z676 (Nat.le_of_eq W670.size.symm)
    have z678 : n0 ≤ h671.size := Nat.le_trans z677 (Nat.le_of_eq W671.size.symm)
    have r679 : n0 ≤ a672 := Nat.le_trans z678 (Nat.le_of_eq g672.symm)
    have R672 : Row Z h672 a672 .double kk672 [(.double (0 : UInt64)), (.double (0 : UInt64)), (.double (0 : UInt64)), (.double (0 : UInt64)), (.double (0 : UInt64))] := R672
    refine Go.dup X672.here hx (Jvm.hb hby at_54) rfl (q := 55) rfl ?_
    refine Go.iconst X672.here hx (Jvm.hb hby at_55) (v := (0 : Int32)) rfl (q := 56) rfl ?_
    refine Go.iloadN X672.here hx (Jvm.hb hby at_56) rfl (q := 57) rfl ?_
    obtain ⟨u57, hu57⟩ : ∃ zq, FP.i2d q4 = zq := ⟨_, rfl⟩
    refine Go.i2d X672.here hx (Jvm.hb hby at_57) hu57 (q := 58) rfl ?_
    refine Go.dastore X672 hx hZ e672 R672 (Jvm.hb hby at_58) (i := 0) (by decide) (by decide) rfl (q := 59) rfl ?_
    intro T680 h680 X680 e680 W680 R680
    have N680 := Fr.snoc X680 N671 r679
    have R680 : Row Z h680 a672 .double kk672 [(.double u57), (.double (0 : UInt64)), (.double (0 : UInt64)), (.double (0 : UInt64)), (.double (0 : UInt64))] := R680
    refine Go.dup X680.here hx (Jvm.hb hby at_59) rfl (q := 60) rfl ?_
    refine Go.iconst X680.here hx (Jvm.hb hby at_60) (v := (1 : Int32)) rfl (q := 61) rfl ?_
    refine Go.iload X680.here hx (Jvm.hb hby at_61) rfl (q := 63) rfl ?_
    obtain ⟨u63, hu63⟩ : ∃ zq, FP.i2d q5 = zq := ⟨_, rfl⟩
    refine Go.i2d X680.here hx (Jvm.hb hby at_63) hu63 (q := 64) rfl ?_
    refine Go.dastore X680 hx hZ e680 R680 (Jvm.hb hby at_64) (i := 1) (by decide) (by decide) rfl (q := 65) rfl ?_
    intro T681 h681 X681 e681 W681 R681
    have N681 := Fr.snoc X681 N680 r679
    have R681 : Row Z h681 a672 .double kk672 [(.double u57), (.double u63), (.double (0 : UInt64)), (.double (0 : UInt64)), (.double (0 : UInt64))] := R681
    refine Go.dup X681.here hx (Jvm.hb hby at_65) rfl (q := 66) rfl ?_
    refine Go.iconst X681.here hx (Jvm.hb hby at_66) (v := (2 : Int32)) rfl (q := 67) rfl ?_
    refine Go.iload X681.here hx (Jvm.hb hby at_67) rfl (q := 69) rfl ?_
    obtain ⟨u69, hu69⟩ : ∃ zq, FP.i2d q6 = zq := ⟨_, rfl⟩
    refine Go.i2d X681.here hx (Jvm.hb hby at_69) hu69 (q := 70) rfl ?_
    refine Go.dastore X681 hx hZ e681 R681 (Jvm.hb hby at_70) (i := 2) (by decide) (by decide) rfl (q := 71) rfl ?_
    intro T682 h682 X682 e682 W682 R682
    have N682 := Fr.snoc X682 N681 r679
    have R682 : Row Z h682 a672 .double kk672 [(.double u57), (.double u63), (.double u69), (.double (0 : UInt64)), (.double (0 : UInt64))] := R682
    refine Go.dup X682.here hx (Jvm.hb hby at_71) rfl (q := 72) rfl ?_
    refine Go.iconst X682.here hx (Jvm.hb hby at_72) (v := (3 : Int32)) rfl (q := 73) rfl ?_
    refine Go.iloadN X682.here hx (Jvm.hb hby at_73) rfl (q := 74) rfl ?_
    refine Go.iload X682.here hx (Jvm.hb hby at_74) rfl (q := 76) rfl ?_
    obtain ⟨u76, hu76⟩ : ∃ zq, q4 ^^^ q5 = zq := ⟨_, rfl⟩
    refine Go.ixor X682.here hx (Jvm.hb hby at_76) hu76 (q := 77) rfl ?_
    obtain ⟨u77, hu77⟩ : ∃ zq, FP.i2d u76 = zq := ⟨_, rfl⟩
    refine Go.i2d X682.here hx (Jvm.hb hby at_77) hu77 (q := 78) rfl ?_
    refine Go.dastore X682 hx hZ e682 R682 (Jvm.hb hby at_78) (i := 3) (by decide) (by decide) rfl (q := 79) rfl ?_
    intro T683 h683 X683 e683 W683 R683
    have N683 := Fr.snoc X683 N682 r679
    have R683 : Row Z h683 a672 .double kk672 [(.double u57), (.double u63), (.double u69), (.double u77), (.double (0 : UInt64))] := R683
    refine Go.dup X683.here hx (Jvm.hb hby at_79) rfl (q := 80) rfl ?_
    refine Go.iconst X683.here hx (Jvm.hb hby at_80) (v := (4 : Int32)) rfl (q := 81) rfl ?_
    refine Go.iload X683.here hx (Jvm.hb hby at_81) rfl (q := 83) rfl ?_
    refine Go.iload X683.here hx (Jvm.hb hby at_83) rfl (q := 85) rfl ?_
    obtain ⟨u85, hu85⟩ : ∃ zq, q6 - q5 = zq := ⟨_, rfl⟩
    refine Go.isub X683.here hx (Jvm.hb hby at_85) hu85 (q := 86) rfl ?_
    obtain ⟨u86, hu86⟩ : ∃ zq, FP.i2d u85 = zq := ⟨_, rfl⟩
    refine Go.i2d X683.here hx (Jvm.hb hby at_86) hu86 (q := 87) rfl ?_
    refine Go.dastore X683 hx hZ e683 R683 (Jvm.hb hby at_87) (i := 4) (by decide) (by decide) rfl (q := 88) rfl ?_
    intro T684 h684 X684 e684 W684 R684
    have N684 := Fr.snoc X684 N683 r679
    have R684 : Row Z h684 a672 .double kk672 [(.double u57), (.double u63), (.double u69), (.double u77), (.double u86)] := R684
    refine Go.astore X684.here hx (Jvm.hb hby at_88) rfl (l2 := #[.val (.int q1), .val (.int q2), .val (.int q3), .val (.int q4), .val (.int q5), .val (.int q6), .val (.int (4 : Int32)), .val (.int u12), .val (.ref a665), .val (.ref a672), .unset, .unset, .unset]) rfl (q := 90) rfl ?_
    refine Go.iconst X684.here hx (Jvm.hb hby at_90) (v := (5 : Int32)) rfl (q := 91) rfl ?_
    refine Go.newarr X684 hx hZ (aty := .double) (word hw 0 rfl) e684 (Jvm.hb hby at_91) (by decide) (k := 5) (by decide) (by decide) (by decide) (by decide) (ad := "[D") (by decide) (q := 93) rfl ?_
    intro T685 h685 a685 kk685 g685 X685 e685 E685 R685 A685
    have z686 : n0 ≤ h672.size := Nat.le_trans z678 E672.1
    have z687 : n0 ≤ h680.size := Nat.le_trans z686 (Nat.le_of_eq W680.size.symm)
    have z688 : n0 ≤ h681.size := Nat.le_trans z687 (Nat.le_of_eq W681.size.symm)
    have z689 : n0 ≤ h682.size := Nat.le_trans z688 (Nat.le_of_eq W682.size.symm)
    have z690 : n0 ≤ h683.size := Nat.le_trans z689 (Nat.le_of_eq W683.size.symm)
    have z691 : n0 ≤ h684.size := Nat.le_trans z690 (Nat.le_of_eq W684.size.symm)
    have r692 : n0 ≤ a685 := Nat.le_trans z691 (Nat.le_of_eq g685.symm)
    have R685 : Row Z h685 a685 .double kk685 [(.double (0 : UInt64)), (.double (0 : UInt64)), (.double (0 : UInt64)), (.double (0 : UInt64)), (.double (0 : UInt64))] := R685
    refine Go.dup X685.here hx (Jvm.hb hby at_93) rfl (q := 94) rfl ?_
    refine Go.iconst X685.here hx (Jvm.hb hby at_94) (v := (0 : Int32)) rfl (q := 95) rfl ?_
    refine Go.iloadN X685.here hx (Jvm.hb hby at_95) rfl (q := 96) rfl ?_
    obtain ⟨u96, hu96⟩ : ∃ zq, FP.i2d q4 = zq := ⟨_, rfl⟩
    refine Go.i2d X685.here hx (Jvm.hb hby at_96) hu96 (q := 97) rfl ?_
    refine Go.dastore X685 hx hZ e685 R685 (Jvm.hb hby at_97) (i := 0) (by decide) (by decide) rfl (q := 98) rfl ?_
    intro T693 h693 X693 e693 W693 R693
    have N693 := Fr.snoc X693 N684 r692
    have R693 : Row Z h693 a685 .double kk685 [(.double u96), (.double (0 : UInt64)), (.double (0 : UInt64)), (.double (0 : UInt64)), (.double (0 : UInt64))] := R693
    refine Go.dup X693.here hx (Jvm.hb hby at_98) rfl (q := 99) rfl ?_
    refine Go.iconst X693.here hx (Jvm.hb hby at_99) (v := (1 : Int32)) rfl (q := 100) rfl ?_
    refine Go.iload X693.here hx (Jvm.hb hby at_100) rfl (q := 102) rfl ?_
    obtain ⟨u102, hu102⟩ : ∃ zq, FP.i2d q5 = zq := ⟨_, rfl⟩
    refine Go.i2d X693.here hx (Jvm.hb hby at_102) hu102 (q := 103) rfl ?_
    refine Go.dastore X693 hx hZ e693 R693 (Jvm.hb hby at_103) (i := 1) (by decide) (by decide) rfl (q := 104) rfl ?_
    intro T694 h694 X694 e694 W694 R694
    have N694 := Fr.snoc X694 N693 r692
    have R694 : Row Z h694 a685 .double kk685 [(.double u96), (.double u102), (.double (0 : UInt64)), (.double (0 : UInt64)), (.double (0 : UInt64))] := R694
    refine Go.dup X694.here hx (Jvm.hb hby at_104) rfl (q := 105) rfl ?_
    refine Go.iconst X694.here hx (Jvm.hb hby at_105) (v := (2 : Int32)) rfl (q := 106) rfl ?_
    refine Go.iload X694.here hx (Jvm.hb hby at_106) rfl (q := 108) rfl ?_
    obtain ⟨u108, hu108⟩ : ∃ zq, FP.i2d q6 = zq := ⟨_, rfl⟩
    refine Go.i2d X694.here hx (Jvm.hb hby at_108) hu108 (q := 109) rfl ?_
    refine Go.dastore X694 hx hZ e694 R694 (Jvm.hb hby at_109) (i := 2) (by decide) (by decide) rfl (q := 110) rfl ?_
    intro T695 h695 X695 e695 W695 R695
    have N695 := Fr.snoc X695 N694 r692
    have R695 : Row Z h695 a685 .double kk685 [(.double u96), (.double u102), (.double u108), (.double (0 : UInt64)), (.double (0 : UInt64))] := R695
    refine Go.dup X695.here hx (Jvm.hb hby at_110) rfl (q := 111) rfl ?_
    refine Go.iconst X695.here hx (Jvm.hb hby at_111) (v := (3 : Int32)) rfl (q := 112) rfl ?_
    refine Go.iloadN X695.here hx (Jvm.hb hby at_112) rfl (q := 113) rfl ?_
    refine Go.iload X695.here hx (Jvm.hb hby at_113) rfl (q := 115) rfl ?_
    obtain ⟨u115, hu115⟩ : ∃ zq, q4 ^^^ q5 = zq := ⟨_, rfl⟩
    refine Go.ixor X695.here hx (Jvm.hb hby at_115) hu115 (q := 116) rfl ?_
    obtain ⟨u116, hu116⟩ : ∃ zq, FP.i2d u115 = zq := ⟨_, rfl⟩
    refine Go.i2d X695.here hx (Jvm.hb hby at_116) hu116 (q := 117) rfl ?_
    refine Go.dastore X695 hx hZ e695 R695 (Jvm.hb hby at_117) (i := 3) (by decide) (by decide) rfl (q := 118) rfl ?_
    intro T696 h696 X696 e696 W696 R696
    have N696 := Fr.snoc X696 N695 r692
    have R696 : Row Z h696 a685 .double kk685 [(.double u96), (.double u102), (.double u108), (.double u116), (.double (0 : UInt64))] := R696
    refine Go.dup X696.here hx (Jvm.hb hby at_118) rfl (q := 119) rfl ?_
    refine Go.iconst X696.here hx (Jvm.hb hby at_119) (v := (4 : Int32)) rfl (q := 120) rfl ?_
    refine Go.iload X696.here hx (Jvm.hb hby at_120) rfl (q := 122) rfl ?_
    refine Go.iload X696.here hx (Jvm.hb hby at_122) rfl (q := 124) rfl ?_
    obtain ⟨u124, hu124⟩ : ∃ zq, q6 - q5 = zq := ⟨_, rfl⟩
    refine Go.isub X696.here hx (Jvm.hb hby at_124) hu124 (q := 125) rfl ?_
    obtain ⟨u125, hu125⟩ : ∃ zq, FP.i2d u124 = zq := ⟨_, rfl⟩
    refine Go.i2d X696.here hx (Jvm.hb hby at_125) hu125 (q := 126) rfl ?_
    refine Go.dastore X696 hx hZ e696 R696 (Jvm.hb hby at_126) (i := 4) (by decide) (by decide) rfl (q := 127) rfl ?_
    intro T697 h697 X697 e697 W697 R697
    have N697 := Fr.snoc X697 N696 r692
    have R697 : Row Z h697 a685 .double kk685 [(.double u96), (.double u102), (.double u108), (.double u116), (.double u125)] := R697
    refine Go.astore X697.here hx (Jvm.hb hby at_127) rfl (l2 := #[.val (.int q1), .val (.int q2), .val (.int q3), .val (.int q4), .val (.int q5), .val (.int q6), .val (.int (4 : Int32)), .val (.int u12), .val (.ref a665), .val (.ref a672), .val (.ref a685), .unset, .unset]) rfl (q := 129) rfl ?_
    refine Go.iconst X697.here hx (Jvm.hb hby at_129) (v := (5 : Int32)) rfl (q := 130) rfl ?_
    refine Go.newarr X697 hx hZ (aty := .double) (word hw 0 rfl) e697 (Jvm.hb hby at_130) (by decide) (k := 5) (by decide) (by decide) (by decide) (by decide) (ad := "[D") (by decide) (q := 132) rfl ?_
    intro T698 h698 a698 kk698 g698 X698 e698 E698 R698 A698
    have z699 : n0 ≤ h685.size := Nat.le_trans z691 E685.1
    have z700 : n0 ≤ h693.size := Nat.le_trans z699 (Nat.le_of_eq W693.size.symm)
    have z701 : n0 ≤ h694.size := Nat.le_trans z700 (Nat.le_of_eq W694.size.symm)
    have z702 : n0 ≤ h695.size := Nat.le_trans z701 (Nat.le_of_eq W695.size.symm)
    have z703 : n0 ≤ h696.size := Nat.le_trans z702 (Nat.le_of_eq W696.size.symm)
    have z704 : n0 ≤ h697.size := Nat.le_trans z703 (Nat.le_of_eq W697.size.symm)
    have r705 : n0 ≤ a698 := Nat.le_trans z704 (Nat.le_of_eq g698.symm)
    have R698 : Row Z h698 a698 .double kk698 [(.double (0 : UInt64)), (.double (0 : UInt64)), (.double (0 : UInt64)), (.double (0 : UInt64)), (.double (0 : UInt64))] := R698
    refine Go.dup X698.here hx (Jvm.hb hby at_132) rfl (q := 133) rfl ?_
    refine Go.iconst X698.here hx (Jvm.hb hby at_133) (v := (0 : Int32)) rfl (q := 134) rfl ?_
    refine Go.ldc2D X698 hx hown (mvT hZ (word hw 1 rfl)) (Jvm.hb hby at_134) (q := 137) rfl ?_
    refine Go.dastore X698 hx hZ e698 R698 (Jvm.hb hby at_137) (i := 0) (by decide) (by decide) rfl (q := 138) rfl ?_
    intro T706 h706 X706 e706 W706 R706
    have N706 := Fr.snoc X706 N697 r705
    have R706 : Row Z h706 a698 .double kk698 [(.double (4602678819172646912 : UInt64)), (.double (0 : UInt64)), (.double (0 : UInt64)), (.double (0 : UInt64)), (.double (0 : UInt64))] := R706
    refine Go.dup X706.here hx (Jvm.hb hby at_138) rfl (q := 139) rfl ?_
    refine Go.iconst X706.here hx (Jvm.hb hby at_139) (v := (1 : Int32)) rfl (q := 140) rfl ?_
    refine Go.ldc2D X706 hx hown (mvT hZ (word hw 1 rfl)) (Jvm.hb hby at_140) (q := 143) rfl ?_
    refine Go.dastore X706 hx hZ e706 R706 (Jvm.hb hby at_143) (i := 1) (by decide) (by decide) rfl (q := 144) rfl ?_
    intro T707 h707 X707 e707 W707 R707
    have N707 := Fr.snoc X707 N706 r705
    have R707 : Row Z h707 a698 .double kk698 [(.double (4602678819172646912 : UInt64)), (.double (4602678819172646912 : UInt64)), (.double (0 : UInt64)), (.double (0 : UInt64)), (.double (0 : UInt64))] := R707
    refine Go.dup X707.here hx (Jvm.hb hby at_144) rfl (q := 145) rfl ?_
    refine Go.iconst X707.here hx (Jvm.hb hby at_145) (v := (2 : Int32)) rfl (q := 146) rfl ?_
    refine Go.ldc2D X707 hx hown (mvT hZ (word hw 1 rfl)) (Jvm.hb hby at_146) (q := 149) rfl ?_
    refine Go.dastore X707 hx hZ e707 R707 (Jvm.hb hby at_149) (i := 2) (by decide) (by decide) rfl (q := 150) rfl ?_
    intro T708 h708 X708 e708 W708 R708
    have N708 := Fr.snoc X708 N707 r705
    have R708 : Row Z h708 a698 .double kk698 [(.double (4602678819172646912 : UInt64)), (.double (4602678819172646912 : UInt64)), (.double (4602678819172646912 : UInt64)), (.double (0 : UInt64)), (.double (0 : UInt64))] := R708
    refine Go.dup X708.here hx (Jvm.hb hby at_150) rfl (q := 151) rfl ?_
    refine Go.iconst X708.here hx (Jvm.hb hby at_151) (v := (3 : Int32)) rfl (q := 152) rfl ?_
    refine Go.ldc2D X708 hx hown (mvT hZ (word hw 1 rfl)) (Jvm.hb hby at_152) (q := 155) rfl ?_
    refine Go.dastore X708 hx hZ e708 R708 (Jvm.hb hby at_155) (i := 3) (by decide) (by decide) rfl (q := 156) rfl ?_
    intro T709 h709 X709 e709 W709 R709
    have N709 := Fr.snoc X709 N708 r705
    have R709 : Row Z h709 a698 .double kk698 [(.double (4602678819172646912 : UInt64)), (.double (4602678819172646912 : UInt64)), (.double (4602678819172646912 : UInt64)), (.double (4602678819172646912 : UInt64)), (.double (0 : UInt64))] := R709
    refine Go.dup X709.here hx (Jvm.hb hby at_156) rfl (q := 157) rfl ?_
    refine Go.iconst X709.here hx (Jvm.hb hby at_157) (v := (4 : Int32)) rfl (q := 158) rfl ?_
    refine Go.ldc2D X709 hx hown (mvT hZ (word hw 1 rfl)) (Jvm.hb hby at_158) (q := 161) rfl ?_
    refine Go.dastore X709 hx hZ e709 R709 (Jvm.hb hby at_161) (i := 4) (by decide) (by decide) rfl (q := 162) rfl ?_
    intro T710 h710 X710 e710 W710 R710
    have N710 := Fr.snoc X710 N709 r705
    have R710 : Row Z h710 a698 .double kk698 [(.double (4602678819172646912 : UInt64)), (.double (4602678819172646912 : UInt64)), (.double (4602678819172646912 : UInt64)), (.double (4602678819172646912 : UInt64)), (.double (4602678819172646912 : UInt64))] := R710
    refine Go.astore X710.here hx (Jvm.hb hby at_162) rfl (l2 := #[.val (.int q1), .val (.int q2), .val (.int q3), .val (.int q4), .val (.int q5), .val (.int q6), .val (.int (4 : Int32)), .val (.int u12), .val (.ref a665), .val (.ref a672), .val (.ref a685), .val (.ref a698), .unset]) rfl (q := 164) rfl ?_
    refine Go.new X710 hx hZ hown (word hw 2 rfl) (word hw 3 rfl) (word hw 4 rfl) e710 (Jvm.hb hby at_164) (by decide) (by decide) (q := 167) rfl ?_
    intro T711 h711 a711 g711 X711 e711 E711 A711 D711
    have z712 : n0 ≤ h698.size := Nat.le_trans z704 E698.1
    have z713 : n0 ≤ h706.size := Nat.le_trans z712 (Nat.le_of_eq W706.size.symm)
    have z714 : n0 ≤ h707.size := Nat.le_trans z713 (Nat.le_of_eq W707.size.symm)
    have z715 : n0 ≤ h708.size := Nat.le_trans z714 (Nat.le_of_eq W708.size.symm)
    have z716 : n0 ≤ h709.size := Nat.le_trans z715 (Nat.le_of_eq W709.size.symm)
    have z717 : n0 ≤ h710.size := Nat.le_trans z716 (Nat.le_of_eq W710.size.symm)
    have r718 : n0 ≤ a711 := Nat.le_trans z717 (Nat.le_of_eq g711.symm)
    have F719 : Fld Z h711 a711 "com/example/ratewright/ratewright/inference/GradientCorrection" "dimension" "I" (.int (0 : Int32)) := D711 (Or.inr (word hw 12 rfl)) (ty := .int) (by decide)
    have F720 : Fld Z h711 a711 "com/example/ratewright/ratewright/inference/GradientCorrection" "unknowns" "I" (.int (0 : Int32)) := D711 (Or.inr (word hw 14 rfl)) (ty := .int) (by decide)
    have F721 : Fld Z h711 a711 "com/example/ratewright/ratewright/inference/GradientCorrection" "coefficients" "[D" .null := D711 (Or.inl (word hw 16 rfl)) (ty := (.array .double)) (by decide)
    have F722 : Fld Z h711 a711 "com/example/ratewright/ratewright/inference/GradientCorrection" "fitted" "Lcom/example/ratewright/ratewright/inference/GradientCorrection$NormalEquations;" .null := D711 (Or.inr (word hw 31 rfl)) (ty := (.object "com/example/ratewright/ratewright/inference/GradientCorrection$NormalEquations")) (by decide)
    have F723 : Fld Z h711 a711 "com/example/ratewright/ratewright/inference/GradientCorrection" "heldOut" "Lcom/example/ratewright/ratewright/inference/GradientCorrection$NormalEquations;" .null := D711 (Or.inr (word hw 33 rfl)) (ty := (.object "com/example/ratewright/ratewright/inference/GradientCorrection$NormalEquations")) (by decide)
    have F724 : Fld Z h711 a711 "com/example/ratewright/ratewright/inference/GradientCorrection" "heldOutTerms" "[[D" .null := D711 (Or.inr (word hw 37 rfl)) (ty := (.array (.array .double))) (by decide)
    have F725 : Fld Z h711 a711 "com/example/ratewright/ratewright/inference/GradientCorrection" "heldOutMisses" "[D" .null := D711 (Or.inr (word hw 39 rfl)) (ty := (.array .double)) (by decide)
    have F726 : Fld Z h711 a711 "com/example/ratewright/ratewright/inference/GradientCorrection" "pendingTerms" "[[D" .null := D711 (Or.inr (word hw 42 rfl)) (ty := (.array (.array .double))) (by decide)
    have F727 : Fld Z h711 a711 "com/example/ratewright/ratewright/inference/GradientCorrection" "pendingMisses" "[D" .null := D711 (Or.inr (word hw 44 rfl)) (ty := (.array .double)) (by decide)
    refine Go.dup X711.here hx (Jvm.hb hby at_167) rfl (q := 168) rfl ?_
    refine Go.iload X711.here hx (Jvm.hb hby at_168) rfl (q := 170) rfl ?_
    refine Go.iload X711.here hx (Jvm.hb hby at_170) rfl (q := 172) rfl ?_
    have z729 : n0 ≤ h711.size := Nat.le_trans z717 E711.1
    refine Go.special X711 hx hZ (y := (⟨"com/example/ratewright/ratewright/inference/GradientCorrection", "<init>", "(II)V"⟩ : MethodName)) rfl hown (word hw 5 rfl) (word hw 6 rfl) (word hw 7 rfl) (word hw 4 rfl) (by decide) (rm_init4 l Z a0 hw a711 u12 (.int (0 : Int32)) (.int (0 : Int32)) .null .null .null .null .null .null .null h711 n0 z729 A711 F719 F720 F721 F722 F723 F724 F725 F726 F727 r718 (own_four hu12)) e711 (a := a711) (argsL := [(.int (4 : Int32)), (.int u12)]) (rest := [(.ref a711)]) (W := 1) (Jvm.hb hby at_172) rfl rfl (lenOf (pd1) rfl) (by rw [hml]; rfl) (Nat.le_of_eq rfl) (by decide) (by decide) (by decide) (by decide) (q := 175) rfl ?_
    intro T728 L728 w728 X728 hQ728
    obtain ⟨a728, kk728_1, rfl, M728, K728, G728_0, P728_0, P728_1, P728_2, P728_3⟩ := hQ728
    have N728 := Fr.app N710 M728
    have r730 : n0 ≤ a728 := Nat.le_trans z729 (G728_0)
    show Go p e below _ (T728.setTop (mkF m 175 #[.val (.int q1), .val (.int q2), .val (.int q3), .val (.int q4), .val (.int q5), .val (.int q6), .val (.int (4 : Int32)), .val (.int u12), .val (.ref a665), .val (.ref a672), .val (.ref a685), .val (.ref a698), .unset] [(.ref a711)]))
    refine Go.astore X728.here hx (Jvm.hb hby at_175) rfl (l2 := #[.val (.int q1), .val (.int q2), .val (.int q3), .val (.int q4), .val (.int q5), .val (.int q6), .val (.int (4 : Int32)), .val (.int u12), .val (.ref a665), .val (.ref a672), .val (.ref a685), .val (.ref a698), .val (.ref a711)]) rfl (q := 177) rfl ?_
    refine Go.aload X728.here hx (Jvm.hb hby at_177) rfl rfl (q := 179) rfl ?_
    refine Go.aload X728.here hx (Jvm.hb hby at_179) rfl rfl (q := 181) rfl ?_
    refine Go.aload X728.here hx (Jvm.hb hby at_181) rfl rfl (q := 183) rfl ?_
    refine Go.aload X728.here hx (Jvm.hb hby at_183) rfl rfl (q := 185) rfl ?_
    have f732 := R671.ext E672
    have ne734 : a665 ≠ a672 := Nat.ne_of_lt (Nat.lt_of_lt_of_le R671.lt (Nat.le_of_eq g672.symm))
    have f733 := f732.other W680 ne734
    have f735 := f733.other W681 ne734
    have f736 := f735.other W682 ne734
    have f737 := f736.other W683 ne734
    have f738 := f737.other W684 ne734
    have f739 := f738.ext E685
    have ne741 : a665 ≠ a685 := Nat.ne_of_lt (Nat.lt_of_lt_of_le f738.lt (Nat.le_of_eq g685.symm))
    have f740 := f739.other W693 ne741
    have f742 := f740.other W694 ne741
    have f743 := f742.other W695 ne741
    have f744 := f743.other W696 ne741
    have f745 := f744.other W697 ne741
    have f746 := f745.ext E698
    have ne748 : a665 ≠ a698 := Nat.ne_of_lt (Nat.lt_of_lt_of_le f745.lt (Nat.le_of_eq g698.symm))
    have f747 := f746.other W706 ne748
    have f749 := f747.other W707 ne748
    have f750 := f749.other W708 ne748
    have f751 := f750.other W709 ne748
    have f752 := f751.other W710 ne748
    have f753 := f752.ext E711
    have ne755 : a665 ≠ a711 := Nat.ne_of_lt (Nat.lt_of_lt_of_le f752.lt (Nat.le_of_eq g711.symm))
    have f754 := f753.keep K728 (ninS ne755 nin0)
    have f756 := R684.ext E685
    have ne758 : a672 ≠ a685 := Nat.ne_of_lt (Nat.lt_of_lt_of_le R684.lt (Nat.le_of_eq g685.symm))
    have f757 := f756.other W693 ne758
    have f759 := f757.other W694 ne758
    have f760 := f759.other W695 ne758
    have f761 := f760.other W696 ne758
    have f762 := f761.other W697 ne758
    have f763 := f762.ext E698
    have ne765 : a672 ≠ a698 := Nat.ne_of_lt (Nat.lt_of_lt_of_le f762.lt (Nat.le_of_eq g698.symm))
    have f764 := f763.other W706 ne765
    have f766 := f764.other W707 ne765
    have f767 := f766.other W708 ne765
    have f768 := f767.other W709 ne765
    have f769 := f768.other W710 ne765
    have f770 := f769.ext E711
    have ne772 : a672 ≠ a711 := Nat.ne_of_lt (Nat.lt_of_lt_of_le f769.lt (Nat.le_of_eq g711.symm))
    have f771 := f770.keep K728 (ninS ne772 nin0)
    have f773 := R710.ext E711
    have ne775 : a698 ≠ a711 := Nat.ne_of_lt (Nat.lt_of_lt_of_le R710.lt (Nat.le_of_eq g711.symm))
    have f774 := f773.keep K728 (ninS ne775 nin0)
    have ne776 : a698 ≠ a728 := Nat.ne_of_lt (Nat.lt_of_lt_of_le f773.lt (G728_0))
    have z777 : n0 ≤ T728.heap.size := Nat.le_trans z729 K728.1
    refine Go.virtual X728 hx hZ (y := (⟨"com/example/ratewright/ratewright/inference/GradientCorrection", "apply", "([D[D[D)V"⟩ : MethodName)) hown (word hw 45 rfl) (word hw 46 rfl) (word hw 48 rfl) (word hw 47 rfl) (word hw 49 rfl) (word hw 4 rfl) (by decide) (rm_app4 l Z a0 hw a711 a665 a672 a698 a728 kk665 kk672 kk698 kk728_1 u57 u63 u69 u77 u86 u21 u26 u33 u40 u47 (4602678819172646912 : UInt64) (4602678819172646912 : UInt64) (4602678819172646912 : UInt64) (4602678819172646912 : UInt64) (4602678819172646912 : UInt64) T728.heap n0 z777 P728_1 P728_2 f754 f771 f774 P728_3 (Ne.symm ne748) (Ne.symm ne765) ne776 ne775 r705 (⟨(own_one (own_fin hu57) (own_fin hu21)).1, (own_one (own_fin hu63) (own_fin hu26)).1, (own_one (own_fin hu69) (own_fin hu33)).1, (own_one (own_fin hu77) (own_fin hu40)).1, trivial⟩)) rfl P728_0  (argsL := [(.ref a665), (.ref a672), (.ref a698)]) (rest := []) (W := 0) (Jvm.hb hby at_185) rfl rfl (lenOf (pd2) rfl) (by rw [hml]; rfl) (Nat.le_of_eq rfl) (by decide) (by decide) (by decide) (by decide) (q := 188) rfl ?_
    intro T731 L731 w731 X731 hQ731
    obtain ⟨rfl, M731, K731, P731_0⟩ := hQ731
    have N731 := Fr.app N728 M731
    show Go p e below _ (T731.setTop (mkF m 188 #[.val (.int q1), .val (.int q2), .val (.int q3), .val (.int q4), .val (.int q5), .val (.int q6), .val (.int (4 : Int32)), .val (.int u12), .val (.ref a665), .val (.ref a672), .val (.ref a685), .val (.ref a698), .val (.ref a711)] []))
    refine Go.aload X731.here hx (Jvm.hb hby at_188) rfl rfl (q := 190) rfl ?_
    refine Go.aload X731.here hx (Jvm.hb hby at_190) rfl rfl (q := 192) rfl ?_
    refine Go.aload X731.here hx (Jvm.hb hby at_192) rfl rfl (q := 194) rfl ?_
    refine Go.iconst X731.here hx (Jvm.hb hby at_194) (v := (0 : Int32)) rfl (q := 195) rfl ?_
    refine Go.iload X731.here hx (Jvm.hb hby at_195) rfl (q := 197) rfl ?_
    have f779 := f771.keep K731 (ninS ne765 nin0)
    have f780 := R697.ext E698
    have ne782 : a685 ≠ a698 := Nat.ne_of_lt (Nat.lt_of_lt_of_le R697.lt (Nat.le_of_eq g698.symm))
    have f781 := f780.other W706 ne782
    have f783 := f781.other W707 ne782
    have f784 := f783.other W708 ne782
    have f785 := f784.other W709 ne782
    have f786 := f785.other W710 ne782
    have f787 := f786.ext E711
    have ne789 : a685 ≠ a711 := Nat.ne_of_lt (Nat.lt_of_lt_of_le f786.lt (Nat.le_of_eq g711.symm))
    have f788 := f787.keep K728 (ninS ne789 nin0)
    have f790 := f788.keep K731 (ninS ne782 nin0)
    have z791 : n0 ≤ T731.heap.size := Nat.le_trans z777 K731.1
    refine Go.static X731 hx hZ (y := (⟨"com/example/ratewright/ratewright/inference/GradientCorrectionApplyPinLaw", "slot", "([D[D[DII)Z"⟩ : MethodName)) hown (word hw 50 rfl) (word hw 51 rfl) (word hw 53 rfl) (word hw 52 rfl) (by decide) (rm_slot0a l Z a0 hw a698 a672 a685 kk698 kk672 kk685 (4 : Int32) (own_r u57 u21) (own_r u63 u26) (own_r u69 u33) (own_r u77 u40) (4602678819172646912 : UInt64) u57 u63 u69 u77 u86 u96 u102 u108 u116 u125 T731.heap n0 z791 P731_0 f779 f790 (by decide) (fun o => (own_same hu57 hu96 o)) (fun o => (own_hit hu57 hu21 hu96 o))) rfl  (argsL := [(.ref a698), (.ref a672), (.ref a685), (.int (0 : Int32)), (.int (4 : Int32))]) (rest := []) (W := 0) (Jvm.hb hby at_197) rfl rfl (lenOf (pd3) rfl) (by rw [hml]; rfl) (Nat.le_of_eq rfl) (by decide) (by decide) (by decide) (by decide) (q := 200) rfl ?_
    intro T778 L778 w778 X778 hQ778
    obtain ⟨rfl, M778, q778⟩ := hQ778
    have N778 := Fr.app N731 M778
    show Go p e below _ (T778.setTop (mkF m 200 #[.val (.int q1), .val (.int q2), .val (.int q3), .val (.int q4), .val (.int q5), .val (.int q6), .val (.int (4 : Int32)), .val (.int u12), .val (.ref a665), .val (.ref a672), .val (.ref a685), .val (.ref a698), .val (.ref a711)] [(.int (1 : Int32))]))
    have hc200_793 : ¬ ((1 : Int32) = (0 : Int32)) := by decide
    refine Go.ifN X778.here hx (Jvm.hb hby at_200) ((if0 _ _).trans (feq hc200_793).1) (q := 203) rfl ?_
    refine Go.aload X778.here hx (Jvm.hb hby at_203) rfl rfl (q := 205) rfl ?_
    refine Go.aload X778.here hx (Jvm.hb hby at_205) rfl rfl (q := 207) rfl ?_
    refine Go.aload X778.here hx (Jvm.hb hby at_207) rfl rfl (q := 209) rfl ?_
    refine Go.iconst X778.here hx (Jvm.hb hby at_209) (v := (1 : Int32)) rfl (q := 210) rfl ?_
    refine Go.iload X778.here hx (Jvm.hb hby at_210) rfl (q := 212) rfl ?_
    refine Go.static X778 hx hZ (y := (⟨"com/example/ratewright/ratewright/inference/GradientCorrectionApplyPinLaw", "slot", "([D[D[DII)Z"⟩ : MethodName)) hown (word hw 50 rfl) (word hw 51 rfl) (word hw 53 rfl) (word hw 52 rfl) (by decide) (rm_slot1a l Z a0 hw a698 a672 a685 kk698 kk672 kk685 (4 : Int32) (own_r u57 u21) (own_r u63 u26) (own_r u69 u33) (own_r u77 u40) (4602678819172646912 : UInt64) u57 u63 u69 u77 u86 u96 u102 u108 u116 u125 T731.heap n0 z791 P731_0 f779 f790 (by decide) (fun o => (own_same hu63 hu102 o)) (fun o => (own_hit hu63 hu26 hu102 o))) q778  (argsL := [(.ref a698), (.ref a672), (.ref a685), (.int (1 : Int32)), (.int (4 : Int32))]) (rest := []) (W := 0) (Jvm.hb hby at_212) rfl rfl (lenOf (pd3) rfl) (by rw [hml]; rfl) (Nat.le_of_eq rfl) (by decide) (by decide) (by decide) (by decide) (q := 215) rfl ?_
    intro T794 L794 w794 X794 hQ794
    obtain ⟨rfl, M794, q794⟩ := hQ794
    have N794 := Fr.app N778 M794
    show Go p e below _ (T794.setTop (mkF m 215 #[.val (.int q1), .val (.int q2), .val (.int q3), .val (.int q4), .val (.int q5), .val (.int q6), .val (.int (4 : Int32)), .val (.int u12), .val (.ref a665), .val (.ref a672), .val (.ref a685), .val (.ref a698), .val (.ref a711)] [(.int (1 : Int32))]))
    have hc215_796 : ¬ ((1 : Int32) = (0 : Int32)) := by decide
    refine Go.ifN X794.here hx (Jvm.hb hby at_215) ((if0 _ _).trans (feq hc215_796).1) (q := 218) rfl ?_
    refine Go.aload X794.here hx (Jvm.hb hby at_218) rfl rfl (q := 220) rfl ?_
    refine Go.aload X794.here hx (Jvm.hb hby at_220) rfl rfl (q := 222) rfl ?_
    refine Go.aload X794.here hx (Jvm.hb hby at_222) rfl rfl (q := 224) rfl ?_
    refine Go.iconst X794.here hx (Jvm.hb hby at_224) (v := (2 : Int32)) rfl (q := 225) rfl ?_
    refine Go.iload X794.here hx (Jvm.hb hby at_225) rfl (q := 227) rfl ?_
    refine Go.static X794 hx hZ (y := (⟨"com/example/ratewright/ratewright/inference/GradientCorrectionApplyPinLaw", "slot", "([D[D[DII)Z"⟩ : MethodName)) hown (word hw 50 rfl) (word hw 51 rfl) (word hw 53 rfl) (word hw 52 rfl) (by decide) (rm_slot2a l Z a0 hw a698 a672 a685 kk698 kk672 kk685 (4 : Int32) (own_r u57 u21) (own_r u63 u26) (own_r u69 u33) (own_r u77 u40) (4602678819172646912 : UInt64) u57 u63 u69 u77 u86 u96 u102 u108 u116 u125 T731.heap n0 z791 P731_0 f779 f790 (by decide) (fun o => (own_same hu69 hu108 o)) (fun o => (own_hit hu69 hu33 hu108 o))) q794  (argsL := [(.ref a698), (.ref a672), (.ref a685), (.int (2 : Int32)), (.int (4 : Int32))]) (rest := []) (W := 0) (Jvm.hb hby at_227) rfl rfl (lenOf (pd3) rfl) (by rw [hml]; rfl) (Nat.le_of_eq rfl) (by decide) (by decide) (by decide) (by decide) (q := 230) rfl ?_
    intro T797 L797 w797 X797 hQ797
    obtain ⟨rfl, M797, q797⟩ := hQ797
    have N797 := Fr.app N794 M797
    show Go p e below _ (T797.setTop (mkF m 230 #[.val (.int q1), .val (.int q2), .val (.int q3), .val (.int q4), .val (.int q5), .val (.int q6), .val (.int (4 : Int32)), .val (.int u12), .val (.ref a665), .val (.ref a672), .val (.ref a685), .val (.ref a698), .val (.ref a711)] [(.int (1 : Int32))]))
    have hc230_799 : ¬ ((1 : Int32) = (0 : Int32)) := by decide
    refine Go.ifN X797.here hx (Jvm.hb hby at_230) ((if0 _ _).trans (feq hc230_799).1) (q := 233) rfl ?_
    refine Go.aload X797.here hx (Jvm.hb hby at_233) rfl rfl (q := 235) rfl ?_
    refine Go.aload X797.here hx (Jvm.hb hby at_235) rfl rfl (q := 237) rfl ?_
    refine Go.aload X797.here hx (Jvm.hb hby at_237) rfl rfl (q := 239) rfl ?_
    refine Go.iconst X797.here hx (Jvm.hb hby at_239) (v := (3 : Int32)) rfl (q := 240) rfl ?_
    refine Go.iload X797.here hx (Jvm.hb hby at_240) rfl (q := 242) rfl ?_
    refine Go.static X797 hx hZ (y := (⟨"com/example/ratewright/ratewright/inference/GradientCorrectionApplyPinLaw", "slot", "([D[D[DII)Z"⟩ : MethodName)) hown (word hw 50 rfl) (word hw 51 rfl) (word hw 53 rfl) (word hw 52 rfl) (by decide) (rm_slot3a l Z a0 hw a698 a672 a685 kk698 kk672 kk685 (4 : Int32) (own_r u57 u21) (own_r u63 u26) (own_r u69 u33) (own_r u77 u40) (4602678819172646912 : UInt64) u57 u63 u69 u77 u86 u96 u102 u108 u116 u125 T731.heap n0 z791 P731_0 f779 f790 (by decide) (fun o => (by rw [← hu76] at hu77; rw [← hu115] at hu116; exact own_same hu77 hu116 o)) (fun o => (by rw [← hu76] at hu77; rw [← hu115] at hu116; exact own_hit hu77 hu40 hu116 o))) q797  (argsL := [(.ref a698), (.ref a672), (.ref a685), (.int (3 : Int32)), (.int (4 : Int32))]) (rest := []) (W := 0) (Jvm.hb hby at_242) rfl rfl (lenOf (pd3) rfl) (by rw [hml]; rfl) (Nat.le_of_eq rfl) (by decide) (by decide) (by decide) (by decide) (q := 245) rfl ?_
    intro T800 L800 w800 X800 hQ800
    obtain ⟨rfl, M800, q800⟩ := hQ800
    have N800 := Fr.app N797 M800
    show Go p e below _ (T800.setTop (mkF m 245 #[.val (.int q1), .val (.int q2), .val (.int q3), .val (.int q4), .val (.int q5), .val (.int q6), .val (.int (4 : Int32)), .val (.int u12), .val (.ref a665), .val (.ref a672), .val (.ref a685), .val (.ref a698), .val (.ref a711)] [(.int (1 : Int32))]))
    have hc245_802 : ¬ ((1 : Int32) = (0 : Int32)) := by decide
    refine Go.ifN X800.here hx (Jvm.hb hby at_245) ((if0 _ _).trans (feq hc245_802).1) (q := 248) rfl ?_
    refine Go.aload X800.here hx (Jvm.hb hby at_248) rfl rfl (q := 250) rfl ?_
    refine Go.aload X800.here hx (Jvm.hb hby at_250) rfl rfl (q := 252) rfl ?_
    refine Go.aload X800.here hx (Jvm.hb hby at_252) rfl rfl (q := 254) rfl ?_
    refine Go.iconst X800.here hx (Jvm.hb hby at_254) (v := (4 : Int32)) rfl (q := 255) rfl ?_
    refine Go.iload X800.here hx (Jvm.hb hby at_255) rfl (q := 257) rfl ?_
    refine Go.static X800 hx hZ (y := (⟨"com/example/ratewright/ratewright/inference/GradientCorrectionApplyPinLaw", "slot", "([D[D[DII)Z"⟩ : MethodName)) hown (word hw 50 rfl) (word hw 51 rfl) (word hw 53 rfl) (word hw 52 rfl) (by decide) (rm_slot4b l Z a0 hw a698 a672 a685 kk698 kk672 kk685 (4 : Int32) (own_r u57 u21) (own_r u63 u26) (own_r u69 u33) (own_r u77 u40) (4602678819172646912 : UInt64) u57 u63 u69 u77 u86 u96 u102 u108 u116 u125 T731.heap n0 z791 P731_0 f779 f790 (by decide) (fun o => (by rw [← hu85] at hu86; rw [← hu124] at hu125; exact own_same hu86 hu125 o)) (fun o => own_half o)) q800  (argsL := [(.ref a698), (.ref a672), (.ref a685), (.int (4 : Int32)), (.int (4 : Int32))]) (rest := []) (W := 0) (Jvm.hb hby at_257) rfl rfl (lenOf (pd3) rfl) (by rw [hml]; rfl) (Nat.le_of_eq rfl) (by decide) (by decide) (by decide) (by decide) (q := 260) rfl ?_
    intro T803 L803 w803 X803 hQ803
    obtain ⟨rfl, M803, q803⟩ := hQ803
    have N803 := Fr.app N800 M803
    show Go p e below _ (T803.setTop (mkF m 260 #[.val (.int q1), .val (.int q2), .val (.int q3), .val (.int q4), .val (.int q5), .val (.int q6), .val (.int (4 : Int32)), .val (.int u12), .val (.ref a665), .val (.ref a672), .val (.ref a685), .val (.ref a698), .val (.ref a711)] [(.int (1 : Int32))]))
    have hc260_805 : ¬ ((1 : Int32) = (0 : Int32)) := by decide
    refine Go.ifN X803.here hx (Jvm.hb hby at_260) ((if0 _ _).trans (feq hc260_805).1) (q := 263) rfl ?_
    refine Go.iconst X803.here hx (Jvm.hb hby at_263) (v := (1 : Int32)) rfl (q := 264) rfl ?_
    refine Go.goto X803.here hx (Jvm.hb hby at_264) (by decide) (q := 268) rfl ?_
    refine Go.retZ X803 hx hret hlk (Jvm.hb hby at_268) (Or.inr rfl) (by decide) (by decide) ?_
    exact ⟨rfl, N803⟩
set_option maxRecDepth 65536 in
set_option maxHeartbeats 40000000 in
theorem comes_1 {Post : Tables → Env → Array Value → State → Outcome → State → Prop} (hpost : ∀ tb e args s v u, (limb_1_1.after args s (.returned v) u = true ∧ limb_1_2.after args s (.returned v) u = true ∧ True) → FrameEnd s (.returned v) u (Jvm.fieldLocs frame_1_writes args s ++ Jvm.arrayLocs frame_1_arrays args s ++ Jvm.staticLocs frame_1_statics s) 48 4928 → Post tb e args s (.returned v) u) :
    ArmFor flags0 classFile x code maxLocals ret World_1 tables_1 room_1 Calls_1 rest_1 Pre_1 Post := by
  intro l hfl _ _ p e ha hc hk s m args below hf hA hF happ hP
  obtain ⟨hcalls, hrest, hpre⟩ := hP
  obtain ⟨-, -, -, hnamed, -, -, -, hat⟩ := (Spec.applies_iff hf).mp happ
  obtain ⟨hg, hn⟩ := and_e (Cond.before_iff.mp (show (Jvm.Cond.and given_1 narrow_1).before args s = true from hpre))
  obtain ⟨g0, hg⟩ := and_e hg
  obtain ⟨w0, w1, w2, w3, w4, w5, rfl⟩ : ∃ w0 w1 w2 w3 w4 w5 : Value, args = #[w0, w1, w2, w3, w4, w5] := by
    have hs : args.size = 6 := by simpa [Cond.value, given_1] using g0
    obtain ⟨L⟩ := args
    match L, hs with
    | [w0, w1, w2, w3, w4, w5], _ => exact ⟨w0, w1, w2, w3, w4, w5, rfl⟩
  have hw := fun d (hd : d ∈ tables_1) => atoms_spec (ws := Jvm.Cond.code x code maxLocals ret :: tables_1) hat d (List.mem_cons_of_mem _ hd)
  obtain ⟨g1, hg⟩ := and_e hg
  obtain ⟨i0, e0⟩ := is_v g1
  obtain rfl : w0 = (.int i0) := Option.some.inj e0
  obtain ⟨g2, hg⟩ := and_e hg
  obtain ⟨i1, e1⟩ := is_v g2
  obtain rfl : w1 = (.int i1) := Option.some.inj e1
  obtain ⟨g3, hg⟩ := and_e hg
  obtain ⟨i2, e2⟩ := is_v g3
  obtain rfl : w2 = (.int i2) := Option.some.inj e2
  obtain ⟨g4, hg⟩ := and_e hg
  obtain ⟨i3, e3⟩ := is_v g4
  obtain rfl : w3 = (.int i3) := Option.some.inj e3
  obtain ⟨g5, hg⟩ := and_e hg
  obtain ⟨i4, e4⟩ := is_v g5
  obtain rfl : w4 = (.int i4) := Option.some.inj e4
  obtain ⟨i5, e5⟩ := is_v hg
  obtain rfl : w5 = (.int i5) := Option.some.inj e5
  obtain ⟨n, o, h1, h2, h3, _, L, rfl, ⟨rfl, N⟩, hq⟩ := rm_law l s _ hw tables_1 i0 i1 i2 i3 i4 i5  s.heap s.heap.size (Nat.le_refl _)  p e ha hc hk s m _ below hf ((Spec.applies_iff_loose hf).mp happ).1 ⟨rfl, State.Warmed39.refl s, rfl⟩ trivial
  refine ⟨n, _, h1, h2, h3, hpost _ _ _ _ _ _ ⟨Cond.after_iff.mpr rfl, Cond.after_iff.mpr (eq_i res_at (Term.int_eval (1)) rfl), trivial⟩ ⟨hq.1, hq.2.1, (hq.2.2.sift fun y hy => Or.inr (N y hy)).mono (by decide) (by decide)⟩⟩
theorem main_1_1 : Claimed_1_1 := comes_1 fun _ _ _ _ _ _ h hF => ⟨h.1, hF⟩
theorem main_1_2 : Claimed_1_2 := comes_1 fun _ _ _ _ _ _ h hF => ⟨h.2.1, hF⟩
end Jvm.Pilot.@@N@@
namespace Jvm.Pilot.@@N@@
open Jvm Jvm.ClassFile Sem Op Lib Jvm.Free Jvm.Stand Jvm.Pilot.@@N@@.Jvm.D
/-! MADE BY PROGRAM (witnessworld.py) out of the Statement's table words and the real class files: 12 classes; the members and pool entries that the words name. The judged class is class 1, her method 2. -/
namespace start1
open Jvm.ClassFile
def u (s : String) : CpInfo := .utf8 (stringToUtf16 s)
/-- a pool by its gaps: so many unusable entries, then the entry; so many at the end -/
def gap : Nat → List CpInfo → List CpInfo
  | 0, r => r
  | n + 1, r => .unusable :: gap n r
def poolList (es : List (Nat × CpInfo)) (last : Nat) : List CpInfo := es.foldr (fun e r => gap e.1 (e.2 :: r)) (gap last [])
def pool (es : List (Nat × CpInfo)) (last : Nat) : Array CpInfo := ⟨poolList es last⟩
def fileOf (pool : Array CpInfo) (this : Nat) (attrs : Array Attribute := #[]) (ms : Array MethodInfo := #[]) (fl : Nat := 33) (sup : Nat := 0) (ifs : Array Nat := #[]) (fds : Array FieldInfo := #[]) : ClassFile where
  minorVersion := 0
  majorVersion := 65
  constantPool := pool
  accessFlags := fl
  thisClass := this
  superClass := sup
  interfaces := ifs
  fields := fds
  methods := ms
  attributes := attrs
def plain (name : String) (sup : Option ClassId) : Class where
  name := name
  kind := .ordinary
  loader := none
  accessFlags := 33
  super := sup
  interfaces := #[]
  cf := none
  fields := #[]
  methods := #[]
  instanceTypes := #[]
  staticTypes := #[]
  resolved := #[]
  callSites := []
  init := .initialized
  statics := none
  mirror := none

def pool0 : Array CpInfo := pool [(5, u "<init>"), (0, u "()V"), (1, .class_ 10), (1, u "java/lang/Object")] 113

def k0c0 : Code := { maxStack := 0, maxLocals := 1, code := object_method_1_code, exceptionTable := #[], attributes := #[] }
def k0m0 : Method := { name := "<init>", desc := "()V", sig := { parameters := [], returnType := none }, accessFlags := 1, code := some k0c0 }
/-- java/lang/Object -/
def k0 : Class := { plain "java/lang/Object" none with
  accessFlags := 33
  interfaces := #[]
  cf := some (fileOf pool0 8 #[] #[{ accessFlags := 1, nameIndex := 5, descriptorIndex := 6, attributes := #[] }] 33 0 #[] #[])
  fields := #[]
  methods := #[k0m0]
  instanceTypes := #[]
  staticTypes := #[]
  resolved := Array.replicate 124 none
  statics := none }

def pool1 : Array CpInfo := pool [(2, .class_ 4), (1, u "java/lang/Object"), (0, u "<init>"), (0, u "()V"), (0, .double 4602678819172646912), (1, .class_ 10), (0, u "com/example/ratewright/ratewright/inference/GradientCorrection"), (0, .methodref 9 12), (0, .nameAndType 5 13), (0, u "(II)V"), (0, .methodref 9 15), (0, .nameAndType 16 17), (0, u "apply"), (0, u "([D[D[D)V"), (0, .methodref 19 20), (0, .class_ 21), (0, .nameAndType 22 23), (0, u "com/example/ratewright/ratewright/inference/GradientCorrectionApplyPinLaw"), (0, u "slot"), (0, u "([D[D[DII)Z"), (3, u "law"), (0, u "(IIIIII)Z")] 4

def k1m0 : Method := { name := "<init>", desc := "()V", sig := { parameters := [], returnType := none }, accessFlags := 1, code := none }
def k1c1 : Code := { maxStack := 4, maxLocals := 7, code := method_2_code, exceptionTable := #[], attributes := #[] }
def k1m1 : Method := { name := "slot", desc := "([D[D[DII)Z", sig := { parameters := [(.array .double), (.array .double), (.array .double), .int, .int], returnType := some .boolean }, accessFlags := 10, code := some k1c1 }
def k1c2 : Code := { maxStack := 5, maxLocals := 13, code := code, exceptionTable := #[], attributes := #[] }
def k1m2 : Method := { name := "law", desc := "(IIIIII)Z", sig := { parameters := [.int, .int, .int, .int, .int, .int], returnType := some .boolean }, accessFlags := 9, code := some k1c2 }
/-- com/example/ratewright/ratewright/inference/GradientCorrectionApplyPinLaw -/
def k1 : Class := { plain "com/example/ratewright/ratewright/inference/GradientCorrectionApplyPinLaw" (some 0) with
  accessFlags := 49
  interfaces := #[]
  cf := some (fileOf pool1 19 #[] #[{ accessFlags := 1, nameIndex := 5, descriptorIndex := 6, attributes := #[] }, { accessFlags := 10, nameIndex := 22, descriptorIndex := 23, attributes := #[] }, { accessFlags := 9, nameIndex := 27, descriptorIndex := 28, attributes := #[] }] 49 2 #[] #[])
  fields := #[]
  methods := #[k1m0, k1m1, k1m2]
  instanceTypes := #[]
  staticTypes := #[]
  resolved := Array.replicate 33 none
  statics := none }

def pool2 : Array CpInfo := pool [(1, .methodref 2 3), (0, .class_ 4), (0, .nameAndType 5 6), (0, u "java/lang/Object"), (0, u "<init>"), (0, u "()V"), (0, .class_ 8), (0, u "com/example/ratewright/ratewright/inference/GradientCorrection"), (0, .fieldref 7 10), (0, .nameAndType 11 12), (0, u "dimension"), (0, u "I"), (0, .fieldref 7 14), (0, .nameAndType 15 12), (0, u "unknowns"), (0, .fieldref 7 17), (0, .nameAndType 18 19), (0, u "coefficients"), (0, u "[D"), (0, .class_ 21), (0, u "com/example/ratewright/ratewright/inference/GradientCorrection$NormalEquations"), (0, .methodref 20 23), (0, .nameAndType 5 24), (0, u "(I)V"), (0, .fieldref 7 26), (0, .nameAndType 27 28), (0, u "fitted"), (0, u "Lcom/example/ratewright/ratewright/inference/GradientCorrection$NormalEquations;"), (0, .fieldref 7 30), (0, .nameAndType 31 28), (0, u "heldOut"), (0, .class_ 19), (0, .fieldref 7 34), (0, .nameAndType 35 36), (0, u "heldOutTerms"), (0, u "[[D"), (0, .fieldref 7 38), (0, .nameAndType 39 19), (0, u "heldOutMisses"), (0, .class_ 36), (0, .fieldref 7 42), (0, .nameAndType 43 36), (0, u "pendingTerms"), (0, .fieldref 7 45), (0, .nameAndType 46 19), (0, u "pendingMisses"), (2, u "pending"), (20, u "kept"), (27, u "MOST_PARAMETERS"), (2, u "TERMS"), (1, u "STEPS_PER_UNKNOWN"), (1, u "RIDGE"), (0, u "D"), (2, u "VALIDATION_EVERY"), (0, u "MOST_HELD_OUT"), (1, u "FEWEST_HELD_OUT"), (1, u "LARGEST_MISS"), (0, u "(II)V"), (3, u "apply"), (0, u "([D[D[D)V")] 11

def k2c0 : Code := { maxStack := 4, maxLocals := 5, code := prog_4_method_1_code, exceptionTable := #[], attributes := #[] }
def k2m0 : Method := { name := "<init>", desc := "(II)V", sig := { parameters := [.int, .int], returnType := none }, accessFlags := 0, code := some k2c0 }
def k2c1 : Code := { maxStack := 8, maxLocals := 9, code := prog_4_method_2_code, exceptionTable := #[], attributes := #[] }
def k2m1 : Method := { name := "apply", desc := "([D[D[D)V", sig := { parameters := [(.array .double), (.array .double), (.array .double)], returnType := none }, accessFlags := 0, code := some k2c1 }
/-- com/example/ratewright/ratewright/inference/GradientCorrection -/
def k2 : Class := { plain "com/example/ratewright/ratewright/inference/GradientCorrection" (some 0) with
  accessFlags := 48
  interfaces := #[]
  cf := some (fileOf pool2 7 #[.nestMembers #[20]] #[{ accessFlags := 0, nameIndex := 5, descriptorIndex := 115, attributes := #[] }, { accessFlags := 0, nameIndex := 119, descriptorIndex := 120, attributes := #[] }] 48 2 #[] #[{ accessFlags := 24, nameIndex := 98, descriptorIndex := 12, attributes := #[] }, { accessFlags := 26, nameIndex := 101, descriptorIndex := 12, attributes := #[] }, { accessFlags := 26, nameIndex := 103, descriptorIndex := 12, attributes := #[] }, { accessFlags := 26, nameIndex := 105, descriptorIndex := 106, attributes := #[] }, { accessFlags := 26, nameIndex := 109, descriptorIndex := 12, attributes := #[] }, { accessFlags := 26, nameIndex := 110, descriptorIndex := 12, attributes := #[] }, { accessFlags := 26, nameIndex := 112, descriptorIndex := 12, attributes := #[] }, { accessFlags := 26, nameIndex := 114, descriptorIndex := 106, attributes := #[] }, { accessFlags := 18, nameIndex := 11, descriptorIndex := 12, attributes := #[] }, { accessFlags := 18, nameIndex := 15, descriptorIndex := 12, attributes := #[] }, { accessFlags := 2, nameIndex := 18, descriptorIndex := 19, attributes := #[] }, { accessFlags := 18, nameIndex := 27, descriptorIndex := 28, attributes := #[] }, { accessFlags := 18, nameIndex := 31, descriptorIndex := 28, attributes := #[] }, { accessFlags := 18, nameIndex := 35, descriptorIndex := 36, attributes := #[] }, { accessFlags := 18, nameIndex := 39, descriptorIndex := 19, attributes := #[] }, { accessFlags := 2, nameIndex := 70, descriptorIndex := 12, attributes := #[] }, { accessFlags := 18, nameIndex := 43, descriptorIndex := 36, attributes := #[] }, { accessFlags := 18, nameIndex := 46, descriptorIndex := 19, attributes := #[] }, { accessFlags := 2, nameIndex := 49, descriptorIndex := 12, attributes := #[] }])
  fields := #[{ name := "MOST_PARAMETERS", type := .int, accessFlags := 24, slot := 0, constantValue := 0 }, { name := "TERMS", type := .int, accessFlags := 26, slot := 1, constantValue := 0 }, { name := "STEPS_PER_UNKNOWN", type := .int, accessFlags := 26, slot := 2, constantValue := 0 }, { name := "RIDGE", type := .double, accessFlags := 26, slot := 3, constantValue := 0 }, { name := "VALIDATION_EVERY", type := .int, accessFlags := 26, slot := 4, constantValue := 0 }, { name := "MOST_HELD_OUT", type := .int, accessFlags := 26, slot := 5, constantValue := 0 }, { name := "FEWEST_HELD_OUT", type := .int, accessFlags := 26, slot := 6, constantValue := 0 }, { name := "LARGEST_MISS", type := .double, accessFlags := 26, slot := 7, constantValue := 0 }, { name := "dimension", type := .int, accessFlags := 18, slot := 0, constantValue := 0 }, { name := "unknowns", type := .int, accessFlags := 18, slot := 1, constantValue := 0 }, { name := "coefficients", type := (.array .double), accessFlags := 2, slot := 2, constantValue := 0 }, { name := "fitted", type := (.object "com/example/ratewright/ratewright/inference/GradientCorrection$NormalEquations"), accessFlags := 18, slot := 3, constantValue := 0 }, { name := "heldOut", type := (.object "com/example/ratewright/ratewright/inference/GradientCorrection$NormalEquations"), accessFlags := 18, slot := 4, constantValue := 0 }, { name := "heldOutTerms", type := (.array (.array .double)), accessFlags := 18, slot := 5, constantValue := 0 }, { name := "heldOutMisses", type := (.array .double), accessFlags := 18, slot := 6, constantValue := 0 }, { name := "kept", type := .int, accessFlags := 2, slot := 7, constantValue := 0 }, { name := "pendingTerms", type := (.array (.array .double)), accessFlags := 18, slot := 8, constantValue := 0 }, { name := "pendingMisses", type := (.array .double), accessFlags := 18, slot := 9, constantValue := 0 }, { name := "pending", type := .int, accessFlags := 2, slot := 10, constantValue := 0 }]
  methods := #[k2m0, k2m1]
  instanceTypes := #[.int, .int, (.array .double), (.object "com/example/ratewright/ratewright/inference/GradientCorrection$NormalEquations"), (.object "com/example/ratewright/ratewright/inference/GradientCorrection$NormalEquations"), (.array (.array .double)), (.array .double), .int, (.array (.array .double)), (.array .double), .int]
  staticTypes := #[.int, .int, .int, .double, .int, .int, .int, .double]
  resolved := Array.replicate 132 none
  statics := none }

def pool3 : Array CpInfo := pool [(1, .class_ 2), (0, u "com/example/ratewright/ratewright/inference/GradientCorrection"), (0, .methodref 4 5), (0, .class_ 6), (0, .nameAndType 7 8), (0, u "java/lang/Object"), (0, u "<init>"), (0, u "()V"), (0, .fieldref 10 11), (0, .class_ 12), (0, .nameAndType 13 14), (0, u "com/example/ratewright/ratewright/inference/GradientCorrection$NormalEquations"), (0, u "size"), (0, u "I"), (0, .fieldref 10 16), (0, .nameAndType 17 18), (0, u "products"), (0, u "[D"), (0, .fieldref 10 20), (0, .nameAndType 21 18), (0, u "right"), (2, u "count"), (27, u "(I)V")] 14

def k3c0 : Code := { maxStack := 4, maxLocals := 2, code := prog_5_method_1_code, exceptionTable := #[], attributes := #[] }
def k3m0 : Method := { name := "<init>", desc := "(I)V", sig := { parameters := [.int], returnType := none }, accessFlags := 0, code := some k3c0 }
/-- com/example/ratewright/ratewright/inference/GradientCorrection$NormalEquations -/
def k3 : Class := { plain "com/example/ratewright/ratewright/inference/GradientCorrection$NormalEquations" (some 0) with
  accessFlags := 48
  interfaces := #[]
  cf := some (fileOf pool3 10 #[.nestHost 1] #[{ accessFlags := 0, nameIndex := 7, descriptorIndex := 52, attributes := #[] }] 48 4 #[] #[{ accessFlags := 18, nameIndex := 13, descriptorIndex := 14, attributes := #[] }, { accessFlags := 18, nameIndex := 17, descriptorIndex := 18, attributes := #[] }, { accessFlags := 18, nameIndex := 21, descriptorIndex := 18, attributes := #[] }, { accessFlags := 2, nameIndex := 24, descriptorIndex := 14, attributes := #[] }])
  fields := #[{ name := "size", type := .int, accessFlags := 18, slot := 0, constantValue := 0 }, { name := "products", type := (.array .double), accessFlags := 18, slot := 1, constantValue := 0 }, { name := "right", type := (.array .double), accessFlags := 18, slot := 2, constantValue := 0 }, { name := "count", type := .int, accessFlags := 2, slot := 3, constantValue := 0 }]
  methods := #[k3m0]
  instanceTypes := #[.int, (.array .double), (.array .double), .int]
  staticTypes := #[]
  resolved := Array.replicate 67 none
  statics := none }

def pool4 : Array CpInfo := pool [(1, u "java/lang/Cloneable"), (0, .class_ 1), (0, u "java/lang/Object"), (0, .class_ 3)] 3

/-- java/lang/Cloneable -/
def k4 : Class := { plain "java/lang/Cloneable" (some 0) with
  accessFlags := 1537
  interfaces := #[]
  cf := some (fileOf pool4 2 #[] #[] 1537 4 #[] #[])
  fields := #[]
  methods := #[]
  instanceTypes := #[]
  staticTypes := #[]
  resolved := Array.replicate 8 none
  statics := none }

def pool5 : Array CpInfo := pool [(1, u "java/io/Serializable"), (0, .class_ 1), (0, u "java/lang/Object"), (0, .class_ 3)] 3

/-- java/io/Serializable -/
def k5 : Class := { plain "java/io/Serializable" (some 0) with
  accessFlags := 1537
  interfaces := #[]
  cf := some (fileOf pool5 2 #[] #[] 1537 4 #[] #[])
  fields := #[]
  methods := #[]
  instanceTypes := #[]
  staticTypes := #[]
  resolved := Array.replicate 8 none
  statics := none }

/-- the primitive byte -/
def k6 : Class := { plain "byte" none with kind := .primitive 'B', accessFlags := 0x411 }
/-- [B -/
def k7 : Class := { plain "[B" (some 0) with kind := .array 6 .byte, interfaces := #[4, 5], accessFlags := 1041 }

/-- the primitive double -/
def k8 : Class := { plain "double" none with kind := .primitive 'D', accessFlags := 0x411 }
/-- [D -/
def k9 : Class := { plain "[D" (some 0) with kind := .array 8 .double, interfaces := #[4, 5], accessFlags := 1041 }

/-- the primitive int -/
def k10 : Class := { plain "int" none with kind := .primitive 'I', accessFlags := 0x411 }
/-- [I -/
def k11 : Class := { plain "[I" (some 0) with kind := .array 10 .int, interfaces := #[4, 5], accessFlags := 1041 }

/-- [[D -/
def k12 : Class := { plain "[[D" (some 0) with kind := .array 9 (.array .double), interfaces := #[4, 5], accessFlags := 1041 }
def heap : Heap := #[]
def classes : Array Class := #[k0, k1, k2, k3, k4, k5, k6, k7, k8, k9, k10, k11, k12]
def interned : List (Array UInt16 × Addr) := []
def slotsUsed : Nat := 0
def theMethod : MethodId := ⟨1, 2⟩
def args0 : Array Value := #[.int 11, .int 7, .int 77, .int 777, .int 5, .int 33]
def aboutOver (below : List Frame) : State where
  vm := { classes := classes, interned := interned.toArray }
  heap := heap
  slotsUsed := slotsUsed
  threads := #[{ frames := .invoking theMethod args0 :: below }]
def below0 : List Frame := [.native { method := ⟨0, 0⟩, args := #[] }]
def about1 : State := aboutOver below0
def p0 : Program := .bare "" "" ""
def e0 : Env := launch0.env 0 0 0
theorem w_frames : about1.frames = Frame.invoking theMethod args0 :: below0 := rfl
set_option maxRecDepth 65536 in
theorem w_args : argsFit about1.vm theMethod args0 = true := by decide +kernel
set_option maxRecDepth 65536 in
theorem w_heap : heapFits about1 = true := by decide +kernel
set_option maxRecDepth 65536 in
theorem w_runnable : about1.curStatus? = some .runnable := by decide +kernel
set_option maxRecDepth 65536 in
theorem w_alone : about1.alone = true := by decide +kernel
set_option maxRecDepth 65536 in
theorem w_named : about1.methodNamed? x = some theMethod := by decide +kernel
set_option maxRecDepth 65536 in
theorem w_hears : about1.hears theMethod below0 = true := by decide +kernel
set_option maxRecDepth 65536 in
theorem w_ripe : about1.ripe theMethod args0 below0 = true := by decide +kernel
theorem w_running : about1.status = .running := rfl
set_option maxRecDepth 65536 in
theorem w_room : about1.hasRoom e0.platform room_1 = true :=
  launch0.hasRoom_least _ room_1 (by decide +kernel) (by decide +kernel) (by decide +kernel) (by decide +kernel) (by decide +kernel) (by decide +kernel)
theorem allAtoms_all (ts : List Jvm.Cond) (a : Array Jvm.Value) (st : Jvm.State) : (allAtoms ts).before a st = ts.all (fun c => c.before a st) := by
  induction ts with
  | nil => rfl
  | cons c t ih =>
    show (Jvm.Cond.and c (allAtoms t)).before a st = _
    rw [Jvm.Cond.before_and, ih, List.all_cons]
def words1 : List Jvm.Cond := Jvm.Cond.code x code maxLocals ret :: tables_1
/-- a 'code' word, met by the world's own term for the bytes: nothing is compared byte by byte -/
theorem code_word {y : MethodName} {bytes : ByteArray} {mx : Nat} {rt : Option FieldType} {a : Array Value} {s : State} {m : MethodId} {meth : Method} {c : Code} (h1 : s.methodNamed? y = some m) (h2 : s.vm.method? m = some meth) (h3 : meth.code = some c) (h4 : c.code = bytes)
    (h5 : (c.maxLocals == mx && c.exceptionTable.isEmpty && decide (c.maxStack ≤ mostOperands) && decide (meth.sig.returnType = rt) && !meth.locks && decide (parseMethodDescriptor y.desc = some meth.sig)) = true) : (Jvm.Cond.code y bytes mx rt).before a s = true := by
  simp only [Bool.and_eq_true, beq_iff_eq, Bool.not_eq_true', decide_eq_true_eq] at h5
  obtain ⟨⟨⟨⟨⟨g1, g2⟩, g3⟩, g4⟩, g5⟩, g6⟩ := h5
  simp [Cond.before, Cond.holds, Cond.value, h1, h2, h3, h4, g1, g2, g3, g4, g5, g6]
def isCode : Jvm.Cond → Bool
  | .code _ _ _ _ => true
  | _ => false
theorem all_split {L : List Jvm.Cond} {P : Jvm.Cond → Bool} (h1 : L.all (fun c => isCode c || P c) = true) (h2 : ∀ c ∈ L.filter isCode, P c = true) : L.all P = true := by
  refine List.all_eq_true.mpr fun c hc => ?_
  have h := List.all_eq_true.mp h1 c hc
  rcases Bool.eq_false_or_eq_true (isCode c) with hi | hi
  · exact h2 c (List.mem_filter.mpr ⟨hc, hi⟩)
  · simpa [hi] using h
set_option maxRecDepth 65536 in
theorem w_c0 : (Jvm.Cond.code x code maxLocals ret).before args0 about1 = true := code_word (m := ⟨1, 2⟩) (meth := k1m2) (c := k1c2) (by decide +kernel) rfl rfl rfl (by decide +kernel)
set_option maxRecDepth 65536 in
theorem w_c1 : (Jvm.Cond.code ({ cls := "com/example/ratewright/ratewright/inference/GradientCorrection", name := "<init>", desc := "(II)V" } : Jvm.MethodName) prog_4_method_1_code (5 : Nat) (Option.none : Option Jvm.ClassFile.FieldType)).before args0 about1 = true := code_word (m := ⟨2, 0⟩) (meth := k2m0) (c := k2c0) (by decide +kernel) rfl rfl rfl (by decide +kernel)
set_option maxRecDepth 65536 in
theorem w_c2 : (Jvm.Cond.code ({ cls := "java/lang/Object", name := "<init>", desc := "()V" } : Jvm.MethodName) object_method_1_code (1 : Nat) (Option.none : Option Jvm.ClassFile.FieldType)).before args0 about1 = true := code_word (m := ⟨0, 0⟩) (meth := k0m0) (c := k0c0) (by decide +kernel) rfl rfl rfl (by decide +kernel)
set_option maxRecDepth 65536 in
theorem w_c3 : (Jvm.Cond.code ({ cls := "com/example/ratewright/ratewright/inference/GradientCorrection$NormalEquations", name := "<init>", desc := "(I)V" } : Jvm.MethodName) prog_5_method_1_code (2 : Nat) (Option.none : Option Jvm.ClassFile.FieldType)).before args0 about1 = true := code_word (m := ⟨3, 0⟩) (meth := k3m0) (c := k3c0) (by decide +kernel) rfl rfl rfl (by decide +kernel)
set_option maxRecDepth 65536 in
theorem w_c4 : (Jvm.Cond.code ({ cls := "com/example/ratewright/ratewright/inference/GradientCorrection", name := "apply", desc := "([D[D[D)V" } : Jvm.MethodName) prog_4_method_2_code (9 : Nat) (Option.none : Option Jvm.ClassFile.FieldType)).before args0 about1 = true := code_word (m := ⟨2, 1⟩) (meth := k2m1) (c := k2c1) (by decide +kernel) rfl rfl rfl (by decide +kernel)
set_option maxRecDepth 65536 in
theorem w_c5 : (Jvm.Cond.code ({ cls := "com/example/ratewright/ratewright/inference/GradientCorrectionApplyPinLaw", name := "slot", desc := "([D[D[DII)Z" } : Jvm.MethodName) method_2_code (7 : Nat) (Option.some Jvm.ClassFile.FieldType.boolean)).before args0 about1 = true := code_word (m := ⟨1, 1⟩) (meth := k1m1) (c := k1c1) (by decide +kernel) rfl rfl rfl (by decide +kernel)
def codes1 : List Jvm.Cond := [Jvm.Cond.code x code maxLocals ret, Jvm.Cond.code ({ cls := "com/example/ratewright/ratewright/inference/GradientCorrection", name := "<init>", desc := "(II)V" } : Jvm.MethodName) prog_4_method_1_code (5 : Nat) (Option.none : Option Jvm.ClassFile.FieldType), Jvm.Cond.code ({ cls := "java/lang/Object", name := "<init>", desc := "()V" } : Jvm.MethodName) object_method_1_code (1 : Nat) (Option.none : Option Jvm.ClassFile.FieldType), Jvm.Cond.code ({ cls := "com/example/ratewright/ratewright/inference/GradientCorrection$NormalEquations", name := "<init>", desc := "(I)V" } : Jvm.MethodName) prog_5_method_1_code (2 : Nat) (Option.none : Option Jvm.ClassFile.FieldType), Jvm.Cond.code ({ cls := "com/example/ratewright/ratewright/inference/GradientCorrection", name := "apply", desc := "([D[D[D)V" } : Jvm.MethodName) prog_4_method_2_code (9 : Nat) (Option.none : Option Jvm.ClassFile.FieldType), Jvm.Cond.code ({ cls := "com/example/ratewright/ratewright/inference/GradientCorrectionApplyPinLaw", name := "slot", desc := "([D[D[DII)Z" } : Jvm.MethodName) method_2_code (7 : Nat) (Option.some Jvm.ClassFile.FieldType.boolean)]
set_option maxRecDepth 65536 in
theorem codes_eq : words1.filter isCode = codes1 := rfl
theorem w_codes : ∀ c ∈ words1.filter isCode, c.before args0 about1 = true := by
  rw [codes_eq]
  intro c hc
  simp only [codes1, List.mem_cons, List.not_mem_nil, or_false] at hc
  rcases hc with rfl | rfl | rfl | rfl | rfl | rfl
  · exact w_c0
  · exact w_c1
  · exact w_c2
  · exact w_c3
  · exact w_c4
  · exact w_c5
set_option maxRecDepth 65536 in
theorem w_t1 : (words1.take 24).all (fun c => isCode c || c.before args0 about1) = true := by decide +kernel
set_option maxRecDepth 65536 in
theorem w_t2 : ((words1.drop 24).take 24).all (fun c => isCode c || c.before args0 about1) = true := by decide +kernel
set_option maxRecDepth 65536 in
theorem w_t3 : ((words1.drop 24).drop 24).all (fun c => isCode c || c.before args0 about1) = true := by decide +kernel
theorem w_tables : (allAtoms (Jvm.Cond.code x code maxLocals ret :: tables_1)).before args0 about1 = true := by
  rw [allAtoms_all]
  show words1.all (fun c => c.before args0 about1) = true
  refine all_split ?_ w_codes
  rw [← List.take_append_drop 24 words1, List.all_append, w_t1, ← List.take_append_drop 24 (words1.drop 24), List.all_append, w_t2, w_t3]
  rfl
set_option maxRecDepth 65536 in
theorem w_case : (Jvm.Cond.and given_1 narrow_1).before args0 about1 = true := by decide +kernel
theorem w_applies : (headSpec (Jvm.Cond.code x code maxLocals ret :: tables_1) room_1).applies x e0.platform about1 = true :=
  (Spec.applies_iff w_frames).mpr ⟨w_running, w_runnable, w_alone, w_named, w_hears, w_ripe, w_room, w_tables⟩
theorem atStart : AtStart classFile x code maxLocals ret World_1 tables_1 room_1 Calls_1 rest_1 Pre_1 launch0 p0 e0 about1 theMethod args0 below0 :=
  ⟨lists_1, trivial, launch0.admits_env _ _ _, launch0.least_env, fairChoices_fair.cas, fairChoices_fair.clock, w_frames, w_args, w_heap, w_applies, trivial, trivial, w_case⟩
end start1
theorem witness_1 : WitnessClaimed_1 := ⟨start1.p0, start1.e0, start1.about1, start1.theMethod, start1.args0, start1.below0, start1.atStart⟩
end Jvm.Pilot.@@N@@
