import JvmDerived
import JvmDerived.Pilot.@@N@@Statement
import JvmDerived.Pilot.@@N@@Code
set_option linter.unusedVariables false
set_option linter.unusedSimpArgs false
namespace Jvm.Pilot.@@N@@
open Jvm Jvm.ClassFile Sem Op Lib Jvm.Free Jvm.Stand Jvm.LawKit Jvm.RoadKit Bundle Jvm.Pilot.@@N@@.Jvm.D
/-! own layer 1: doubles as whole numbers of least units (2 to the -1074) -/
section OwnFp
open Jvm.FP Jvm.FP.Core Jvm.Free.Fl
/-- a power of two -/
def P2 (j : Nat) : Int := ((2 ^ j : Nat) : Int)
theorem P2_pos (j : Nat) : 0 < P2 j := Int.natCast_pos.mpr (Nat.two_pow_pos j)
theorem P2_add (i j : Nat) : P2 (i + j) = P2 i * P2 j := by unfold P2; rw [Nat.pow_add, Int.natCast_mul]
theorem P2_one64 : (one64 : Int) = P2 1074 := rfl
/-- the value of a double in least units -/
def Zv (a : UInt64) : Int := zval b64 (val64 a)
/-- some finite double has this value -/
def Rep (V : Int) : Prop := ∃ x : UInt64, DFin x ∧ Zv x = V
theorem own_qmax : b64.qmax = 971 := by decide
theorem own_signed_abs (c : Int) : signed (decide (c < 0)) c.natAbs = c := by
  unfold signed
  by_cases q : c < 0
  · simp [q]; omega
  · simp [q]; omega
theorem rep_core (s : Bool) {c j : Nat} (hc : c < 2 ^ 53) (hj : j ≤ 2045) : ∃ x : UInt64, DFin x ∧ Zv x = signed s (c * 2 ^ j) := by
  obtain ⟨c', q', h1, h2⟩ := round_exact (f := b64) good_b64 s (c := c) (q := (j : Int) - 1074) hc (by rw [qmin_b64]; omega) (by rw [own_qmax]; omega)
  refine ⟨of64 (round b64 (.fin s c ((j : Int) - 1074))), ⟨s, c', q', ?_⟩, ?_⟩
  · rw [val64_of64 (round_fits good_b64 _), h1]
  · unfold Zv
    rw [val64_of64 (round_fits good_b64 _), h1]
    show signed s (inUnits c' q' b64.qmin) = _
    rw [h2]
    unfold inUnits
    rw [show ((j : Int) - 1074 - b64.qmin).toNat = j by rw [qmin_b64]; omega]
theorem rep_mk (c : Int) (j : Nat) (hc : c.natAbs ≤ 2 ^ 53) (hj : j ≤ 2044) : Rep (c * P2 j) := by
  by_cases h : c.natAbs < 2 ^ 53
  · obtain ⟨x, h1, h2⟩ := rep_core (decide (c < 0)) h (j := j) (by omega)
    refine ⟨x, h1, h2.trans ?_⟩
    rw [signed_mul, own_signed_abs]; rfl
  · have h' : c.natAbs = 2 ^ 53 := by omega
    obtain ⟨x, h1, h2⟩ := rep_core (decide (c < 0)) (c := 2 ^ 52) (by decide) (j := j + 1) (by omega)
    refine ⟨x, h1, h2.trans ?_⟩
    have e : 2 ^ 52 * 2 ^ (j + 1) = c.natAbs * 2 ^ j := by
      rw [h', Nat.pow_add 2 j 1]
      generalize 2 ^ j = t
      omega
    rw [e, signed_mul, own_signed_abs]; rfl
theorem rep_of {V : Int} (c : Int) (j : Nat) (hc : c.natAbs ≤ 2 ^ 53) (hj : j ≤ 2044) (h : V = c * P2 j) : Rep V := h ▸ rep_mk c j hc hj
theorem rep_int (n : Int) (h : n.natAbs ≤ 2 ^ 53) : Rep (n * P2 1074) := rep_mk n 1074 h (by decide)
theorem rep_zero : Rep 0 := rep_of 0 0 (by decide) (by decide) (by simp)
theorem rep_self {x : UInt64} (h : DFin x) : Rep (Zv x) := ⟨x, h, rfl⟩
theorem rep_neg {V : Int} (h : Rep V) : Rep (-V) := by
  obtain ⟨x, hx, rfl⟩ := h
  obtain ⟨s, c, q, hv⟩ := hx
  refine ⟨Core.dneg x, ⟨!s, c, q, ?_⟩, ?_⟩
  · rw [Core.val64_dneg, hv]; rfl
  · unfold Zv; rw [Core.val64_dneg, zval_negate]
/-- between two finite values: finite -/
theorem fin_between {x : UInt64} (hn : val64 x ≠ .nan) {L H : Int} (hL : Rep L) (hH : Rep H) (h1 : L ≤ Zv x) (h2 : Zv x ≤ H) : DFin x := by
  cases hv : val64 x with
  | nan => exact absurd hv hn
  | fin s c q => exact ⟨s, c, q, hv⟩
  | inf s =>
    exfalso
    obtain ⟨y, hy, rfl⟩ := hL
    obtain ⟨z, hz, rfl⟩ := hH
    have a1 := hy.zval_lt
    have a2 := hz.zval_lt
    have e : Zv x = signed s (b64.tails * 2 ^ (b64.exps - 2)) := by unfold Zv; rw [hv]; rfl
    have b1 : signed (sgn (val64 y)) (zmag b64 (val64 y)) ≤ signed s (b64.tails * 2 ^ (b64.exps - 2)) := e ▸ h1
    have b2 : signed s (b64.tails * 2 ^ (b64.exps - 2)) ≤ signed (sgn (val64 z)) (zmag b64 (val64 z)) := e ▸ h2
    generalize b64.tails * 2 ^ (b64.exps - 2) = top at *
    generalize zmag b64 (val64 y) = my at *
    generalize zmag b64 (val64 z) = mz at *
    generalize sgn (val64 y) = sy at *
    generalize sgn (val64 z) = sz at *
    cases s <;> cases sy <;> cases sz <;> simp only [signed, if_true, Bool.false_eq_true, if_false] at b1 b2 <;> omega
theorem not_nan {x : UInt64} (h : Core.dIsNaN x = false) : val64 x ≠ .nan := (notNaN_iff x).mp h
theorem nn_of {x : UInt64} (h : DFin x) : NoNaN64 x := (fin64_core.mpr h).noNaN
/-! sums -/
theorem add_le {a b : UInt64} (ha : DFin a) (hb : DFin b) {V : Int} (hV : Rep V) (h : Zv a + Zv b ≤ V) : Zv (FP.dadd a b) ≤ V := by
  obtain ⟨x, hx, rfl⟩ := hV
  unfold Zv at h ⊢
  rw [val64_dadd]
  exact sum_le good_b64 ha hb (val64_fits a) (val64_fits b) (val64_fits x) hx.ne_nan h
theorem add_ge {a b : UInt64} (ha : DFin a) (hb : DFin b) {V : Int} (hV : Rep V) (h : V ≤ Zv a + Zv b) : V ≤ Zv (FP.dadd a b) := by
  obtain ⟨x, hx, rfl⟩ := hV
  unfold Zv at h ⊢
  rw [val64_dadd]
  exact sum_ge good_b64 ha hb (val64_fits a) (val64_fits b) (val64_fits x) hx.ne_nan h
theorem add_in {a b : UInt64} (ha : DFin a) (hb : DFin b) {L H : Int} (hL : Rep L) (hH : Rep H) (h1 : L ≤ Zv a + Zv b) (h2 : Zv a + Zv b ≤ H) : DFin (FP.dadd a b) ∧ L ≤ Zv (FP.dadd a b) ∧ Zv (FP.dadd a b) ≤ H :=
  ⟨fin_between (not_nan (Core.dadd_out ha.notNaN hb)) hL hH (add_ge ha hb hL h1) (add_le ha hb hH h2), add_ge ha hb hL h1, add_le ha hb hH h2⟩
theorem add_eq {a b : UInt64} (ha : DFin a) (hb : DFin b) {V : Int} (hV : Rep V) (h : Zv a + Zv b = V) : DFin (FP.dadd a b) ∧ Zv (FP.dadd a b) = V := by
  obtain ⟨h1, h2, h3⟩ := add_in ha hb hV hV (Int.le_of_eq h.symm) (Int.le_of_eq h)
  exact ⟨h1, Int.le_antisymm h3 h2⟩
/-! signs -/
theorem neg_eq {a : UInt64} (ha : DFin a) : DFin (FP.dneg a) ∧ Zv (FP.dneg a) = -Zv a := by
  obtain ⟨s, c, q, hv⟩ := ha
  constructor
  · exact ⟨!s, c, q, by rw [FP.val64_dneg, hv]; rfl⟩
  · unfold Zv; rw [FP.val64_dneg, zval_negate]
theorem cneg_eq {a : UInt64} (ha : DFin a) : DFin (Core.dneg a) ∧ Zv (Core.dneg a) = -Zv a := by
  obtain ⟨s, c, q, hv⟩ := ha
  constructor
  · exact ⟨!s, c, q, by rw [Core.val64_dneg, hv]; rfl⟩
  · unfold Zv; rw [Core.val64_dneg, zval_negate]
/-! differences -/
theorem sub_in {a b : UInt64} (ha : DFin a) (hb : DFin b) {L H : Int} (hL : Rep L) (hH : Rep H) (h1 : L ≤ Zv a - Zv b) (h2 : Zv a - Zv b ≤ H) : DFin (FP.dsub a b) ∧ L ≤ Zv (FP.dsub a b) ∧ Zv (FP.dsub a b) ≤ H := by
  obtain ⟨n1, n2⟩ := cneg_eq hb
  have e : FP.dsub a b = FP.dadd a (Core.dneg b) := Core.dsub_eq a b
  rw [e]
  exact add_in ha n1 hL hH (by rw [n2]; omega) (by rw [n2]; omega)
theorem sub_eq {a b : UInt64} (ha : DFin a) (hb : DFin b) {V : Int} (hV : Rep V) (h : Zv a - Zv b = V) : DFin (FP.dsub a b) ∧ Zv (FP.dsub a b) = V := by
  obtain ⟨h1, h2, h3⟩ := sub_in ha hb hV hV (Int.le_of_eq h.symm) (Int.le_of_eq h)
  exact ⟨h1, Int.le_antisymm h3 h2⟩
/-! products -/
theorem own_q2 : (b64.qmin - 2 * b64.qmin).toNat = 1074 := by rw [qmin_b64]; decide
theorem mul_le {a b : UInt64} (ha : DFin a) (hb : DFin b) {V : Int} (hV : Rep V) (h : Zv a * Zv b ≤ V * P2 1074) : Zv (FP.dmul a b) ≤ V := by
  obtain ⟨x, hx, rfl⟩ := hV
  obtain ⟨s, c, q, hva⟩ := ha
  obtain ⟨t, d, r, hvb⟩ := hb
  have fa := val64_fits a
  have fb := val64_fits b
  unfold Zv at h ⊢
  rw [hva] at fa h
  rw [hvb] at fb h
  obtain ⟨p1, p2, p3⟩ := product_units fa fb
  rw [val64_dmul, hva, hvb, p1]
  refine zval_round_le good_b64 (val64_fits x) hx.ne_nan (e0 := 2 * b64.qmin) (by rw [qmin_b64]; decide) p2 ?_
  rw [p3, signed_xor, own_q2]
  exact h
theorem mul_ge {a b : UInt64} (ha : DFin a) (hb : DFin b) {V : Int} (hV : Rep V) (h : V * P2 1074 ≤ Zv a * Zv b) : V ≤ Zv (FP.dmul a b) := by
  obtain ⟨x, hx, rfl⟩ := hV
  obtain ⟨s, c, q, hva⟩ := ha
  obtain ⟨t, d, r, hvb⟩ := hb
  have fa := val64_fits a
  have fb := val64_fits b
  unfold Zv at h ⊢
  rw [hva] at fa h
  rw [hvb] at fb h
  obtain ⟨p1, p2, p3⟩ := product_units fa fb
  rw [val64_dmul, hva, hvb, p1]
  refine zval_round_ge good_b64 (val64_fits x) hx.ne_nan (e0 := 2 * b64.qmin) (by rw [qmin_b64]; decide) p2 ?_
  rw [p3, signed_xor, own_q2]
  exact h
theorem mul_in {a b : UInt64} (ha : DFin a) (hb : DFin b) {L H : Int} (hL : Rep L) (hH : Rep H) (h1 : L * P2 1074 ≤ Zv a * Zv b) (h2 : Zv a * Zv b ≤ H * P2 1074) : DFin (FP.dmul a b) ∧ L ≤ Zv (FP.dmul a b) ∧ Zv (FP.dmul a b) ≤ H :=
  ⟨fin_between (not_nan (Core.dmul_out ha hb)) hL hH (mul_ge ha hb hL h1) (mul_le ha hb hH h2), mul_ge ha hb hL h1, mul_le ha hb hH h2⟩
theorem mul_eq {a b : UInt64} (ha : DFin a) (hb : DFin b) {V : Int} (hV : Rep V) (h : Zv a * Zv b = V * P2 1074) : DFin (FP.dmul a b) ∧ Zv (FP.dmul a b) = V := by
  obtain ⟨h1, h2, h3⟩ := mul_in ha hb hV hV (Int.le_of_eq h.symm) (Int.le_of_eq h)
  exact ⟨h1, Int.le_antisymm h3 h2⟩
/-! quotients by a positive number -/
theorem own_sgn_le {s t : Bool} {A V B r : Nat} (hB : 0 < B) (hle : A ≤ V * B → r ≤ V) (hge : V * B ≤ A → V ≤ r) (h : signed s A ≤ signed t V * (B : Int)) : signed s r ≤ signed t V := by
  rw [← signed_mul] at h
  have hz : V * B = 0 → V = 0 := fun q => by rcases Nat.mul_eq_zero.mp q with q | q <;> omega
  generalize V * B = vb at *
  cases s <;> cases t <;> simp only [signed, if_true, Bool.false_eq_true, if_false] at h ⊢
  · have := hle (by omega); omega
  · have := hle (by omega); have := hz (by omega); omega
  · omega
  · have := hge (by omega); omega
theorem own_sgn_ge {s t : Bool} {A V B r : Nat} (hB : 0 < B) (hle : A ≤ V * B → r ≤ V) (hge : V * B ≤ A → V ≤ r) (h : signed t V * (B : Int) ≤ signed s A) : signed t V ≤ signed s r := by
  rw [← signed_mul] at h
  have hz : V * B = 0 → V = 0 := fun q => by rcases Nat.mul_eq_zero.mp q with q | q <;> omega
  generalize V * B = vb at *
  cases s <;> cases t <;> simp only [signed, if_true, Bool.false_eq_true, if_false] at h ⊢
  · have := hge (by omega); omega
  · omega
  · have := hle (by omega); have := hz (by omega); omega
  · have := hle (by omega); omega
theorem div_core {a b : UInt64} (ha : DFin a) (hb : DFin b) (hp : 0 < Zv b) (x : UInt64) (hx : DFin x) :
    ∃ (s : Bool) (A B : Nat), (B : Int) = Zv b ∧ signed s A = Zv a * P2 1074 ∧ 0 < B ∧ ∃ r, Zv (FP.ddiv a b) = signed s r ∧ (A ≤ zmag b64 (val64 x) * B → r ≤ zmag b64 (val64 x)) ∧ (zmag b64 (val64 x) * B ≤ A → zmag b64 (val64 x) ≤ r) := by
  obtain ⟨s, c, q, hva⟩ := ha
  obtain ⟨t, d, r, hvb⟩ := hb
  have fa := val64_fits a
  have fb := val64_fits b
  rw [hva] at fa
  rw [hvb] at fb
  have f1 := fa.2.1
  have f2 := fb.2.1
  have zb : Zv b = signed t (inUnits d r b64.qmin) := by unfold Zv; rw [hvb]; rfl
  have hd : 0 < d := by
    rcases Nat.eq_zero_or_pos d with q0 | q0
    · rw [zb, q0] at hp
      have : inUnits 0 r b64.qmin = 0 := Nat.zero_mul _
      rw [this, signed_zero] at hp; omega
    · exact q0
  have ht : t = false := by
    cases t with
    | false => rfl
    | true => rw [zb] at hp; simp only [signed, if_true] at hp; omega
  subst ht
  have hB : 0 < inUnits d r b64.qmin := Nat.mul_pos hd (Nat.two_pow_pos _)
  have e1 : inUnits c (q - r) (2 * b64.qmin - r) = inUnits c q b64.qmin * 2 ^ 1074 := by
    unfold inUnits
    rw [Nat.mul_assoc, ← Nat.pow_add]
    rw [qmin_b64] at *
    congr 2; omega
  have e2 : 2 ^ (b64.qmin - (2 * b64.qmin - r)).toNat * d = inUnits d r b64.qmin := by
    unfold inUnits
    rw [Nat.mul_comm]; congr 2; omega
  have hv : val64 (FP.ddiv a b) = roundRatio b64 s c d (q - r) := by
    rw [val64_ddiv, hva, hvb]
    show (if d = 0 then _ else roundRatio b64 (s != false) c d (q - r)) = _
    rw [if_neg (by omega)]
    cases s <;> rfl
  refine ⟨s, inUnits c q b64.qmin * 2 ^ 1074, inUnits d r b64.qmin, ?_, ?_, hB, zmag b64 (roundRatio b64 s c d (q - r)), ?_, ?_, ?_⟩
  · rw [zb]; simp only [signed, Bool.false_eq_true, if_false]
  · unfold Zv; rw [signed_mul, hva]; rfl
  · unfold Zv; rw [hv]; show signed (sgn _) _ = _; rw [sgn_roundRatio]
  · intro h
    refine zmag_roundRatio_le good_b64 hd (val64_fits x) hx.ne_nan (e0 := 2 * b64.qmin - r) (by have := qmin_b64; omega) (by have := qmin_b64; omega) ?_
    rw [e1, Nat.mul_assoc, e2]; exact h
  · intro h
    refine zmag_roundRatio_ge good_b64 hd (val64_fits x) (e0 := 2 * b64.qmin - r) (by have := qmin_b64; omega) (by have := qmin_b64; omega) ?_
    rw [e1, Nat.mul_assoc, e2]; exact h
theorem div_le {a b : UInt64} (ha : DFin a) (hb : DFin b) (hp : 0 < Zv b) {V : Int} (hV : Rep V) (h : Zv a * P2 1074 ≤ V * Zv b) : Zv (FP.ddiv a b) ≤ V := by
  obtain ⟨x, hx, rfl⟩ := hV
  obtain ⟨s, A, B, h1, h2, h3, r, h4, h5, h6⟩ := div_core ha hb hp x hx
  rw [h4]
  rw [← h2, ← h1] at h
  exact own_sgn_le h3 h5 h6 h
theorem div_ge {a b : UInt64} (ha : DFin a) (hb : DFin b) (hp : 0 < Zv b) {V : Int} (hV : Rep V) (h : V * Zv b ≤ Zv a * P2 1074) : V ≤ Zv (FP.ddiv a b) := by
  obtain ⟨x, hx, rfl⟩ := hV
  obtain ⟨s, A, B, h1, h2, h3, r, h4, h5, h6⟩ := div_core ha hb hp x hx
  rw [h4]
  rw [← h2, ← h1] at h
  exact own_sgn_ge h3 h5 h6 h
theorem pos_nz {b : UInt64} (hp : 0 < Zv b) : ¬ DZero b := fun q => by
  have := q.zval
  unfold Zv at hp
  omega
theorem div_in {a b : UInt64} (ha : DFin a) (hb : DFin b) (hp : 0 < Zv b) {L H : Int} (hL : Rep L) (hH : Rep H) (h1 : L * Zv b ≤ Zv a * P2 1074) (h2 : Zv a * P2 1074 ≤ H * Zv b) : DFin (FP.ddiv a b) ∧ L ≤ Zv (FP.ddiv a b) ∧ Zv (FP.ddiv a b) ≤ H :=
  ⟨fin_between (not_nan (Core.ddiv_out ha.notNaN hb (pos_nz hp))) hL hH (div_ge ha hb hp hL h1) (div_le ha hb hp hH h2), div_ge ha hb hp hL h1, div_le ha hb hp hH h2⟩
theorem div_eq {a b : UInt64} (ha : DFin a) (hb : DFin b) (hp : 0 < Zv b) {V : Int} (hV : Rep V) (h : Zv a * P2 1074 = V * Zv b) : DFin (FP.ddiv a b) ∧ Zv (FP.ddiv a b) = V := by
  obtain ⟨h1, h2, h3⟩ := div_in ha hb hp hV hV (Int.le_of_eq h.symm) (Int.le_of_eq h)
  exact ⟨h1, Int.le_antisymm h3 h2⟩
/-! whole numbers -/
theorem l2d_in {n : Int64} {L H : Int} (hL : Rep L) (hH : Rep H) (h1 : L ≤ n.toInt * P2 1074) (h2 : n.toInt * P2 1074 ≤ H) : L ≤ Zv (FP.l2d n) ∧ Zv (FP.l2d n) ≤ H := by
  obtain ⟨x, hx, rfl⟩ := hL
  obtain ⟨y, hy, rfl⟩ := hH
  exact ⟨l2d_zval_ge hx.ne_nan h1, l2d_zval_le hy.ne_nan h2⟩
theorem l2d_dfin (n : Int64) : DFin (FP.l2d n) := Core.l2d_fin n
theorem i2d_dfin (n : Int32) : DFin (FP.i2d n) := Core.i2d_fin n
theorem l2d_rep {n : Int64} (h : Rep (n.toInt * P2 1074)) : Zv (FP.l2d n) = n.toInt * P2 1074 := by
  obtain ⟨h1, h2⟩ := l2d_in h h (Int.le_refl _) (Int.le_refl _)
  exact Int.le_antisymm h2 h1
theorem l2d_eq {n : Int64} (h : n.toInt.natAbs ≤ 2 ^ 53) : Zv (FP.l2d n) = n.toInt * P2 1074 := l2d_rep (rep_int _ h)
theorem i2d_eq (n : Int32) : Zv (FP.i2d n) = n.toInt * P2 1074 := by
  rw [i2d_w, l2d_eq (by rw [Int32.toInt_toInt64]; have := int32_abs n; omega), Int32.toInt_toInt64]
theorem d2l_eq {a : UInt64} (ha : DFin a) {n : Int} (h : Zv a = n * P2 1074) (h1 : -9223372036854775808 ≤ n) (h2 : n < 9223372036854775808) : (FP.d2l a).toInt = n := by
  have e := d2l_val ha.ne_nan
  have z : signed (sgn (val64 a)) (zmag b64 (val64 a)) = n * (one64 : Int) := h
  have hp := one64_pos
  have hm : zmag b64 (val64 a) = n.natAbs * one64 := by
    have q := congrArg Int.natAbs z
    rw [natAbs_signed, Int.natAbs_mul] at q
    exact q
  have hs : signed (sgn (val64 a)) n.natAbs = n := by
    rw [hm, signed_mul] at z
    exact Int.eq_of_mul_eq_mul_right (by omega) z
  rw [hm, Nat.mul_div_cancel _ hp, hs] at e
  show (Core.d2l a).toInt = n
  rw [e]; omega
/-! comparisons -/
theorem cmp_lt {a b : UInt64} (ha : DFin a) (hb : DFin b) (o : CmpOp) (h : Zv a < Zv b) : cmpValue (FP.dcmp a b) o = -1 := by
  rw [show FP.dcmp a b = some .lt from dcmp_lt.mpr ⟨ha.ne_nan, hb.ne_nan, h⟩]; rfl
theorem cmp_eq {a b : UInt64} (ha : DFin a) (hb : DFin b) (o : CmpOp) (h : Zv a = Zv b) : cmpValue (FP.dcmp a b) o = 0 := by
  rw [show FP.dcmp a b = some .eq from dcmp_eq.mpr ⟨ha.ne_nan, hb.ne_nan, h⟩]; rfl
theorem cmp_gt {a b : UInt64} (ha : DFin a) (hb : DFin b) (o : CmpOp) (h : Zv b < Zv a) : cmpValue (FP.dcmp a b) o = 1 := by
  rw [show FP.dcmp a b = some .gt from dcmp_gt.mpr ⟨ha.ne_nan, hb.ne_nan, h⟩]; rfl
/-! constants -/
theorem zero_fin : DFin 0 := (fin_bits _).mpr (by decide)
theorem zero_z : Zv 0 = 0 := zval64_zero
theorem one_fin : DFin 4607182418800017408 := (fin_bits _).mpr (by decide)
theorem one_z : Zv 4607182418800017408 = 1 * P2 1074 := by unfold Zv P2; decide +kernel
end OwnFp

/-! own layer 2: walking forward -/
section OwnGo
open Jvm.Free.Fl
variable {p : Program} {l : Launch} {e : Env} {R : Room} {s : State} {m : MethodId} {args : Array Value} {below : List Frame} {meth : Method} {c : Code} {T : State} {locs : List Loc} {cells slots : Nat} {Q : Outcome → State → Prop}
/-- from here the run comes to an end that Q allows -/
def Go (p : Program) (e : Env) (below : List Frame) (Q : Outcome → State → Prop) (S : State) : Prop :=
  ∃ s₂ o, Steps p.tables e below S s₂ ∧ s₂.status = .running ∧ Ended s₂ below o ∧ Q o s₂
theorem Go.of {S S' : State} (h : ∀ t, Steps p.tables e below S' t → Steps p.tables e below S t) (g : Go p e below Q S') : Go p e below Q S := by
  obtain ⟨s₂, o, h1, h2⟩ := g
  exact ⟨s₂, o, h _ h1, h2⟩
theorem Go.tr {S S' : State} (h : Steps p.tables e below S S') (g : Go p e below Q S') : Go p e below Q S := Go.of (fun _ k => h.trans k) g
abbrev Ret (s : State) (Qv : Option Value → Heap → List Loc → Prop) (kc ks : Nat) : Outcome → State → Prop := fun o U' => ∃ v L, o = .returned v ∧ Qv v U'.heap L ∧ FrameEnd s o U' L kc ks
theorem Go.done (X : Stand p l e R s m args below meth c T locs cells slots) {g : JFrame} {v : Option Value} (hv : meth.sig.returnType = none → v = none) (hlocks : meth.locks = false)
    (hst : ∀ fs, (∀ (f : JFrame) (acts : List Action), f.method = m → f.locked = none → f.entered = [] → (doReturn e (T.setTop f) acts v).1 = T.setFrames fs) → Steps p.tables e below (T.setTop g) (T.setFrames fs))
    {Qv : Option Value → Heap → List Loc → Prop} {kc ks : Nat} (hc : cells ≤ kc) (hk : slots ≤ ks) (hq : Qv v T.heap locs) : Go p e below (Ret s Qv kc ks) (T.setTop g) := by
  obtain ⟨fs, hr, hrun, hended, hW, hsame⟩ := X.leave (v := v) hv hlocks
  exact ⟨_, _, hst fs hr, hrun, hended, v, locs, rfl, hq, ⟨_, rfl⟩, hW, hsame.mono hc hk⟩
theorem Go.retV (X : Stand p l e R s m args below meth c T locs cells slots) (hx : p.tables.exec = Jvm.exec) {pc : Nat} {Ls : Array Slot} (hret : meth.sig.returnType = none) (hlk : meth.locks = false) (hd : decode c.code pc = .ok (.return_, 1))
    {Qv : Option Value → Heap → List Loc → Prop} {kc ks : Nat} (hc : cells ≤ kc) (hk : slots ≤ ks) (hq : Qv none T.heap locs) : Go p e below (Ret s Qv kc ks) (T.setTop (mkF m pc Ls [])) :=
  Go.done X (fun _ => rfl) hlk (fun _ hr => X.returnOut hx hret hd hr) hc hk hq
theorem Go.retL (X : Stand p l e R s m args below meth c T locs cells slots) (hx : p.tables.exec = Jvm.exec) {pc : Nat} {Ls : Array Slot} {st : List Value} {z : Int64} (hret : meth.sig.returnType = some .long) (hlk : meth.locks = false) (hd : decode c.code pc = .ok (.lreturn, 1))
    {Qv : Option Value → Heap → List Loc → Prop} {kc ks : Nat} (hc : cells ≤ kc) (hk : slots ≤ ks) (hq : Qv (some (.long z)) T.heap locs) : Go p e below (Ret s Qv kc ks) (T.setTop (mkF m pc Ls ((.long z) :: st))) :=
  Go.done X (fun h => by rw [hret] at h; cases h) hlk (fun _ hr => retOut X hx hret rfl (Or.inr (Or.inl ⟨rfl, rfl, z, rfl⟩)) hd hr) hc hk hq
theorem Go.retD (X : Stand p l e R s m args below meth c T locs cells slots) (hx : p.tables.exec = Jvm.exec) {pc : Nat} {Ls : Array Slot} {st : List Value} {z : UInt64} (hret : meth.sig.returnType = some .double) (hlk : meth.locks = false) (hd : decode c.code pc = .ok (.dreturn, 1))
    {Qv : Option Value → Heap → List Loc → Prop} {kc ks : Nat} (hc : cells ≤ kc) (hk : slots ≤ ks) (hq : Qv (some (.double z)) T.heap locs) : Go p e below (Ret s Qv kc ks) (T.setTop (mkF m pc Ls ((.double z) :: st))) :=
  Go.done X (fun h => by rw [hret] at h; cases h) hlk (fun _ hr => retOut X hx hret rfl (Or.inr (Or.inr (Or.inl ⟨rfl, rfl, z, rfl⟩))) hd hr) hc hk hq
theorem Go.retF (X : Stand p l e R s m args below meth c T locs cells slots) (hx : p.tables.exec = Jvm.exec) {pc : Nat} {Ls : Array Slot} {st : List Value} {z : UInt32} (hret : meth.sig.returnType = some .float) (hlk : meth.locks = false) (hd : decode c.code pc = .ok (.freturn, 1))
    {Qv : Option Value → Heap → List Loc → Prop} {kc ks : Nat} (hc : cells ≤ kc) (hk : slots ≤ ks) (hq : Qv (some (.float z)) T.heap locs) : Go p e below (Ret s Qv kc ks) (T.setTop (mkF m pc Ls ((.float z) :: st))) :=
  Go.done X (fun h => by rw [hret] at h; cases h) hlk (fun _ hr => retOut X hx hret rfl (Or.inr (Or.inr (Or.inr (Or.inl ⟨rfl, rfl, z, rfl⟩)))) hd hr) hc hk hq
theorem Go.retI (X : Stand p l e R s m args below meth c T locs cells slots) (hx : p.tables.exec = Jvm.exec) {pc : Nat} {Ls : Array Slot} {st : List Value} {z : Int32} (hret : meth.sig.returnType = some .int) (hlk : meth.locks = false) (hd : decode c.code pc = .ok (.ireturn, 1))
    {Qv : Option Value → Heap → List Loc → Prop} {kc ks : Nat} (hc : cells ≤ kc) (hk : slots ≤ ks) (hq : Qv (some (.int z)) T.heap locs) : Go p e below (Ret s Qv kc ks) (T.setTop (mkF m pc Ls ((.int z) :: st))) :=
  Go.done X (fun h => by rw [hret] at h; cases h) hlk (fun _ hr => retOut X hx hret rfl (Or.inl ⟨rfl, Or.inl rfl, z, rfl⟩) hd hr) hc hk hq
theorem Go.retZ (X : Stand p l e R s m args below meth c T locs cells slots) (hx : p.tables.exec = Jvm.exec) {pc : Nat} {Ls : Array Slot} {st : List Value} {z : Int32} (hret : meth.sig.returnType = some .boolean) (hlk : meth.locks = false) (hd : decode c.code pc = .ok (.ireturn, 1)) (hz : z = 0 ∨ z = 1)
    {Qv : Option Value → Heap → List Loc → Prop} {kc ks : Nat} (hc : cells ≤ kc) (hk : slots ≤ ks) (hq : Qv (some (.int z)) T.heap locs) : Go p e below (Ret s Qv kc ks) (T.setTop (mkF m pc Ls ((.int z) :: st))) :=
  Go.done X (fun h => by rw [hret] at h; cases h) hlk (fun _ hr => retOut X hx hret (by rcases hz with rfl | rfl <;> rfl) (Or.inl ⟨rfl, Or.inr (Or.inl rfl), z, rfl⟩) hd hr) hc hk hq
theorem Go.retA (X : Stand p l e R s m args below meth c T locs cells slots) (hx : p.tables.exec = Jvm.exec) {pc : Nat} {Ls : Array Slot} {st : List Value} {v : Value} {t : FieldType} (hret : meth.sig.returnType = some t) (hlk : meth.locks = false) (hd : decode c.code pc = .ok (.areturn, 1)) (ht : t.isReference = true) (hv : v.isRef = true) (hn : narrow t v = v)
    {Qv : Option Value → Heap → List Loc → Prop} {kc ks : Nat} (hc : cells ≤ kc) (hk : slots ≤ ks) (hq : Qv (some v) T.heap locs) : Go p e below (Ret s Qv kc ks) (T.setTop (mkF m pc Ls (v :: st))) :=
  Go.done X (fun h => by rw [hret] at h; cases h) hlk (fun _ hr => retOut X hx hret hn (Or.inr (Or.inr (Or.inr (Or.inr ⟨rfl, ht, hv⟩)))) hd hr) hc hk hq
theorem enter {l : Launch} {Z : State} {y : MethodName} {bytes : ByteArray} {maxL : Nat} {ret : Option FieldType} {ws : List Jvm.Cond} {rm : Room} {as' : Array Value} {h0 : Heap} {Qv : Option Value → Heap → List Loc → Prop} {Ls : Array Slot} {kc ks : Nat}
    (hpn : plainFor y = true) (hef : ∀ m, entryFrame m as' maxL = mkF m 0 Ls [])
    (body : ∀ (p : Program) (e : Env) (s : State) (m : MethodId) (below : List Frame) (meth : Method) (c : Code) (s₁ : State), p.tables.exec = Jvm.exec → c.code = bytes → c.maxLocals = maxL → s.vm.findClass y.cls = some m.cls → meth.name = y.name → meth.sig.returnType = ret → meth.locks = false → Z.Warmed39 s.vm →
      Stand p l e rm s m as' below meth c s₁ [] 0 0 → s₁.heap = h0 → Go p e below (Ret s Qv kc ks) (s₁.setTop (mkF m 0 Ls []))) :
    MetFree l y (head1 (Jvm.Cond.code y bytes maxL ret :: ws) rm) (fun a U => a = as' ∧ Z.Warmed39 U.vm ∧ U.heap = h0) (fun _ _ _ _ _ => True) (fun _ U o U' => ∃ v L, o = .returned v ∧ Qv v U'.heap L ∧ FrameEnd U o U' L kc ks) := by
  refine MetFree.of_bodySF hpn hisR ?_
  intro p e s m args below meth c s₁ Bd hml0 hP hK
  obtain ⟨rfl, hZ, hh⟩ := hP
  have e0 : s₁.heap = h0 := by rw [← hh, Bd.state]; rfl
  obtain ⟨s₂, o, h1, h2, h3, h4⟩ := body p e s m below meth c s₁ Bd.exec Bd.bytes hml0 (findClass_of_methodNamed Bd.named) (name_of_methodNamed Bd.named Bd.method).1 Bd.returns (BodyLoose.notSynchronized Bd) hZ (Stand.of_body Bd) e0
  exact ⟨s₂, o, castTop (hef m) h1, h2, h3, h4⟩
theorem Go.iload (h : At T m c below) (hx : p.tables.exec = Jvm.exec) {pc q : Nat} {Ls : Array Slot} {st : List Value} {k : Nat} {v : Int32} (hd : decode c.code pc = .ok (.iload k, 2)) (hl : Ls[k]? = some (.val (.int v))) (hq : pc + 2 = q) (g : Go p e below Q (T.setTop (mkF m q Ls (.int v :: st)))) : Go p e below Q (T.setTop (mkF m pc Ls st)) := by
  subst hq; exact Go.of (fun _ r => XS.iload h hx rfl hd hl r) g
theorem Go.iloadN (h : At T m c below) (hx : p.tables.exec = Jvm.exec) {pc q : Nat} {Ls : Array Slot} {st : List Value} {k : Fin 4} {v : Int32} (hd : decode c.code pc = .ok (.iload_n k, 1)) (hl : Ls[k.val]? = some (.val (.int v))) (hq : pc + 1 = q) (g : Go p e below Q (T.setTop (mkF m q Ls (.int v :: st)))) : Go p e below Q (T.setTop (mkF m pc Ls st)) := by
  subst hq; exact Go.of (fun _ r => XS.iloadN h hx rfl hd hl r) g
theorem Go.istore (h : At T m c below) (hx : p.tables.exec = Jvm.exec) {pc q : Nat} {Ls : Array Slot} {st : List Value} {k : Nat} {v : Int32} {l2 : Array Slot} (hd : decode c.code pc = .ok (.istore k, 2)) (hl : storeLocals Ls k (.int v) = some l2) (hq : pc + 2 = q) (g : Go p e below Q (T.setTop (mkF m q l2 st))) : Go p e below Q (T.setTop (mkF m pc Ls (.int v :: st))) := by
  subst hq; exact Go.of (fun _ r => XS.istore h hx rfl hd rfl hl r) g
theorem Go.istoreN (h : At T m c below) (hx : p.tables.exec = Jvm.exec) {pc q : Nat} {Ls : Array Slot} {st : List Value} {k : Fin 4} {v : Int32} {l2 : Array Slot} (hd : decode c.code pc = .ok (.istore_n k, 1)) (hl : storeLocals Ls k.val (.int v) = some l2) (hq : pc + 1 = q) (g : Go p e below Q (T.setTop (mkF m q l2 st))) : Go p e below Q (T.setTop (mkF m pc Ls (.int v :: st))) := by
  subst hq; exact Go.of (fun _ r => XS.istoreN h hx rfl hd rfl hl r) g
theorem Go.lload (h : At T m c below) (hx : p.tables.exec = Jvm.exec) {pc q : Nat} {Ls : Array Slot} {st : List Value} {k : Nat} {v : Int64} (hd : decode c.code pc = .ok (.lload k, 2)) (hl : Ls[k]? = some (.val (.long v))) (hq : pc + 2 = q) (g : Go p e below Q (T.setTop (mkF m q Ls (.long v :: st)))) : Go p e below Q (T.setTop (mkF m pc Ls st)) := by
  subst hq; exact Go.of (fun _ r => XS.lload h hx rfl hd hl r) g
theorem Go.lloadN (h : At T m c below) (hx : p.tables.exec = Jvm.exec) {pc q : Nat} {Ls : Array Slot} {st : List Value} {k : Fin 4} {v : Int64} (hd : decode c.code pc = .ok (.lload_n k, 1)) (hl : Ls[k.val]? = some (.val (.long v))) (hq : pc + 1 = q) (g : Go p e below Q (T.setTop (mkF m q Ls (.long v :: st)))) : Go p e below Q (T.setTop (mkF m pc Ls st)) := by
  subst hq; exact Go.of (fun _ r => XS.lloadN h hx rfl hd hl r) g
theorem Go.lstore (h : At T m c below) (hx : p.tables.exec = Jvm.exec) {pc q : Nat} {Ls : Array Slot} {st : List Value} {k : Nat} {v : Int64} {l2 : Array Slot} (hd : decode c.code pc = .ok (.lstore k, 2)) (hl : storeLocals Ls k (.long v) = some l2) (hq : pc + 2 = q) (g : Go p e below Q (T.setTop (mkF m q l2 st))) : Go p e below Q (T.setTop (mkF m pc Ls (.long v :: st))) := by
  subst hq; exact Go.of (fun _ r => XS.lstore h hx rfl hd rfl hl r) g
theorem Go.lstoreN (h : At T m c below) (hx : p.tables.exec = Jvm.exec) {pc q : Nat} {Ls : Array Slot} {st : List Value} {k : Fin 4} {v : Int64} {l2 : Array Slot} (hd : decode c.code pc = .ok (.lstore_n k, 1)) (hl : storeLocals Ls k.val (.long v) = some l2) (hq : pc + 1 = q) (g : Go p e below Q (T.setTop (mkF m q l2 st))) : Go p e below Q (T.setTop (mkF m pc Ls (.long v :: st))) := by
  subst hq; exact Go.of (fun _ r => XS.lstoreN h hx rfl hd rfl hl r) g
theorem Go.dload (h : At T m c below) (hx : p.tables.exec = Jvm.exec) {pc q : Nat} {Ls : Array Slot} {st : List Value} {k : Nat} {v : UInt64} (hd : decode c.code pc = .ok (.dload k, 2)) (hl : Ls[k]? = some (.val (.double v))) (hq : pc + 2 = q) (g : Go p e below Q (T.setTop (mkF m q Ls (.double v :: st)))) : Go p e below Q (T.setTop (mkF m pc Ls st)) := by
  subst hq; exact Go.of (fun _ r => XS.dload h hx rfl hd hl r) g
theorem Go.dloadN (h : At T m c below) (hx : p.tables.exec = Jvm.exec) {pc q : Nat} {Ls : Array Slot} {st : List Value} {k : Fin 4} {v : UInt64} (hd : decode c.code pc = .ok (.dload_n k, 1)) (hl : Ls[k.val]? = some (.val (.double v))) (hq : pc + 1 = q) (g : Go p e below Q (T.setTop (mkF m q Ls (.double v :: st)))) : Go p e below Q (T.setTop (mkF m pc Ls st)) := by
  subst hq; exact Go.of (fun _ r => XS.dloadN h hx rfl hd hl r) g
theorem Go.dstore (h : At T m c below) (hx : p.tables.exec = Jvm.exec) {pc q : Nat} {Ls : Array Slot} {st : List Value} {k : Nat} {v : UInt64} {l2 : Array Slot} (hd : decode c.code pc = .ok (.dstore k, 2)) (hl : storeLocals Ls k (.double v) = some l2) (hq : pc + 2 = q) (g : Go p e below Q (T.setTop (mkF m q l2 st))) : Go p e below Q (T.setTop (mkF m pc Ls (.double v :: st))) := by
  subst hq; exact Go.of (fun _ r => XS.dstore h hx rfl hd rfl hl r) g
theorem Go.dstoreN (h : At T m c below) (hx : p.tables.exec = Jvm.exec) {pc q : Nat} {Ls : Array Slot} {st : List Value} {k : Fin 4} {v : UInt64} {l2 : Array Slot} (hd : decode c.code pc = .ok (.dstore_n k, 1)) (hl : storeLocals Ls k.val (.double v) = some l2) (hq : pc + 1 = q) (g : Go p e below Q (T.setTop (mkF m q l2 st))) : Go p e below Q (T.setTop (mkF m pc Ls (.double v :: st))) := by
  subst hq; exact Go.of (fun _ r => XS.dstoreN h hx rfl hd rfl hl r) g
theorem Go.fload (h : At T m c below) (hx : p.tables.exec = Jvm.exec) {pc q : Nat} {Ls : Array Slot} {st : List Value} {k : Nat} {v : UInt32} (hd : decode c.code pc = .ok (.fload k, 2)) (hl : Ls[k]? = some (.val (.float v))) (hq : pc + 2 = q) (g : Go p e below Q (T.setTop (mkF m q Ls (.float v :: st)))) : Go p e below Q (T.setTop (mkF m pc Ls st)) := by
  subst hq; exact Go.of (fun _ r => XS.fload h hx rfl hd hl r) g
theorem Go.floadN (h : At T m c below) (hx : p.tables.exec = Jvm.exec) {pc q : Nat} {Ls : Array Slot} {st : List Value} {k : Fin 4} {v : UInt32} (hd : decode c.code pc = .ok (.fload_n k, 1)) (hl : Ls[k.val]? = some (.val (.float v))) (hq : pc + 1 = q) (g : Go p e below Q (T.setTop (mkF m q Ls (.float v :: st)))) : Go p e below Q (T.setTop (mkF m pc Ls st)) := by
  subst hq; exact Go.of (fun _ r => XS.floadN h hx rfl hd hl r) g
theorem Go.fstore (h : At T m c below) (hx : p.tables.exec = Jvm.exec) {pc q : Nat} {Ls : Array Slot} {st : List Value} {k : Nat} {v : UInt32} {l2 : Array Slot} (hd : decode c.code pc = .ok (.fstore k, 2)) (hl : storeLocals Ls k (.float v) = some l2) (hq : pc + 2 = q) (g : Go p e below Q (T.setTop (mkF m q l2 st))) : Go p e below Q (T.setTop (mkF m pc Ls (.float v :: st))) := by
  subst hq; exact Go.of (fun _ r => XS.fstore h hx rfl hd rfl hl r) g
theorem Go.fstoreN (h : At T m c below) (hx : p.tables.exec = Jvm.exec) {pc q : Nat} {Ls : Array Slot} {st : List Value} {k : Fin 4} {v : UInt32} {l2 : Array Slot} (hd : decode c.code pc = .ok (.fstore_n k, 1)) (hl : storeLocals Ls k.val (.float v) = some l2) (hq : pc + 1 = q) (g : Go p e below Q (T.setTop (mkF m q l2 st))) : Go p e below Q (T.setTop (mkF m pc Ls (.float v :: st))) := by
  subst hq; exact Go.of (fun _ r => XS.fstoreN h hx rfl hd rfl hl r) g
theorem Go.aload (h : At T m c below) (hx : p.tables.exec = Jvm.exec) {pc q : Nat} {Ls : Array Slot} {st : List Value} {k : Nat} {v : Value} (hd : decode c.code pc = .ok (.aload k, 2)) (hl : Ls[k]? = some (.val v)) (hv : v.isRef = true) (hq : pc + 2 = q) (g : Go p e below Q (T.setTop (mkF m q Ls (v :: st)))) : Go p e below Q (T.setTop (mkF m pc Ls st)) := by
  subst hq; exact Go.of (fun _ r => XS.aload h hx rfl hd hl hv r) g
theorem Go.aloadN (h : At T m c below) (hx : p.tables.exec = Jvm.exec) {pc q : Nat} {Ls : Array Slot} {st : List Value} {k : Fin 4} {v : Value} (hd : decode c.code pc = .ok (.aload_n k, 1)) (hl : Ls[k.val]? = some (.val v)) (hv : v.isRef = true) (hq : pc + 1 = q) (g : Go p e below Q (T.setTop (mkF m q Ls (v :: st)))) : Go p e below Q (T.setTop (mkF m pc Ls st)) := by
  subst hq; exact Go.of (fun _ r => XS.aloadN h hx rfl hd hl hv r) g
theorem Go.astore (h : At T m c below) (hx : p.tables.exec = Jvm.exec) {pc q : Nat} {Ls : Array Slot} {st : List Value} {k : Nat} {v : Value} {l2 : Array Slot} (hd : decode c.code pc = .ok (.astore k, 2)) (hv : v.isRef = true) (hl : storeLocals Ls k v = some l2) (hq : pc + 2 = q) (g : Go p e below Q (T.setTop (mkF m q l2 st))) : Go p e below Q (T.setTop (mkF m pc Ls (v :: st))) := by
  subst hq; exact Go.of (fun _ r => XS.astore h hx rfl hd rfl hv hl r) g
theorem Go.astoreN (h : At T m c below) (hx : p.tables.exec = Jvm.exec) {pc q : Nat} {Ls : Array Slot} {st : List Value} {k : Fin 4} {v : Value} {l2 : Array Slot} (hd : decode c.code pc = .ok (.astore_n k, 1)) (hv : v.isRef = true) (hl : storeLocals Ls k.val v = some l2) (hq : pc + 1 = q) (g : Go p e below Q (T.setTop (mkF m q l2 st))) : Go p e below Q (T.setTop (mkF m pc Ls (v :: st))) := by
  subst hq; exact Go.of (fun _ r => XS.astoreN h hx rfl hd rfl hv hl r) g
theorem Go.iconst (h : At T m c below) (hx : p.tables.exec = Jvm.exec) {pc q : Nat} {Ls : Array Slot} {st : List Value} {i : Int} {v : Int32} (hd : decode c.code pc = .ok (.iconst i, 1)) (hv : Int32.ofInt i = v) (hq : pc + 1 = q) (g : Go p e below Q (T.setTop (mkF m q Ls (.int v :: st)))) : Go p e below Q (T.setTop (mkF m pc Ls st)) := by
  subst hq hv; exact Go.of (fun _ r => XS.iconst h hx rfl hd r) g
theorem Go.bipush (h : At T m c below) (hx : p.tables.exec = Jvm.exec) {pc q : Nat} {Ls : Array Slot} {st : List Value} {i : Int} {v : Int32} (hd : decode c.code pc = .ok (.bipush i, 2)) (hv : (Int8.ofInt i).toInt32 = v) (hq : pc + 2 = q) (g : Go p e below Q (T.setTop (mkF m q Ls (.int v :: st)))) : Go p e below Q (T.setTop (mkF m pc Ls st)) := by
  subst hq hv; exact Go.of (fun _ r => XS.bipush h hx rfl hd r) g
theorem Go.sipush (h : At T m c below) (hx : p.tables.exec = Jvm.exec) {pc q : Nat} {Ls : Array Slot} {st : List Value} {i : Int} {v : Int32} (hd : decode c.code pc = .ok (.sipush i, 3)) (hv : (Int16.ofInt i).toInt32 = v) (hq : pc + 3 = q) (g : Go p e below Q (T.setTop (mkF m q Ls (.int v :: st)))) : Go p e below Q (T.setTop (mkF m pc Ls st)) := by
  subst hq hv; exact Go.of (fun _ r => XS.sipush h hx rfl hd r) g
theorem Go.lconst (h : At T m c below) (hx : p.tables.exec = Jvm.exec) {pc q : Nat} {Ls : Array Slot} {st : List Value} {k : Fin 2} {v : Int64} (hd : decode c.code pc = .ok (.lconst k, 1)) (hv : Int64.ofNat k = v) (hq : pc + 1 = q) (g : Go p e below Q (T.setTop (mkF m q Ls (.long v :: st)))) : Go p e below Q (T.setTop (mkF m pc Ls st)) := by
  subst hq hv; exact Go.of (fun _ r => XS.lconst h hx rfl hd r) g
theorem Go.aconst (h : At T m c below) (hx : p.tables.exec = Jvm.exec) {pc q : Nat} {Ls : Array Slot} {st : List Value}  (hd : decode c.code pc = .ok (.aconst_null, 1)) (hq : pc + 1 = q) (g : Go p e below Q (T.setTop (mkF m q Ls (.null :: st)))) : Go p e below Q (T.setTop (mkF m pc Ls st)) := by
  subst hq; exact Go.of (fun _ r => XS.aconstNull h hx rfl hd r) g
theorem Go.dconst0 (h : At T m c below) (hx : p.tables.exec = Jvm.exec) {pc q : Nat} {Ls : Array Slot} {st : List Value} {v : UInt64} (hd : decode c.code pc = .ok (.dconst 0, 1)) (hv : FP.dconst0 = v) (hq : pc + 1 = q) (g : Go p e below Q (T.setTop (mkF m q Ls (.double v :: st)))) : Go p e below Q (T.setTop (mkF m pc Ls st)) := by
  subst hq; exact Go.of (fun _ r => XS.dconst0 h hx rfl hd hv r) g
theorem Go.dconst1 (h : At T m c below) (hx : p.tables.exec = Jvm.exec) {pc q : Nat} {Ls : Array Slot} {st : List Value} {v : UInt64} (hd : decode c.code pc = .ok (.dconst 1, 1)) (hv : FP.dconst1 = v) (hq : pc + 1 = q) (g : Go p e below Q (T.setTop (mkF m q Ls (.double v :: st)))) : Go p e below Q (T.setTop (mkF m pc Ls st)) := by
  subst hq; exact Go.of (fun _ r => XS.dconst1 h hx rfl hd hv r) g
theorem Go.fconst0 (h : At T m c below) (hx : p.tables.exec = Jvm.exec) {pc q : Nat} {Ls : Array Slot} {st : List Value} {v : UInt32} (hd : decode c.code pc = .ok (.fconst 0, 1)) (hv : FP.fconst0 = v) (hq : pc + 1 = q) (g : Go p e below Q (T.setTop (mkF m q Ls (.float v :: st)))) : Go p e below Q (T.setTop (mkF m pc Ls st)) := by
  subst hq; exact Go.of (fun _ r => XS.fconst0 h hx rfl hd hv r) g
theorem Go.fconst1 (h : At T m c below) (hx : p.tables.exec = Jvm.exec) {pc q : Nat} {Ls : Array Slot} {st : List Value} {v : UInt32} (hd : decode c.code pc = .ok (.fconst 1, 1)) (hv : FP.fconst1 = v) (hq : pc + 1 = q) (g : Go p e below Q (T.setTop (mkF m q Ls (.float v :: st)))) : Go p e below Q (T.setTop (mkF m pc Ls st)) := by
  subst hq; exact Go.of (fun _ r => XS.fconst1 h hx rfl hd hv r) g
theorem Go.iadd (h : At T m c below) (hx : p.tables.exec = Jvm.exec) {pc q : Nat} {Ls : Array Slot} {st : List Value} {x : Int32} {y : Int32} {v : Int32} (hd : decode c.code pc = .ok (.iadd, 1)) (hv : x + y = v) (hq : pc + 1 = q) (g : Go p e below Q (T.setTop (mkF m q Ls (.int v :: st)))) : Go p e below Q (T.setTop (mkF m pc Ls (.int y :: .int x :: st))) := by
  subst hq hv; exact Go.of (fun _ r => XS.iadd h hx rfl hd rfl r) g
theorem Go.isub (h : At T m c below) (hx : p.tables.exec = Jvm.exec) {pc q : Nat} {Ls : Array Slot} {st : List Value} {x : Int32} {y : Int32} {v : Int32} (hd : decode c.code pc = .ok (.isub, 1)) (hv : x - y = v) (hq : pc + 1 = q) (g : Go p e below Q (T.setTop (mkF m q Ls (.int v :: st)))) : Go p e below Q (T.setTop (mkF m pc Ls (.int y :: .int x :: st))) := by
  subst hq hv; exact Go.of (fun _ r => XS.isub h hx rfl hd rfl r) g
theorem Go.iand (h : At T m c below) (hx : p.tables.exec = Jvm.exec) {pc q : Nat} {Ls : Array Slot} {st : List Value} {x : Int32} {y : Int32} {v : Int32} (hd : decode c.code pc = .ok (.iand, 1)) (hv : x &&& y = v) (hq : pc + 1 = q) (g : Go p e below Q (T.setTop (mkF m q Ls (.int v :: st)))) : Go p e below Q (T.setTop (mkF m pc Ls (.int y :: .int x :: st))) := by
  subst hq hv; exact Go.of (fun _ r => XS.iand h hx rfl hd rfl r) g
theorem Go.imul (h : At T m c below) (hx : p.tables.exec = Jvm.exec) {pc q : Nat} {Ls : Array Slot} {st : List Value} {x : Int32} {y : Int32} {v : Int32} (hd : decode c.code pc = .ok (.imul, 1)) (hv : x * y = v) (hq : pc + 1 = q) (g : Go p e below Q (T.setTop (mkF m q Ls (.int v :: st)))) : Go p e below Q (T.setTop (mkF m pc Ls (.int y :: .int x :: st))) := by
  subst hq hv; exact Go.of (fun _ r => XS.imul h hx rfl hd rfl r) g
theorem Go.ixor (h : At T m c below) (hx : p.tables.exec = Jvm.exec) {pc q : Nat} {Ls : Array Slot} {st : List Value} {x : Int32} {y : Int32} {v : Int32} (hd : decode c.code pc = .ok (.ixor, 1)) (hv : x ^^^ y = v) (hq : pc + 1 = q) (g : Go p e below Q (T.setTop (mkF m q Ls (.int v :: st)))) : Go p e below Q (T.setTop (mkF m pc Ls (.int y :: .int x :: st))) := by
  subst hq hv; exact Go.of (fun _ r => XS.ixor h hx rfl hd rfl r) g
theorem Go.ior (h : At T m c below) (hx : p.tables.exec = Jvm.exec) {pc q : Nat} {Ls : Array Slot} {st : List Value} {x : Int32} {y : Int32} {v : Int32} (hd : decode c.code pc = .ok (.ior, 1)) (hv : x ||| y = v) (hq : pc + 1 = q) (g : Go p e below Q (T.setTop (mkF m q Ls (.int v :: st)))) : Go p e below Q (T.setTop (mkF m pc Ls (.int y :: .int x :: st))) := by
  subst hq hv; exact Go.of (fun _ r => XS.ior h hx rfl hd rfl r) g
theorem Go.ishl (h : At T m c below) (hx : p.tables.exec = Jvm.exec) {pc q : Nat} {Ls : Array Slot} {st : List Value} {x : Int32} {y : Int32} {v : Int32} (hd : decode c.code pc = .ok (.ishl, 1)) (hv : x <<< (y &&& 31) = v) (hq : pc + 1 = q) (g : Go p e below Q (T.setTop (mkF m q Ls (.int v :: st)))) : Go p e below Q (T.setTop (mkF m pc Ls (.int y :: .int x :: st))) := by
  subst hq hv; exact Go.of (fun _ r => XS.ishl h hx rfl hd rfl r) g
theorem Go.ishr (h : At T m c below) (hx : p.tables.exec = Jvm.exec) {pc q : Nat} {Ls : Array Slot} {st : List Value} {x : Int32} {y : Int32} {v : Int32} (hd : decode c.code pc = .ok (.ishr, 1)) (hv : x >>> (y &&& 31) = v) (hq : pc + 1 = q) (g : Go p e below Q (T.setTop (mkF m q Ls (.int v :: st)))) : Go p e below Q (T.setTop (mkF m pc Ls (.int y :: .int x :: st))) := by
  subst hq hv; exact Go.of (fun _ r => XS.ishr h hx rfl hd rfl r) g
theorem Go.iushr (h : At T m c below) (hx : p.tables.exec = Jvm.exec) {pc q : Nat} {Ls : Array Slot} {st : List Value} {x : Int32} {y : Int32} {v : Int32} (hd : decode c.code pc = .ok (.iushr, 1)) (hv : (x.toUInt32 >>> (y &&& 31).toUInt32).toInt32 = v) (hq : pc + 1 = q) (g : Go p e below Q (T.setTop (mkF m q Ls (.int v :: st)))) : Go p e below Q (T.setTop (mkF m pc Ls (.int y :: .int x :: st))) := by
  subst hq hv; exact Go.of (fun _ r => XS.iushr h hx rfl hd rfl r) g
theorem Go.idiv (h : At T m c below) (hx : p.tables.exec = Jvm.exec) {pc q : Nat} {Ls : Array Slot} {st : List Value} {x : Int32} {y : Int32} {v : Int32} (hd : decode c.code pc = .ok (.idiv, 1)) (hy : y ≠ 0) (hv : x / y = v) (hq : pc + 1 = q) (g : Go p e below Q (T.setTop (mkF m q Ls (.int v :: st)))) : Go p e below Q (T.setTop (mkF m pc Ls (.int y :: .int x :: st))) := by
  subst hq hv; exact Go.of (fun _ r => XS.idiv h hx rfl hd rfl hy r) g
theorem Go.irem (h : At T m c below) (hx : p.tables.exec = Jvm.exec) {pc q : Nat} {Ls : Array Slot} {st : List Value} {x : Int32} {y : Int32} {v : Int32} (hd : decode c.code pc = .ok (.irem, 1)) (hy : y ≠ 0) (hv : x - (x / y) * y = v) (hq : pc + 1 = q) (g : Go p e below Q (T.setTop (mkF m q Ls (.int v :: st)))) : Go p e below Q (T.setTop (mkF m pc Ls (.int y :: .int x :: st))) := by
  subst hq hv; exact Go.of (fun _ r => XS.irem h hx rfl hd rfl hy r) g
theorem Go.ladd (h : At T m c below) (hx : p.tables.exec = Jvm.exec) {pc q : Nat} {Ls : Array Slot} {st : List Value} {x : Int64} {y : Int64} {v : Int64} (hd : decode c.code pc = .ok (.ladd, 1)) (hv : x + y = v) (hq : pc + 1 = q) (g : Go p e below Q (T.setTop (mkF m q Ls (.long v :: st)))) : Go p e below Q (T.setTop (mkF m pc Ls (.long y :: .long x :: st))) := by
  subst hq hv; exact Go.of (fun _ r => XS.ladd h hx rfl hd rfl r) g
theorem Go.lsub (h : At T m c below) (hx : p.tables.exec = Jvm.exec) {pc q : Nat} {Ls : Array Slot} {st : List Value} {x : Int64} {y : Int64} {v : Int64} (hd : decode c.code pc = .ok (.lsub, 1)) (hv : x - y = v) (hq : pc + 1 = q) (g : Go p e below Q (T.setTop (mkF m q Ls (.long v :: st)))) : Go p e below Q (T.setTop (mkF m pc Ls (.long y :: .long x :: st))) := by
  subst hq hv; exact Go.of (fun _ r => XS.lsub h hx rfl hd rfl r) g
theorem Go.lmul (h : At T m c below) (hx : p.tables.exec = Jvm.exec) {pc q : Nat} {Ls : Array Slot} {st : List Value} {x : Int64} {y : Int64} {v : Int64} (hd : decode c.code pc = .ok (.lmul, 1)) (hv : x * y = v) (hq : pc + 1 = q) (g : Go p e below Q (T.setTop (mkF m q Ls (.long v :: st)))) : Go p e below Q (T.setTop (mkF m pc Ls (.long y :: .long x :: st))) := by
  subst hq hv; exact Go.of (fun _ r => XS.lmul h hx rfl hd rfl r) g
theorem Go.land (h : At T m c below) (hx : p.tables.exec = Jvm.exec) {pc q : Nat} {Ls : Array Slot} {st : List Value} {x : Int64} {y : Int64} {v : Int64} (hd : decode c.code pc = .ok (.land, 1)) (hv : x &&& y = v) (hq : pc + 1 = q) (g : Go p e below Q (T.setTop (mkF m q Ls (.long v :: st)))) : Go p e below Q (T.setTop (mkF m pc Ls (.long y :: .long x :: st))) := by
  subst hq hv; exact Go.of (fun _ r => XS.land h hx rfl hd rfl r) g
theorem Go.lor (h : At T m c below) (hx : p.tables.exec = Jvm.exec) {pc q : Nat} {Ls : Array Slot} {st : List Value} {x : Int64} {y : Int64} {v : Int64} (hd : decode c.code pc = .ok (.lor, 1)) (hv : x ||| y = v) (hq : pc + 1 = q) (g : Go p e below Q (T.setTop (mkF m q Ls (.long v :: st)))) : Go p e below Q (T.setTop (mkF m pc Ls (.long y :: .long x :: st))) := by
  subst hq hv; exact Go.of (fun _ r => XS.lor h hx rfl hd rfl r) g
theorem Go.lxor (h : At T m c below) (hx : p.tables.exec = Jvm.exec) {pc q : Nat} {Ls : Array Slot} {st : List Value} {x : Int64} {y : Int64} {v : Int64} (hd : decode c.code pc = .ok (.lxor, 1)) (hv : x ^^^ y = v) (hq : pc + 1 = q) (g : Go p e below Q (T.setTop (mkF m q Ls (.long v :: st)))) : Go p e below Q (T.setTop (mkF m pc Ls (.long y :: .long x :: st))) := by
  subst hq hv; exact Go.of (fun _ r => XS.lxor h hx rfl hd rfl r) g
theorem Go.lshl (h : At T m c below) (hx : p.tables.exec = Jvm.exec) {pc q : Nat} {Ls : Array Slot} {st : List Value} {x : Int64} {y : Int32} {v : Int64} (hd : decode c.code pc = .ok (.lshl, 1)) (hv : x <<< (y &&& 0x3f).toInt64 = v) (hq : pc + 1 = q) (g : Go p e below Q (T.setTop (mkF m q Ls (.long v :: st)))) : Go p e below Q (T.setTop (mkF m pc Ls (.int y :: .long x :: st))) := by
  subst hq hv; exact Go.of (fun _ r => XS.lshl h hx rfl hd rfl r) g
theorem Go.lshr (h : At T m c below) (hx : p.tables.exec = Jvm.exec) {pc q : Nat} {Ls : Array Slot} {st : List Value} {x : Int64} {y : Int32} {v : Int64} (hd : decode c.code pc = .ok (.lshr, 1)) (hv : x >>> (y &&& 0x3f).toInt64 = v) (hq : pc + 1 = q) (g : Go p e below Q (T.setTop (mkF m q Ls (.long v :: st)))) : Go p e below Q (T.setTop (mkF m pc Ls (.int y :: .long x :: st))) := by
  subst hq hv; exact Go.of (fun _ r => XS.lshr h hx rfl hd rfl r) g
theorem Go.lushr (h : At T m c below) (hx : p.tables.exec = Jvm.exec) {pc q : Nat} {Ls : Array Slot} {st : List Value} {x : Int64} {y : Int32} {v : Int64} (hd : decode c.code pc = .ok (.lushr, 1)) (hv : (x.toUInt64 >>> (y &&& 0x3f).toInt64.toUInt64).toInt64 = v) (hq : pc + 1 = q) (g : Go p e below Q (T.setTop (mkF m q Ls (.long v :: st)))) : Go p e below Q (T.setTop (mkF m pc Ls (.int y :: .long x :: st))) := by
  subst hq hv; exact Go.of (fun _ r => XS.lushr h hx rfl hd rfl r) g
theorem Go.ldiv (h : At T m c below) (hx : p.tables.exec = Jvm.exec) {pc q : Nat} {Ls : Array Slot} {st : List Value} {x : Int64} {y : Int64} {v : Int64} (hd : decode c.code pc = .ok (.ldiv, 1)) (hy : y ≠ 0) (hv : x / y = v) (hq : pc + 1 = q) (g : Go p e below Q (T.setTop (mkF m q Ls (.long v :: st)))) : Go p e below Q (T.setTop (mkF m pc Ls (.long y :: .long x :: st))) := by
  subst hq hv; exact Go.of (fun _ r => XS.ldiv h hx rfl hd rfl hy r) g
theorem Go.lrem (h : At T m c below) (hx : p.tables.exec = Jvm.exec) {pc q : Nat} {Ls : Array Slot} {st : List Value} {x : Int64} {y : Int64} {v : Int64} (hd : decode c.code pc = .ok (.lrem, 1)) (hy : y ≠ 0) (hv : x - (x / y) * y = v) (hq : pc + 1 = q) (g : Go p e below Q (T.setTop (mkF m q Ls (.long v :: st)))) : Go p e below Q (T.setTop (mkF m pc Ls (.long y :: .long x :: st))) := by
  subst hq hv; exact Go.of (fun _ r => XS.lrem h hx rfl hd rfl hy r) g
theorem Go.lcmp (h : At T m c below) (hx : p.tables.exec = Jvm.exec) {pc q : Nat} {Ls : Array Slot} {st : List Value} {x : Int64} {y : Int64} {v : Int32} (hd : decode c.code pc = .ok (.lcmp, 1)) (hv : lcmpW x y = v) (hq : pc + 1 = q) (g : Go p e below Q (T.setTop (mkF m q Ls (.int v :: st)))) : Go p e below Q (T.setTop (mkF m pc Ls (.long y :: .long x :: st))) := by
  subst hq hv; exact Go.of (fun _ r => XS.lcmp h hx rfl hd rfl r) g
theorem Go.ineg (h : At T m c below) (hx : p.tables.exec = Jvm.exec) {pc q : Nat} {Ls : Array Slot} {st : List Value} {x : Int32} {v : Int32} (hd : decode c.code pc = .ok (.ineg, 1)) (hv : -x = v) (hq : pc + 1 = q) (g : Go p e below Q (T.setTop (mkF m q Ls (.int v :: st)))) : Go p e below Q (T.setTop (mkF m pc Ls (.int x :: st))) := by
  subst hq hv; exact Go.of (fun _ r => XS.ineg h hx rfl hd rfl r) g
theorem Go.lneg (h : At T m c below) (hx : p.tables.exec = Jvm.exec) {pc q : Nat} {Ls : Array Slot} {st : List Value} {x : Int64} {v : Int64} (hd : decode c.code pc = .ok (.lneg, 1)) (hv : -x = v) (hq : pc + 1 = q) (g : Go p e below Q (T.setTop (mkF m q Ls (.long v :: st)))) : Go p e below Q (T.setTop (mkF m pc Ls (.long x :: st))) := by
  subst hq hv; exact Go.of (fun _ r => XS.lneg h hx rfl hd rfl r) g
theorem Go.i2l (h : At T m c below) (hx : p.tables.exec = Jvm.exec) {pc q : Nat} {Ls : Array Slot} {st : List Value} {x : Int32} {v : Int64} (hd : decode c.code pc = .ok (.i2l, 1)) (hv : x.toInt64 = v) (hq : pc + 1 = q) (g : Go p e below Q (T.setTop (mkF m q Ls (.long v :: st)))) : Go p e below Q (T.setTop (mkF m pc Ls (.int x :: st))) := by
  subst hq hv; exact Go.of (fun _ r => XS.i2l h hx rfl hd rfl r) g
theorem Go.l2i (h : At T m c below) (hx : p.tables.exec = Jvm.exec) {pc q : Nat} {Ls : Array Slot} {st : List Value} {x : Int64} {v : Int32} (hd : decode c.code pc = .ok (.l2i, 1)) (hv : x.toInt32 = v) (hq : pc + 1 = q) (g : Go p e below Q (T.setTop (mkF m q Ls (.int v :: st)))) : Go p e below Q (T.setTop (mkF m pc Ls (.long x :: st))) := by
  subst hq hv; exact Go.of (fun _ r => XS.l2i h hx rfl hd rfl r) g
theorem Go.i2d (h : At T m c below) (hx : p.tables.exec = Jvm.exec) {pc q : Nat} {Ls : Array Slot} {st : List Value} {x : Int32} {v : UInt64} (hd : decode c.code pc = .ok (.i2d, 1)) (hv : FP.i2d x = v) (hq : pc + 1 = q) (g : Go p e below Q (T.setTop (mkF m q Ls (.double v :: st)))) : Go p e below Q (T.setTop (mkF m pc Ls (.int x :: st))) := by
  subst hq; exact Go.of (fun _ r => XS.i2dS h hx rfl hd rfl hv r) g
theorem Go.l2d (h : At T m c below) (hx : p.tables.exec = Jvm.exec) {pc q : Nat} {Ls : Array Slot} {st : List Value} {x : Int64} {v : UInt64} (hd : decode c.code pc = .ok (.l2d, 1)) (hv : FP.l2d x = v) (hq : pc + 1 = q) (g : Go p e below Q (T.setTop (mkF m q Ls (.double v :: st)))) : Go p e below Q (T.setTop (mkF m pc Ls (.long x :: st))) := by
  subst hq; exact Go.of (fun _ r => XS.l2dS h hx rfl hd rfl hv r) g
theorem Go.d2i (h : At T m c below) (hx : p.tables.exec = Jvm.exec) {pc q : Nat} {Ls : Array Slot} {st : List Value} {x : UInt64} {v : Int32} (hd : decode c.code pc = .ok (.d2i, 1)) (hv : FP.d2i x = v) (hq : pc + 1 = q) (g : Go p e below Q (T.setTop (mkF m q Ls (.int v :: st)))) : Go p e below Q (T.setTop (mkF m pc Ls (.double x :: st))) := by
  subst hq; exact Go.of (fun _ r => XS.d2iS h hx rfl hd rfl hv r) g
theorem Go.d2l (h : At T m c below) (hx : p.tables.exec = Jvm.exec) {pc q : Nat} {Ls : Array Slot} {st : List Value} {x : UInt64} {v : Int64} (hd : decode c.code pc = .ok (.d2l, 1)) (hv : FP.d2l x = v) (hq : pc + 1 = q) (g : Go p e below Q (T.setTop (mkF m q Ls (.long v :: st)))) : Go p e below Q (T.setTop (mkF m pc Ls (.double x :: st))) := by
  subst hq; exact Go.of (fun _ r => XS.d2lS h hx rfl hd rfl hv r) g
theorem Go.dneg (h : At T m c below) (hx : p.tables.exec = Jvm.exec) {pc q : Nat} {Ls : Array Slot} {st : List Value} {x : UInt64} {v : UInt64} (hd : decode c.code pc = .ok (.dneg, 1)) (hv : FP.dneg x = v) (hq : pc + 1 = q) (g : Go p e below Q (T.setTop (mkF m q Ls (.double v :: st)))) : Go p e below Q (T.setTop (mkF m pc Ls (.double x :: st))) := by
  subst hq; exact Go.of (fun _ r => XS.dnegS h hx rfl hd rfl hv r) g
theorem Go.i2f (h : At T m c below) (hx : p.tables.exec = Jvm.exec) {pc q : Nat} {Ls : Array Slot} {st : List Value} {x : Int32} {v : UInt32} (hd : decode c.code pc = .ok (.i2f, 1)) (hv : FP.i2f x = v) (hq : pc + 1 = q) (g : Go p e below Q (T.setTop (mkF m q Ls (.float v :: st)))) : Go p e below Q (T.setTop (mkF m pc Ls (.int x :: st))) := by
  subst hq; exact Go.of (fun _ r => XS.i2fS h hx rfl hd rfl hv r) g
theorem Go.l2f (h : At T m c below) (hx : p.tables.exec = Jvm.exec) {pc q : Nat} {Ls : Array Slot} {st : List Value} {x : Int64} {v : UInt32} (hd : decode c.code pc = .ok (.l2f, 1)) (hv : FP.l2f x = v) (hq : pc + 1 = q) (g : Go p e below Q (T.setTop (mkF m q Ls (.float v :: st)))) : Go p e below Q (T.setTop (mkF m pc Ls (.long x :: st))) := by
  subst hq; exact Go.of (fun _ r => XS.l2fS h hx rfl hd rfl hv r) g
theorem Go.dadd (h : At T m c below) (hx : p.tables.exec = Jvm.exec) {pc q : Nat} {Ls : Array Slot} {st : List Value} {x y v : UInt64} (hd : decode c.code pc = .ok (.dadd, 1)) (hn : NoNaN64 (FP.dadd x y)) (hv : FP.dadd x y = v) (hq : pc + 1 = q) (g : Go p e below Q (T.setTop (mkF m q Ls (.double v :: st)))) : Go p e below Q (T.setTop (mkF m pc Ls (.double y :: .double x :: st))) := by
  subst hq; exact Go.of (fun _ r => XS.daddS h hx rfl hd rfl hn hv r) g
theorem Go.dsub (h : At T m c below) (hx : p.tables.exec = Jvm.exec) {pc q : Nat} {Ls : Array Slot} {st : List Value} {x y v : UInt64} (hd : decode c.code pc = .ok (.dsub, 1)) (hn : NoNaN64 (FP.dsub x y)) (hv : FP.dsub x y = v) (hq : pc + 1 = q) (g : Go p e below Q (T.setTop (mkF m q Ls (.double v :: st)))) : Go p e below Q (T.setTop (mkF m pc Ls (.double y :: .double x :: st))) := by
  subst hq; exact Go.of (fun _ r => XS.dsubS h hx rfl hd rfl hn hv r) g
theorem Go.dmul (h : At T m c below) (hx : p.tables.exec = Jvm.exec) {pc q : Nat} {Ls : Array Slot} {st : List Value} {x y v : UInt64} (hd : decode c.code pc = .ok (.dmul, 1)) (hn : NoNaN64 (FP.dmul x y)) (hv : FP.dmul x y = v) (hq : pc + 1 = q) (g : Go p e below Q (T.setTop (mkF m q Ls (.double v :: st)))) : Go p e below Q (T.setTop (mkF m pc Ls (.double y :: .double x :: st))) := by
  subst hq; exact Go.of (fun _ r => XS.dmulS h hx rfl hd rfl hn hv r) g
theorem Go.ddiv (h : At T m c below) (hx : p.tables.exec = Jvm.exec) {pc q : Nat} {Ls : Array Slot} {st : List Value} {x y v : UInt64} (hd : decode c.code pc = .ok (.ddiv, 1)) (hn : NoNaN64 (FP.ddiv x y)) (hv : FP.ddiv x y = v) (hq : pc + 1 = q) (g : Go p e below Q (T.setTop (mkF m q Ls (.double v :: st)))) : Go p e below Q (T.setTop (mkF m pc Ls (.double y :: .double x :: st))) := by
  subst hq; exact Go.of (fun _ r => XS.ddivS h hx rfl hd rfl hn hv r) g
theorem Go.dcmp (h : At T m c below) (hx : p.tables.exec = Jvm.exec) {pc q : Nat} {Ls : Array Slot} {st : List Value} {o : CmpOp} {x y : UInt64} {v : Int32} (hd : decode c.code pc = .ok (.dcmp o, 1)) (hv : cmpValue (FP.dcmp x y) o = v) (hq : pc + 1 = q) (g : Go p e below Q (T.setTop (mkF m q Ls (.int v :: st)))) : Go p e below Q (T.setTop (mkF m pc Ls (.double y :: .double x :: st))) := by
  subst hq; exact Go.of (fun _ r => XS.dcmpS h hx rfl hd rfl hv r) g
theorem Go.fcmp (h : At T m c below) (hx : p.tables.exec = Jvm.exec) {pc q : Nat} {Ls : Array Slot} {st : List Value} {o : CmpOp} {x y : UInt32} {v : Int32} (hd : decode c.code pc = .ok (.fcmp o, 1)) (hv : cmpValue (FP.fcmp x y) o = v) (hq : pc + 1 = q) (g : Go p e below Q (T.setTop (mkF m q Ls (.int v :: st)))) : Go p e below Q (T.setTop (mkF m pc Ls (.float y :: .float x :: st))) := by
  subst hq; exact Go.of (fun _ r => XS.fcmpS h hx rfl hd rfl hv r) g
theorem Go.dup (h : At T m c below) (hx : p.tables.exec = Jvm.exec) {pc q : Nat} {Ls : Array Slot} {st : List Value} {v : Value} (hd : decode c.code pc = .ok (.dup, 1)) (hc : v.category = 1) (hq : pc + 1 = q) (g : Go p e below Q (T.setTop (mkF m q Ls (v :: v :: st)))) : Go p e below Q (T.setTop (mkF m pc Ls (v :: st))) := by
  subst hq; exact Go.of (fun _ r => XS.dup h hx rfl hd rfl hc r) g
theorem Go.dup2 (h : At T m c below) (hx : p.tables.exec = Jvm.exec) {pc q : Nat} {Ls : Array Slot} {st : List Value} {v w : Value} (hd : decode c.code pc = .ok (.dup2, 1)) (hc : v.category = 1) (hc2 : w.category = 1) (hq : pc + 1 = q) (g : Go p e below Q (T.setTop (mkF m q Ls (v :: w :: v :: w :: st)))) : Go p e below Q (T.setTop (mkF m pc Ls (v :: w :: st))) := by
  subst hq; exact Go.of (fun _ r => Jvm.Free.XT.dup2 h hx rfl hd rfl hc hc2 r) g
theorem Go.pop (h : At T m c below) (hx : p.tables.exec = Jvm.exec) {pc q : Nat} {Ls : Array Slot} {st : List Value} {v : Value} (hd : decode c.code pc = .ok (.pop, 1)) (hc : v.category = 1) (hq : pc + 1 = q) (g : Go p e below Q (T.setTop (mkF m q Ls st))) : Go p e below Q (T.setTop (mkF m pc Ls (v :: st))) := by
  subst hq; exact Go.of (fun _ r => XS.pop h hx rfl hd rfl hc r) g
theorem step_dup2x1 {tb : Tables} [Ours tb] {target : State} {g : JFrame} (h : At T m c below) (hx : tb.exec = Jvm.exec) (hg : g.method = m) {x : Int64} {b : Value} {rest : List Value} (hd : decode c.code g.pc = .ok (.dup2_x1, 1)) (hs : g.stack = .long x :: b :: rest) (hb : b.category = 1)
    (hr : Steps tb e below (T.setTop { g with pc := g.pc + 1, stack := .long x :: b :: .long x :: rest }) target) : Steps tb e below (T.setTop g) target := by
  subst hg
  jvm_step h [h.top, hx, hd, hs, hb, Value.category]
  exact ⟨hb, hr⟩
theorem Go.dup2x1 (h : At T m c below) (hx : p.tables.exec = Jvm.exec) {pc q : Nat} {Ls : Array Slot} {st : List Value} {x : Int64} {b : Value} (hd : decode c.code pc = .ok (.dup2_x1, 1)) (hb : b.category = 1) (hq : pc + 1 = q) (g : Go p e below Q (T.setTop (mkF m q Ls (.long x :: b :: .long x :: st)))) : Go p e below Q (T.setTop (mkF m pc Ls (.long x :: b :: st))) := by
  subst hq; exact Go.of (fun _ r => step_dup2x1 h hx rfl hd rfl hb r) g
theorem Go.iinc (h : At T m c below) (hx : p.tables.exec = Jvm.exec) {pc q : Nat} {Ls : Array Slot} {st : List Value} {k : Nat} {cst : Int} {x v : Int32} {l2 : Array Slot} (hd : decode c.code pc = .ok (.iinc k cst, 3)) (hl : Ls[k]? = some (.val (.int x))) (hv : x + Int32.ofInt cst = v) (hl2 : storeLocals Ls k (.int v) = some l2) (hq : pc + 3 = q) (g : Go p e below Q (T.setTop (mkF m q l2 st))) : Go p e below Q (T.setTop (mkF m pc Ls st)) := by
  subst hq hv; exact Go.of (fun _ r => XS.iinc h hx rfl hd hl hl2 r) g
theorem Go.goto (h : At T m c below) (hx : p.tables.exec = Jvm.exec) {pc q : Nat} {Ls : Array Slot} {st : List Value} {o : Int} (hd : decode c.code pc = .ok (.goto o, 3)) (ho : 0 ≤ (pc : Int) + o) (hq : ((pc : Int) + o).toNat = q) (g : Go p e below Q (T.setTop (mkF m q Ls st))) : Go p e below Q (T.setTop (mkF m pc Ls st)) := Go.of (fun _ r => XS.goto h hx rfl rfl hd ho hq r) g
theorem Go.ifY (h : At T m c below) (hx : p.tables.exec = Jvm.exec) {pc q : Nat} {Ls : Array Slot} {st : List Value} {cd : ClassFile.Cond} {x : Int32} {o : Int} (hd : decode c.code pc = .ok (.ifCond cd o, 3)) (hc : ifCond.holds cd x = true) (ho : 0 ≤ (pc : Int) + o) (hq : ((pc : Int) + o).toNat = q) (g : Go p e below Q (T.setTop (mkF m q Ls st))) : Go p e below Q (T.setTop (mkF m pc Ls (.int x :: st))) := Go.of (fun _ r => XS.ifYes h hx rfl rfl hd rfl hc ho hq r) g
theorem Go.ifN (h : At T m c below) (hx : p.tables.exec = Jvm.exec) {pc q : Nat} {Ls : Array Slot} {st : List Value} {cd : ClassFile.Cond} {x : Int32} {o : Int} (hd : decode c.code pc = .ok (.ifCond cd o, 3)) (hc : ifCond.holds cd x = false) (hq : pc + 3 = q) (g : Go p e below Q (T.setTop (mkF m q Ls st))) : Go p e below Q (T.setTop (mkF m pc Ls (.int x :: st))) := by
  subst hq; exact Go.of (fun _ r => XS.ifNo h hx rfl hd rfl hc r) g
theorem Go.icmpY (h : At T m c below) (hx : p.tables.exec = Jvm.exec) {pc q : Nat} {Ls : Array Slot} {st : List Value} {cd : ClassFile.Cond} {x y : Int32} {o : Int} (hd : decode c.code pc = .ok (.if_icmp cd o, 3)) (hc : if_icmp.holds cd x y = true) (ho : 0 ≤ (pc : Int) + o) (hq : ((pc : Int) + o).toNat = q) (g : Go p e below Q (T.setTop (mkF m q Ls st))) : Go p e below Q (T.setTop (mkF m pc Ls (.int y :: .int x :: st))) := Go.of (fun _ r => XS.icmpYes h hx rfl rfl hd rfl hc ho hq r) g
theorem Go.icmpN (h : At T m c below) (hx : p.tables.exec = Jvm.exec) {pc q : Nat} {Ls : Array Slot} {st : List Value} {cd : ClassFile.Cond} {x y : Int32} {o : Int} (hd : decode c.code pc = .ok (.if_icmp cd o, 3)) (hc : if_icmp.holds cd x y = false) (hq : pc + 3 = q) (g : Go p e below Q (T.setTop (mkF m q Ls st))) : Go p e below Q (T.setTop (mkF m pc Ls (.int y :: .int x :: st))) := by
  subst hq; exact Go.of (fun _ r => XS.icmpNo h hx rfl hd rfl hc r) g
theorem Go.acmpY (h : At T m c below) (hx : p.tables.exec = Jvm.exec) {pc q : Nat} {Ls : Array Slot} {st : List Value} {cd : ClassFile.ACond} {a b : Addr} {o : Int} (hd : decode c.code pc = .ok (.if_acmp cd o, 3)) (hc : if_acmp.holds cd (some a) (some b) = true) (ho : 0 ≤ (pc : Int) + o) (hq : ((pc : Int) + o).toNat = q) (g : Go p e below Q (T.setTop (mkF m q Ls st))) : Go p e below Q (T.setTop (mkF m pc Ls (.ref b :: .ref a :: st))) := Go.of (fun _ r => XS.acmpYes h hx rfl rfl hd rfl hc ho hq r) g
theorem Go.acmpN (h : At T m c below) (hx : p.tables.exec = Jvm.exec) {pc q : Nat} {Ls : Array Slot} {st : List Value} {cd : ClassFile.ACond} {a b : Addr} {o : Int} (hd : decode c.code pc = .ok (.if_acmp cd o, 3)) (hc : if_acmp.holds cd (some a) (some b) = false) (hq : pc + 3 = q) (g : Go p e below Q (T.setTop (mkF m q Ls st))) : Go p e below Q (T.setTop (mkF m pc Ls (.ref b :: .ref a :: st))) := by
  subst hq; exact Go.of (fun _ r => XS.acmpNo h hx rfl hd rfl hc r) g
theorem Go.nullY (h : At T m c below) (hx : p.tables.exec = Jvm.exec) {pc q : Nat} {Ls : Array Slot} {st : List Value} {o : Int} (hd : decode c.code pc = .ok (.ifnull o, 3)) (ho : 0 ≤ (pc : Int) + o) (hq : ((pc : Int) + o).toNat = q) (g : Go p e below Q (T.setTop (mkF m q Ls st))) : Go p e below Q (T.setTop (mkF m pc Ls (.null :: st))) := Go.of (fun _ r => XS.ifnullYes h hx rfl rfl hd rfl ho hq r) g
theorem Go.nullN (h : At T m c below) (hx : p.tables.exec = Jvm.exec) {pc q : Nat} {Ls : Array Slot} {st : List Value} {o : Int} {b : Addr} (hd : decode c.code pc = .ok (.ifnull o, 3)) (hq : pc + 3 = q) (g : Go p e below Q (T.setTop (mkF m q Ls st))) : Go p e below Q (T.setTop (mkF m pc Ls (.ref b :: st))) := by
  subst hq; exact Go.of (fun _ r => XS.ifnullNo h hx rfl hd rfl r) g
theorem Go.nonnullY (h : At T m c below) (hx : p.tables.exec = Jvm.exec) {pc q : Nat} {Ls : Array Slot} {st : List Value} {o : Int} {b : Addr} (hd : decode c.code pc = .ok (.ifnonnull o, 3)) (ho : 0 ≤ (pc : Int) + o) (hq : ((pc : Int) + o).toNat = q) (g : Go p e below Q (T.setTop (mkF m q Ls st))) : Go p e below Q (T.setTop (mkF m pc Ls (.ref b :: st))) := Go.of (fun _ r => XS.ifnonnullYes h hx rfl rfl hd rfl ho hq r) g
theorem Go.nonnullN (h : At T m c below) (hx : p.tables.exec = Jvm.exec) {pc q : Nat} {Ls : Array Slot} {st : List Value} {o : Int} (hd : decode c.code pc = .ok (.ifnonnull o, 3)) (hq : pc + 3 = q) (g : Go p e below Q (T.setTop (mkF m q Ls st))) : Go p e below Q (T.setTop (mkF m pc Ls (.null :: st))) := by
  subst hq; exact Go.of (fun _ r => XS.ifnonnullNo h hx rfl hd rfl r) g
theorem Go.ldcI (X : Stand p l e R s m args below meth c T locs cells slots) (hx : p.tables.exec = Jvm.exec) {own : String} {index : Nat} {v : Int32} (hown : s.vm.findClass own = some m.cls) (w : (Jvm.Cond.constant own index v).before args s = true) {pc q : Nat} {Ls : Array Slot} {st : List Value} (hd : decode c.code pc = .ok (.ldc index, 2)) (hq : pc + 2 = q) (g : Go p e below Q (T.setTop (mkF m q Ls (.int v :: st)))) : Go p e below Q (T.setTop (mkF m pc Ls st)) := by
  subst hq; exact Go.of (fun _ r => X.ldcInt hx hown w (g := mkF m pc Ls st) rfl hd _ r) g
theorem Go.ldc2J (X : Stand p l e R s m args below meth c T locs cells slots) (hx : p.tables.exec = Jvm.exec) {own : String} {index : Nat} {v : Int64} (hown : s.vm.findClass own = some m.cls) (w : (Jvm.Cond.constantLong own index v).before args s = true) {pc q : Nat} {Ls : Array Slot} {st : List Value} (hd : decode c.code pc = .ok (.ldc2_w index, 3)) (hq : pc + 3 = q) (g : Go p e below Q (T.setTop (mkF m q Ls (.long v :: st)))) : Go p e below Q (T.setTop (mkF m pc Ls st)) := by
  subst hq; exact Go.of (fun _ r => X.ldc2Long hx hown w (g := mkF m pc Ls st) rfl hd _ r) g
theorem Go.ldc2D (X : Stand p l e R s m args below meth c T locs cells slots) (hx : p.tables.exec = Jvm.exec) {own : String} {index : Nat} {v : UInt64} (hown : s.vm.findClass own = some m.cls) (w : (Jvm.Cond.constantDouble own index v).before args s = true) {pc q : Nat} {Ls : Array Slot} {st : List Value} (hd : decode c.code pc = .ok (.ldc2_w index, 3)) (hq : pc + 3 = q) (g : Go p e below Q (T.setTop (mkF m q Ls (.double v :: st)))) : Go p e below Q (T.setTop (mkF m pc Ls st)) := by
  subst hq; exact Go.of (fun _ r => X.ldc2DoubleC hx hown w (g := mkF m pc Ls st) rfl hd _ r) g
theorem Go.ldcF (X : Stand p l e R s m args below meth c T locs cells slots) (hx : p.tables.exec = Jvm.exec) {own : String} {index : Nat} {v : UInt32} (hown : s.vm.findClass own = some m.cls) (w : (Jvm.Cond.constantFloat own index v).before args s = true) {pc q : Nat} {Ls : Array Slot} {st : List Value} (hd : decode c.code pc = .ok (.ldc index, 2)) (hq : pc + 2 = q) (g : Go p e below Q (T.setTop (mkF m q Ls (.float v :: st)))) : Go p e below Q (T.setTop (mkF m pc Ls st)) := by
  subst hq; exact Go.of (fun _ r => X.ldcFloatC hx hown w (g := mkF m pc Ls st) rfl hd _ r) g
end OwnGo

/-! own layer 3: steps that touch the heap, and calls by contract, in the same forward form -/
section OwnHeap
variable {p : Program} {l : Launch} {e : Env} {R : Room} {s : State} {m : MethodId} {args : Array Value} {below : List Frame} {meth : Method} {c : Code} {T : State} {locs : List Loc} {cells slots : Nat} {Q : Outcome → State → Prop} {Z : State} {a0 : Array Value} {h : Heap}
/-- a callee's contract at one call -/
abbrev Con (l : Launch) (Z : State) (y : MethodName) (bytes : ByteArray) (maxL : Nat) (ret : Option FieldType) (rm : Room) (as' : Array Value) (h : Heap) (Qv : Option Value → Heap → List Loc → Prop) : Prop :=
  MetFree l y (head1 [Jvm.Cond.code y bytes maxL ret] rm) (fun a U => a = as' ∧ Z.Warmed39 U.vm ∧ U.heap = h) (fun _ _ _ _ _ => True) (fun _ U o U' => ∃ v L, o = .returned v ∧ Qv v U'.heap L ∧ FrameEnd U o U' L rm.cells rm.slots)
theorem Go.new (X : Stand p l e R s m args below meth c T locs cells slots) (hx : p.tables.exec = Jvm.exec) (hZ : Z.Warmed39 s.vm) {own C : String} {index n : Nat} (hown : s.vm.findClass own = some m.cls) (w : (Jvm.Cond.classLink own index C).before a0 Z = true) (wi : (Jvm.Cond.instantiable C n).before a0 Z = true) (wz : (Jvm.Cond.initialized C).before a0 Z = true) (eT : T.heap = h)
    {pc q : Nat} {Ls : Array Slot} {st : List Value} (hd : decode c.code pc = .ok (.new index, 3)) (hc : cells + 1 ≤ R.cells) (hl : slots + n ≤ R.slots) (hq : pc + 3 = q)
    (k : ∀ (T' : State) (h' : Heap) (a : Addr), a = h.size → Stand p l e R s m args below meth c T' locs (cells + 1) (slots + n) → T'.heap = h' → Ext h h' → Exa Z h' a C → (∀ {O nm d : String} {ty : FieldType}, Laid Z a0 C O nm d → parseFieldDescriptor d = some ty → Fld Z h' a O nm d (defaultValue ty)) →
      Go p e below Q (T'.setTop (mkF m q Ls (.ref a :: st)))) : Go p e below Q (T.setTop (mkF m pc Ls st)) := by
  subst hq
  obtain ⟨T', h', X', e', E', A', D', -, st'⟩ := newO X hx hZ hown w wi wz eT (g := mkF m pc Ls st) rfl hd hc hl
  exact Go.of st' (k T' h' _ rfl X' e' E' A' D')
theorem Go.getf (X : Stand p l e R s m args below meth c T locs cells slots) (hx : p.tables.exec = Jvm.exec) (hZ : Z.Warmed39 s.vm) {own O n d : String} {index : Nat} (hown : s.vm.findClass own = some m.cls) (w : (Jvm.Cond.fieldLink own index O n d).before a0 Z = true) (eT : T.heap = h) {a : Addr} {v : Value} (F : Fld Z h a O n d v)
    {pc q : Nat} {Ls : Array Slot} {st : List Value} (hd : decode c.code pc = .ok (.getfield index, 3)) (hq : pc + 3 = q)
    (k : ∀ T' : State, Stand p l e R s m args below meth c T' locs cells slots → T'.heap = h → Go p e below Q (T'.setTop (mkF m q Ls (v :: st)))) : Go p e below Q (T.setTop (mkF m pc Ls (.ref a :: st))) := by
  subst hq
  obtain ⟨T', X', e', st'⟩ := getF X hx hZ hown (host := "") (Or.inl w) Via.refl eT F (g := mkF m pc Ls (.ref a :: st)) rfl rfl hd
  exact Go.of st' (k T' X' e')
theorem Go.gets (X : Stand p l e R s m args below meth c T locs cells slots) (hx : p.tables.exec = Jvm.exec) (hZ : Z.Warmed39 s.vm) {own O n d : String} {index : Nat} (hown : s.vm.findClass own = some m.cls) (w : (Jvm.Cond.fieldLink own index O n d).before a0 Z = true) (eT : T.heap = h) {v : Value} (F : Sta Z h O n d v)
    {pc q : Nat} {Ls : Array Slot} {st : List Value} (hd : decode c.code pc = .ok (.getstatic index, 3)) (hq : pc + 3 = q)
    (k : ∀ T' : State, Stand p l e R s m args below meth c T' locs cells slots → T'.heap = h → Go p e below Q (T'.setTop (mkF m q Ls (v :: st)))) : Go p e below Q (T.setTop (mkF m pc Ls st)) := by
  subst hq
  obtain ⟨T', X', e', st'⟩ := getS X hx hZ hown (host := "") w Via.refl eT F (g := mkF m pc Ls st) rfl hd
  exact Go.of st' (k T' X' e')
theorem Go.putf (X : Stand p l e R s m args below meth c T locs cells slots) (hx : p.tables.exec = Jvm.exec) (hZ : Z.Warmed39 s.vm) {own O n d C : String} {index kk : Nat} {ty : FieldType} (hown : s.vm.findClass own = some m.cls) (w : (Jvm.Cond.fieldLink own index O n d).before a0 Z = true) (eT : T.heap = h) {a : Addr} {v old : Value} (F : Fld Z h a O n d old) (E : Exa Z h a C)
    (L : (Jvm.Cond.lays C O n d).before a0 Z = true ∨ ((Jvm.Cond.laysFinal C O n d).before a0 Z = true ∧ own = O ∧ meth.name = "<init>")) (wi : (Jvm.Cond.instantiable C kk).before a0 Z = true) (hty : parseFieldDescriptor d = some ty) (hn : narrow ty v = v) (hf : fits ty v = true)
    {pc q : Nat} {Ls : Array Slot} {st : List Value} (hd : decode c.code pc = .ok (.putfield index, 3)) (hq : pc + 3 = q)
    (k : ∀ (T' : State) (h' : Heap), Stand p l e R s m args below meth c T' (locs ++ [⟨a, Jvm.RoadKit.slotOf Z O n d⟩]) cells slots → T'.heap = h' → Wr h h' a (Jvm.RoadKit.slotOf Z O n d) v → Go p e below Q (T'.setTop (mkF m q Ls st))) : Go p e below Q (T.setTop (mkF m pc Ls (v :: .ref a :: st))) := by
  subst hq
  obtain ⟨T', h', X', e', W', st'⟩ := putF X hx hZ hown (host := "") (Or.inl w) Via.refl eT F E L wi hty hn hf (g := mkF m pc Ls (v :: .ref a :: st)) rfl rfl hd
  exact Go.of st' (k T' h' X' e' W')
theorem Go.init (X : Stand p l e R s m args below meth c T locs cells slots) (hx : p.tables.exec = Jvm.exec) (hZ : Z.Warmed39 s.vm) {own : String} {index : Nat} (hown : s.vm.findClass own = some m.cls) (w1 : (Jvm.Cond.methodLink own index Lib.objectInit).before a0 Z = true) (w2 : (Jvm.Cond.instanceMethod Lib.objectInit).before a0 Z = true) (w3 : (Jvm.Cond.code Lib.objectInit ⟨#[0xb1]⟩ 1 none).before a0 Z = true) (eT : T.heap = h)
    {pc q : Nat} {Ls : Array Slot} {st : List Value} {a : Addr} {W : Nat} (hd : decode c.code pc = .ok (.invokespecial index, 3)) (hsz : Ls.size = c.maxLocals) (hf : 1 ≤ R.frames) (hW : (st.map fun v => v.category).sum ≤ W) (hl : W + 12 ≤ R.locals) (hq : pc + 3 = q)
    (k : ∀ T' : State, Stand p l e R s m args below meth c T' locs cells slots → T'.heap = h → Go p e below Q (T'.setTop (mkF m q Ls st))) : Go p e below Q (T.setTop (mkF m pc Ls (.ref a :: st))) := by
  subst hq
  obtain ⟨T', X', e', st'⟩ := initO X hx hZ hown w1 w2 w3 eT (g := mkF m pc Ls (.ref a :: st)) rfl hsz rfl hd hf (W := W) (by show 2 * 0 + _ ≤ _; omega) hl
  exact Go.of st' (k T' X' e')
theorem Go.special (X : Stand p l e R s m args below meth c T locs cells slots) (hx : p.tables.exec = Jvm.exec) (hZ : Z.Warmed39 s.vm) {own : String} {index : Nat} {y : MethodName} (hy1 : y.name = "<init>") (hown : s.vm.findClass own = some m.cls) (w1 : (Jvm.Cond.methodLink own index y).before a0 Z = true) (w2 : (Jvm.Cond.instanceMethod y).before a0 Z = true)
    {bytes : ByteArray} {maxL : Nat} (w3 : (Jvm.Cond.code y bytes maxL none).before a0 Z = true) (wz : (Jvm.Cond.initialized y.cls).before a0 Z = true) (hy : y.cls ≠ "java/lang/invoke/MethodHandle" ∧ y.cls ≠ "java/lang/invoke/VarHandle")
    {rm : Room} {as' : Array Value} {Qv : Option Value → Heap → List Loc → Prop} (hM : Con l Z y bytes maxL none rm as' h Qv) (eT : T.heap = h) {pc q : Nat} {Ls : Array Slot} {st : List Value} {a : Addr} {argsL rest : List Value} {W : Nat} (hd : decode c.code pc = .ok (.invokespecial index, 3))
    (hst : st = argsL.reverse ++ .ref a :: rest) (has : as' = (.ref a :: argsL).toArray) (hlen : ∀ sig, parseMethodDescriptor y.desc = some sig → argsL.length = sig.parameters.length) (hsz : Ls.size = c.maxLocals) (hW : (rest.map fun v => v.category).sum ≤ W)
    (hf : rm.frames + 1 ≤ R.frames) (hl : W + (maxL + 11) + rm.locals ≤ R.locals) (hc : cells + rm.cells ≤ R.cells) (hs : slots + rm.slots ≤ R.slots) (hq : pc + 3 = q)
    (k : ∀ (T' : State) (L : List Loc) (v : Option Value), Stand p l e R s m args below meth c T' (locs ++ L) (cells + rm.cells) (slots + rm.slots) → Qv v T'.heap L → Go p e below Q (T'.setTop (mkF m q Ls (v.toList ++ rest)))) : Go p e below Q (T.setTop (mkF m pc Ls st)) := by
  subst hq hst has
  obtain ⟨v, vm₁, ⟨T', L', k', n'⟩, -, X', ⟨Lc, hQ, l1, y1, z1⟩, st'⟩ := X.specialBack hx (y := y) hy1 hown (mvT hZ w1) (mvT hZ w2) (mvT hZ w3) hy (backOf (W := W) hM hZ w3 wz hf hl) (g := mkF m pc Ls (argsL.reverse ++ .ref a :: rest)) rfl hsz (Steps.refl _) (a := a) (argsL := argsL) (rest := rest) hlen rfl (by show 2 * 0 + _ ≤ _; omega) hd (fun _ _ => ⟨rfl, eT, hc, hs⟩)
  dsimp only [Pt.U, Pt.locs, Pt.cells, Pt.slots] at X' l1 y1 z1 st' hQ
  subst l1 y1 z1
  exact Go.tr st' (k T' Lc v X' hQ)
theorem Go.virtual (X : Stand p l e R s m args below meth c T locs cells slots) (hx : p.tables.exec = Jvm.exec) (hZ : Z.Warmed39 s.vm) {own C : String} {index : Nat} {y : MethodName} (hown : s.vm.findClass own = some m.cls) (w1 : (Jvm.Cond.methodLink own index y).before a0 Z = true) (w2 : (Jvm.Cond.declares y).before a0 Z = true) (w3 : (Jvm.Cond.selects C y y).before a0 Z = true) (w4 : (Jvm.Cond.instanceMethod y).before a0 Z = true)
    {bytes : ByteArray} {maxL : Nat} {ret : Option FieldType} (w5 : (Jvm.Cond.code y bytes maxL ret).before a0 Z = true) (wz : (Jvm.Cond.initialized y.cls).before a0 Z = true) (hy : y.cls ≠ "java/lang/invoke/MethodHandle" ∧ y.cls ≠ "java/lang/invoke/VarHandle")
    {rm : Room} {as' : Array Value} {Qv : Option Value → Heap → List Loc → Prop} (hM : Con l Z y bytes maxL ret rm as' h Qv) (eT : T.heap = h) {a : Addr} (E : Exa Z h a C) {pc q : Nat} {Ls : Array Slot} {st : List Value} {argsL rest : List Value} {W : Nat} (hd : decode c.code pc = .ok (.invokevirtual index, 3))
    (hst : st = argsL.reverse ++ .ref a :: rest) (has : as' = (.ref a :: argsL).toArray) (hlen : ∀ sig, parseMethodDescriptor y.desc = some sig → argsL.length = sig.parameters.length) (hsz : Ls.size = c.maxLocals) (hW : (rest.map fun v => v.category).sum ≤ W)
    (hf : rm.frames + 1 ≤ R.frames) (hl : W + (maxL + 11) + rm.locals ≤ R.locals) (hc : cells + rm.cells ≤ R.cells) (hs : slots + rm.slots ≤ R.slots) (hq : pc + 3 = q)
    (k : ∀ (T' : State) (L : List Loc) (v : Option Value), Stand p l e R s m args below meth c T' (locs ++ L) (cells + rm.cells) (slots + rm.slots) → Qv v T'.heap L → Go p e below Q (T'.setTop (mkF m q Ls (v.toList ++ rest)))) : Go p e below Q (T.setTop (mkF m pc Ls st)) := by
  subst hq hst has
  obtain ⟨cq, kq, qa, -, qc⟩ := isOf hZ eT E
  obtain ⟨v, vm₁, ⟨T', L', k', n'⟩, -, X', ⟨Lc, hQ, l1, y1, z1⟩, st'⟩ := X.virtualBack hx (y := y) (z := y) hown (mvT hZ w1) (mvT hZ w2) (notFace_of_selects (args := #[]) (mvT hZ w3)) (mvT hZ w3) (mvT hZ w4) hy (backOf (W := W) hM hZ w5 wz hf hl) qa qc (g := mkF m pc Ls (argsL.reverse ++ .ref a :: rest)) rfl hsz (Steps.refl _) (argsL := argsL) (rest := rest) hlen rfl (by show 2 * 0 + _ ≤ _; omega) hd (fun _ _ => ⟨rfl, eT, hc, hs⟩)
  dsimp only [Pt.U, Pt.locs, Pt.cells, Pt.slots] at X' l1 y1 z1 st' hQ
  subst l1 y1 z1
  exact Go.tr st' (k T' Lc v X' hQ)
theorem Go.static (X : Stand p l e R s m args below meth c T locs cells slots) (hx : p.tables.exec = Jvm.exec) (hZ : Z.Warmed39 s.vm) {own : String} {index : Nat} {y : MethodName} (hown : s.vm.findClass own = some m.cls) (w1 : (Jvm.Cond.methodLink own index y).before a0 Z = true) (w2 : (Jvm.Cond.static y).before a0 Z = true)
    {bytes : ByteArray} {maxL : Nat} {ret : Option FieldType} (w3 : (Jvm.Cond.code y bytes maxL ret).before a0 Z = true) (wz : (Jvm.Cond.initialized y.cls).before a0 Z = true) (hy : y.cls ≠ "java/lang/invoke/MethodHandle" ∧ y.cls ≠ "java/lang/invoke/VarHandle")
    {rm : Room} {as' : Array Value} {Qv : Option Value → Heap → List Loc → Prop} (hM : Con l Z y bytes maxL ret rm as' h Qv) (eT : T.heap = h) {pc q : Nat} {Ls : Array Slot} {st : List Value} {argsL rest : List Value} {W : Nat} (hd : decode c.code pc = .ok (.invokestatic index, 3))
    (hst : st = argsL.reverse ++ rest) (has : as' = argsL.toArray) (hlen : ∀ sig, parseMethodDescriptor y.desc = some sig → argsL.length = sig.parameters.length) (hsz : Ls.size = c.maxLocals) (hW : (rest.map fun v => v.category).sum ≤ W)
    (hf : rm.frames + 1 ≤ R.frames) (hl : W + (maxL + 11) + rm.locals ≤ R.locals) (hc : cells + rm.cells ≤ R.cells) (hs : slots + rm.slots ≤ R.slots) (hq : pc + 3 = q)
    (k : ∀ (T' : State) (L : List Loc) (v : Option Value), Stand p l e R s m args below meth c T' (locs ++ L) (cells + rm.cells) (slots + rm.slots) → Qv v T'.heap L → Go p e below Q (T'.setTop (mkF m q Ls (v.toList ++ rest)))) : Go p e below Q (T.setTop (mkF m pc Ls st)) := by
  subst hq hst has
  obtain ⟨v, vm₁, ⟨T', L', k', n'⟩, -, X', ⟨Lc, hQ, l1, y1, z1⟩, st'⟩ := Jvm.LawKit.callS X hx (y := y) hown (mvT hZ w1) (mvT hZ w2) (mvT hZ wz) (mvT hZ w3) hy (backOf (W := W) hM hZ w3 wz hf hl) (g := mkF m pc Ls (argsL.reverse ++ rest)) rfl hsz (argsL := argsL) (rest := rest) hlen rfl (by show 2 * 0 + _ ≤ _; omega) hd (fun _ _ => ⟨rfl, eT, hc, hs⟩)
  dsimp only [Pt.U, Pt.locs, Pt.cells, Pt.slots] at X' l1 y1 z1 st' hQ
  subst l1 y1 z1
  exact Go.of st' (k T' Lc v X' hQ)
/-- a static call that a payer of the library answers, and that leaves all as it was -/
theorem Go.nat (X : Stand p l e R s m args below meth c T locs cells slots) (hx : p.tables.exec = Jvm.exec) (hZ : Z.Warmed39 s.vm) {own : String} {index : Nat} {y : MethodName} (hown : s.vm.findClass own = some m.cls) (w1 : (Jvm.Cond.methodLink own index y).before a0 Z = true) (w2 : (Jvm.Cond.static y).before a0 Z = true) (w3 : (Jvm.Cond.initialized y.cls).before a0 Z = true)
    {by0 : ByteArray} {ml : Nat} {rt : Option FieldType} (w4 : (Jvm.Cond.code y by0 ml rt).before a0 Z = true) (hy : y.cls ≠ "java/lang/invoke/MethodHandle" ∧ y.cls ≠ "java/lang/invoke/VarHandle") (eT : T.heap = h) {W : Nat} {F : Array Value → Prop} {val : Value}
    (hK : (Jvm.Cond.code y by0 ml rt).before args s = true → Back l R p e below s args y 3 W (fun A a' => A.cells ≤ R.cells ∧ A.slots ≤ R.slots ∧ F a') (fun A _ v B => v = some val ∧ B = A))
    {pc q : Nat} {Ls : Array Slot} {st : List Value} {argsL rest : List Value} (hd : decode c.code pc = .ok (.invokestatic index, 3)) (hst : st = argsL.reverse ++ rest) (hlen : ∀ sig, parseMethodDescriptor y.desc = some sig → argsL.length = sig.parameters.length) (hsz : Ls.size = c.maxLocals) (hW : (rest.map fun v => v.category).sum ≤ W)
    (hc : cells ≤ R.cells) (hs : slots ≤ R.slots) (hF : F argsL.toArray) (hq : pc + 3 = q)
    (k : ∀ T' : State, Stand p l e R s m args below meth c T' locs cells slots → T'.heap = h → Go p e below Q (T'.setTop (mkF m q Ls (val :: rest)))) : Go p e below Q (T.setTop (mkF m pc Ls st)) := by
  subst hq hst
  obtain ⟨T', X', e', st'⟩ := natS X hx hZ hown w1 w2 w3 w4 hy eT hK (g := mkF m pc Ls (argsL.reverse ++ rest)) rfl hsz hlen rfl (by show 2 * 0 + _ ≤ _; omega) hd hc hs hF rfl
  exact Go.of st' (k T' X' e')
/-! words of the sheet by their place -/
theorem word {ts : List Jvm.Cond} (hw : ∀ d ∈ ts, d.before a0 Z = true) {d : Jvm.Cond} (i : Nat) (hi : ts[i]? = some d) : d.before a0 Z = true := hw _ (List.mem_of_getElem? hi)
end OwnHeap

theorem pd0 : parseMethodDescriptor "()V" = some ⟨[], none⟩ := by decide +kernel
theorem pd1 : parseMethodDescriptor "(JJJ)V" = some ⟨[.long, .long, .long], none⟩ := by decide +kernel
theorem pd2 : parseMethodDescriptor "()D" = some ⟨[], some .double⟩ := by decide +kernel
/-! how far a rounded result lies from the exact one, at the most -/
section OwnErr
open Jvm.FP Jvm.FP.Core Jvm.Free.Fl
theorem grid_lo {X M : Int} (hM : 0 < M) : X / M * M ≤ X := Int.ediv_mul_le _ (by omega)
theorem grid_hi {X M : Int} (hM : 0 < M) : X ≤ (X / M + 1) * M := Int.le_of_lt (Int.lt_ediv_add_one_mul_self _ hM)
theorem grid_abs {X M : Int} (hM : 0 < M) (h1 : -(4503599627370496 * M) ≤ X) (h2 : X ≤ 4503599627370496 * M) : (X / M).natAbs ≤ 4503599627370496 ∧ (X / M + 1).natAbs ≤ 2 ^ 53 := by
  have a1 : -4503599627370496 ≤ X / M := (Int.le_ediv_iff_mul_le hM).mpr (by rw [Int.neg_mul]; exact h1)
  have a2 : X / M ≤ 4503599627370496 := Int.le_of_mul_le_mul_right (Int.le_trans (grid_lo hM) h2) hM
  omega
theorem add_err {a b : UInt64} (ha : DFin a) (hb : DFin b) {g : Nat} (hg : g ≤ 2044) (h1 : -(4503599627370496 * P2 g) ≤ Zv a + Zv b) (h2 : Zv a + Zv b ≤ 4503599627370496 * P2 g) :
    DFin (FP.dadd a b) ∧ Zv a + Zv b - P2 g ≤ Zv (FP.dadd a b) ∧ Zv (FP.dadd a b) ≤ Zv a + Zv b + P2 g := by
  have hp := P2_pos g
  obtain ⟨n1, n2⟩ := grid_abs hp h1 h2
  have l := grid_lo (X := Zv a + Zv b) hp
  have u := grid_hi (X := Zv a + Zv b) hp
  obtain ⟨r1, r2, r3⟩ := add_in ha hb (rep_mk ((Zv a + Zv b) / P2 g) g (by omega) hg) (rep_mk ((Zv a + Zv b) / P2 g + 1) g n2 hg) l u
  rw [Int.add_mul, Int.one_mul] at u r3
  exact ⟨r1, by omega, by omega⟩
theorem sub_err {a b : UInt64} (ha : DFin a) (hb : DFin b) {g : Nat} (hg : g ≤ 2044) (h1 : -(4503599627370496 * P2 g) ≤ Zv a - Zv b) (h2 : Zv a - Zv b ≤ 4503599627370496 * P2 g) :
    DFin (FP.dsub a b) ∧ Zv a - Zv b - P2 g ≤ Zv (FP.dsub a b) ∧ Zv (FP.dsub a b) ≤ Zv a - Zv b + P2 g := by
  have hp := P2_pos g
  obtain ⟨n1, n2⟩ := grid_abs hp h1 h2
  have l := grid_lo (X := Zv a - Zv b) hp
  have u := grid_hi (X := Zv a - Zv b) hp
  obtain ⟨r1, r2, r3⟩ := sub_in ha hb (rep_mk ((Zv a - Zv b) / P2 g) g (by omega) hg) (rep_mk ((Zv a - Zv b) / P2 g + 1) g n2 hg) l u
  rw [Int.add_mul, Int.one_mul] at u r3
  exact ⟨r1, by omega, by omega⟩
theorem mul_err {a b : UInt64} (ha : DFin a) (hb : DFin b) {g : Nat} (hg : g ≤ 2044) (h1 : -(4503599627370496 * (P2 g * P2 1074)) ≤ Zv a * Zv b) (h2 : Zv a * Zv b ≤ 4503599627370496 * (P2 g * P2 1074)) :
    DFin (FP.dmul a b) ∧ Zv a * Zv b - P2 g * P2 1074 ≤ Zv (FP.dmul a b) * P2 1074 ∧ Zv (FP.dmul a b) * P2 1074 ≤ Zv a * Zv b + P2 g * P2 1074 := by
  have hU := P2_pos 1074
  have hp : 0 < P2 g * P2 1074 := Int.mul_pos (P2_pos g) hU
  obtain ⟨n1, n2⟩ := grid_abs hp h1 h2
  have l := grid_lo (X := Zv a * Zv b) hp
  have u := grid_hi (X := Zv a * Zv b) hp
  have e : ∀ k : Int, k * P2 g * P2 1074 = k * (P2 g * P2 1074) := fun k => Int.mul_assoc _ _ _
  obtain ⟨r1, r2, r3⟩ := mul_in ha hb (rep_mk (Zv a * Zv b / (P2 g * P2 1074)) g (by omega) hg) (rep_mk (Zv a * Zv b / (P2 g * P2 1074) + 1) g n2 hg) (by rw [e]; exact l) (by rw [e]; exact u)
  have r2' := Int.mul_le_mul_of_nonneg_right r2 (Int.le_of_lt hU)
  have r3' := Int.mul_le_mul_of_nonneg_right r3 (Int.le_of_lt hU)
  rw [e] at r2' r3'
  rw [Int.add_mul, Int.one_mul] at u r3'
  exact ⟨r1, by omega, by omega⟩
theorem div_err {a b : UInt64} (ha : DFin a) (hb : DFin b) (hz : 0 < Zv b) {g : Nat} (hg : g ≤ 2044) (h1 : -(4503599627370496 * (P2 g * Zv b)) ≤ Zv a * P2 1074) (h2 : Zv a * P2 1074 ≤ 4503599627370496 * (P2 g * Zv b)) :
    DFin (FP.ddiv a b) ∧ Zv a * P2 1074 - P2 g * Zv b ≤ Zv (FP.ddiv a b) * Zv b ∧ Zv (FP.ddiv a b) * Zv b ≤ Zv a * P2 1074 + P2 g * Zv b := by
  have hp : 0 < P2 g * Zv b := Int.mul_pos (P2_pos g) hz
  obtain ⟨n1, n2⟩ := grid_abs hp h1 h2
  have l := grid_lo (X := Zv a * P2 1074) hp
  have u := grid_hi (X := Zv a * P2 1074) hp
  have e : ∀ k : Int, k * P2 g * Zv b = k * (P2 g * Zv b) := fun k => Int.mul_assoc _ _ _
  obtain ⟨r1, r2, r3⟩ := div_in ha hb hz (rep_mk (Zv a * P2 1074 / (P2 g * Zv b)) g (by omega) hg) (rep_mk (Zv a * P2 1074 / (P2 g * Zv b) + 1) g n2 hg) (by rw [e]; exact l) (by rw [e]; exact u)
  have r2' := Int.mul_le_mul_of_nonneg_right r2 (Int.le_of_lt hz)
  have r3' := Int.mul_le_mul_of_nonneg_right r3 (Int.le_of_lt hz)
  rw [e] at r2' r3'
  rw [Int.add_mul, Int.one_mul] at u r3'
  exact ⟨r1, by omega, by omega⟩
/-- a quotient of the doubled is the same -/
theorem div_twice {a b a' b' : UInt64} (ha : DFin a) (hb : DFin b) (ha' : DFin a') (hb' : DFin b') (hz : 0 < Zv b) (h0 : 0 ≤ Zv a) (s0 : sgn (val64 a) = false) (s1 : sgn (val64 a') = false) (e1 : Zv a' = 2 * Zv a) (e2 : Zv b' = 2 * Zv b) : FP.ddiv a' b' = FP.ddiv a b := by
  have hnn : val64 (FP.ddiv a' b') ≠ .nan := not_nan (Core.ddiv_out ha'.notNaN hb' (pos_nz (by omega)))
  refine val64_inj hnn ?_
  obtain ⟨s, c, q, hva⟩ := ha
  obtain ⟨t, d, r, hvb⟩ := hb
  obtain ⟨s', c', q', hva'⟩ := ha'
  obtain ⟨t', d', r', hvb'⟩ := hb'
  rw [hva] at s0
  rw [hva'] at s1
  have hs : s = false := s0
  have hs' : s' = false := s1
  subst hs hs'
  have fa := val64_fits a
  have fb := val64_fits b
  have fa' := val64_fits a'
  have fb' := val64_fits b'
  rw [hva] at fa
  rw [hvb] at fb
  rw [hva'] at fa'
  rw [hvb'] at fb'
  have z1 : Zv a = (inUnits c q b64.qmin : Int) := by unfold Zv; rw [hva]; rfl
  have z1' : Zv a' = (inUnits c' q' b64.qmin : Int) := by unfold Zv; rw [hva']; rfl
  have z2 : Zv b = signed t (inUnits d r b64.qmin) := by unfold Zv; rw [hvb]; rfl
  have z2' : Zv b' = signed t' (inUnits d' r' b64.qmin) := by unfold Zv; rw [hvb']; rfl
  have ht : t = false := by
    cases t with
    | false => rfl
    | true => rw [z2] at hz; simp only [signed, if_true] at hz; omega
  have ht' : t' = false := by
    cases t' with
    | false => rfl
    | true => rw [e2] at z2'; simp only [signed, if_true] at z2'; omega
  subst ht ht'
  simp only [signed, Bool.false_eq_true, if_false] at z2 z2'
  have hd : 0 < d := by
    rcases Nat.eq_zero_or_pos d with z | z
    · rw [z] at z2; have : inUnits 0 r b64.qmin = 0 := Nat.zero_mul _; omega
    · exact z
  have hd' : 0 < d' := by
    rcases Nat.eq_zero_or_pos d' with z | z
    · rw [z] at z2'; have : inUnits 0 r' b64.qmin = 0 := Nat.zero_mul _; omega
    · exact z
  have m1 : inUnits c' q' b64.qmin = 2 * inUnits c q b64.qmin := by omega
  have m2 : inUnits d' r' b64.qmin = 2 * inUnits d r b64.qmin := by omega
  rw [val64_ddiv, val64_ddiv, hva, hvb, hva', hvb']
  show (if d' = 0 then _ else roundRatio b64 (false != false) c' d' (q' - r')) = (if d = 0 then _ else roundRatio b64 (false != false) c d (q - r))
  rw [if_neg (by omega), if_neg (by omega)]
  refine roundRatio_congr hd' hd ?_
  have f1 := fa.2.1
  have f2 := fb.2.1
  have f1' := fa'.2.1
  have f2' := fb'.2.1
  have key : inUnits c' q' b64.qmin * inUnits d r b64.qmin = inUnits c q b64.qmin * inUnits d' r' b64.qmin := by rw [m1, m2]; ((try generalize P2 1074 = U1); (try generalize P2 1073 = U2); (try generalize P2 1072 = U3); (try generalize P2 (1074 - e) = U4); (try generalize P2 e = U5); (try generalize P2 1021 = U6); (try generalize P2 53 = U7); (try generalize P2 1049 = U8); (try generalize P2 1045 = U9); (try generalize P2 1047 = V1); (try generalize P2 1048 = V2); ac_rfl)
  unfold inUnits at key
  have k1 : c' * d * 2 ^ ((q' - b64.qmin).toNat + (r - b64.qmin).toNat) = c * d' * 2 ^ ((q - b64.qmin).toNat + (r' - b64.qmin).toNat) := by
    rw [Nat.pow_add, Nat.pow_add]
    calc c' * d * (2 ^ (q' - b64.qmin).toNat * 2 ^ (r - b64.qmin).toNat) = c' * 2 ^ (q' - b64.qmin).toNat * (d * 2 ^ (r - b64.qmin).toNat) := by ((try generalize P2 1074 = U1); (try generalize P2 1073 = U2); (try generalize P2 1072 = U3); (try generalize P2 (1074 - e) = U4); (try generalize P2 e = U5); (try generalize P2 1021 = U6); (try generalize P2 53 = U7); (try generalize P2 1049 = U8); (try generalize P2 1045 = U9); (try generalize P2 1047 = V1); (try generalize P2 1048 = V2); ac_rfl)
      _ = c * 2 ^ (q - b64.qmin).toNat * (d' * 2 ^ (r' - b64.qmin).toNat) := key
      _ = _ := by ((try generalize P2 1074 = U1); (try generalize P2 1073 = U2); (try generalize P2 1072 = U3); (try generalize P2 (1074 - e) = U4); (try generalize P2 e = U5); (try generalize P2 1021 = U6); (try generalize P2 53 = U7); (try generalize P2 1049 = U8); (try generalize P2 1045 = U9); (try generalize P2 1047 = V1); (try generalize P2 1048 = V2); ac_rfl)
  rcases Int.le_total (q' - r') (q - r) with hle | hle
  · rw [show (q' - r' - (q - r)).toNat = 0 by omega, Nat.pow_zero, Nat.mul_one]
    rw [show (q - b64.qmin).toNat + (r' - b64.qmin).toNat = (q - r - (q' - r')).toNat + ((q' - b64.qmin).toNat + (r - b64.qmin).toNat) by omega, Nat.pow_add 2 (q - r - (q' - r')).toNat, ← Nat.mul_assoc] at k1
    exact Nat.eq_of_mul_eq_mul_right (Nat.two_pow_pos _) k1
  · rw [show (q - r - (q' - r')).toNat = 0 by omega, Nat.pow_zero, Nat.mul_one]
    rw [show (q' - b64.qmin).toNat + (r - b64.qmin).toNat = (q' - r' - (q - r)).toNat + ((q - b64.qmin).toNat + (r' - b64.qmin).toNat) by omega, Nat.pow_add 2 (q' - r' - (q - r)).toNat, ← Nat.mul_assoc] at k1
    exact Nat.eq_of_mul_eq_mul_right (Nat.two_pow_pos _) k1
end OwnErr

section OwnLaw
open Jvm.FP Jvm.FP.Core Jvm.Free.Fl
def own_part (n w : Int64) : UInt64 := if w = 0 then 0 else FP.ddiv (FP.dmul 4636737291354636288 (FP.l2d n)) (FP.l2d w)
def own_pq (x y : UInt64) : UInt64 := FP.dsub (FP.dmul 4588634794094654757 x) (FP.dmul 4599003881876712587 y)
def own_fin (x y : UInt64) : UInt64 := FP.dsub (own_pq x y) 4625084227318815130
/-- what colemanLiau gives -/
def own_cl (l w s : Int64) : UInt64 := own_fin (own_part l w) (own_part s w)
def own_cnn (l w s : Int64) : Prop := NoNaN64 (own_pq (own_part l w) (own_part s w)) ∧ NoNaN64 (own_cl l w s)
theorem f100 : DFin 4636737291354636288 ∧ Zv 4636737291354636288 = 100 * P2 1074 := ⟨(fin_bits _).mpr (by decide), by unfold Zv P2; decide +kernel⟩
theorem fc1 : DFin 4588634794094654757 ∧ 58 * P2 1074 ≤ 1000 * Zv 4588634794094654757 ∧ 1000 * Zv 4588634794094654757 ≤ 59 * P2 1074 := ⟨(fin_bits _).mpr (by decide), by unfold Zv P2; decide +kernel, by unfold Zv P2; decide +kernel⟩
theorem fc2 : DFin 4599003881876712587 ∧ 295 * P2 1074 ≤ 1000 * Zv 4599003881876712587 ∧ 1000 * Zv 4599003881876712587 ≤ 297 * P2 1074 := ⟨(fin_bits _).mpr (by decide), by unfold Zv P2; decide +kernel, by unfold Zv P2; decide +kernel⟩
theorem fc3 : DFin 4625084227318815130 ∧ 15 * P2 1074 ≤ Zv 4625084227318815130 ∧ Zv 4625084227318815130 ≤ 16 * P2 1074 := ⟨(fin_bits _).mpr (by decide), by unfold Zv P2; decide +kernel, by unfold Zv P2; decide +kernel⟩
theorem own_nn1 {n : Int64} {x : UInt64} (h : FP.l2d n = x) : NoNaN64 (FP.dmul 4636737291354636288 x) := by subst h; exact noNaN64_no.mpr (Core.dmul_out f100.1 (l2d_dfin n))
theorem own_nn2 {n w : Int64} {x y z : UInt64} (h : FP.l2d n = x) (h2 : FP.dmul 4636737291354636288 x = y) (h3 : FP.l2d w = z) (hw : ¬ w = 0) : NoNaN64 (FP.ddiv y z) := by
  subst h h3 h2
  exact noNaN64_no.mpr (Core.ddiv_out (Core.dmul_out f100.1 (l2d_dfin n)) (l2d_dfin w) (fun z => Core.l2d_ne_zero hw ((Core.zero_bits2 _).mp z)))
theorem own_nnc {k x : UInt64} (hk : Fin64 k) (hz : Nz64 k) (hx : NoNaN64 x) : NoNaN64 (FP.dmul k x) := by
  rw [show FP.dmul k x = FP.dmul x k from Core.dmul_comm k x]; exact dmul_outNz hx hk hz
theorem own_part_nn (n w : Int64) : NoNaN64 (own_part n w) := by
  unfold own_part
  split
  · exact (nn_of zero_fin)
  · rename_i h; exact own_nn2 rfl rfl rfl h
/-! the sizes: e is 2 to the -29 -/
theorem pU : P2 1074 = 536870912 * P2 1045 := by rw [show (1074 : Nat) = 29 + 1045 from rfl, P2_add]; rfl
theorem p47 : P2 1047 = 4 * P2 1045 := by rw [show (1047 : Nat) = 2 + 1045 from rfl, P2_add]; rfl
theorem p48 : P2 1048 = 8 * P2 1045 := by rw [show (1048 : Nat) = 3 + 1045 from rfl, P2_add]; rfl
theorem p49 : P2 1049 = 16 * P2 1045 := by rw [show (1049 : Nat) = 4 + 1045 from rfl, P2_add]; rfl
theorem own_hund {n : Int64} (h0 : 0 ≤ n.toInt) (h1 : n.toInt ≤ 4194304) : DFin (FP.dmul 4636737291354636288 (FP.l2d n)) ∧ Zv (FP.dmul 4636737291354636288 (FP.l2d n)) = 100 * n.toInt * P2 1074 := by
  have zn : Zv (FP.l2d n) = n.toInt * P2 1074 := l2d_eq (by omega)
  exact mul_eq f100.1 (l2d_dfin n) (rep_int _ (by omega)) (by rw [f100.2, zn]; ((try generalize P2 1074 = U1); (try generalize P2 1073 = U2); (try generalize P2 1072 = U3); (try generalize P2 (1074 - e) = U4); (try generalize P2 e = U5); (try generalize P2 1021 = U6); (try generalize P2 53 = U7); (try generalize P2 1049 = U8); (try generalize P2 1045 = U9); (try generalize P2 1047 = V1); (try generalize P2 1048 = V2); ac_rfl))
theorem own_part_in {n w : Int64} (h0 : 0 ≤ n.toInt) (h1 : n.toInt ≤ 1048576) (w0 : 1 ≤ w.toInt) (w1 : w.toInt ≤ 1048576) :
    DFin (own_part n w) ∧ 100 * n.toInt * P2 1074 - P2 1049 * w.toInt ≤ Zv (own_part n w) * w.toInt ∧ Zv (own_part n w) * w.toInt ≤ 100 * n.toInt * P2 1074 + P2 1049 * w.toInt ∧ 0 ≤ Zv (own_part n w) ∧ Zv (own_part n w) ≤ 104857600 * P2 1074 := by
  have hw : ¬ w = 0 := fun z => by rw [z] at w0; exact absurd w0 (by decide)
  have hU := P2_pos 1074
  have h45 := P2_pos 1045
  obtain ⟨f, z⟩ := own_hund h0 (by omega)
  have zw : Zv (FP.l2d w) = w.toInt * P2 1074 := l2d_eq (by omega)
  have pw : 0 < Zv (FP.l2d w) := by rw [zw]; exact Int.mul_pos (by omega) hU
  have hUU : 0 < P2 1074 * P2 1074 := Int.mul_pos hU hU
  have n0 : 0 ≤ n.toInt * (P2 1074 * P2 1074) := Int.mul_nonneg h0 (Int.le_of_lt hUU)
  have n1 : n.toInt * (P2 1074 * P2 1074) ≤ 1048576 * (P2 1074 * P2 1074) := Int.mul_le_mul_of_nonneg_right h1 (Int.le_of_lt hUU)
  have ww : 1 * (P2 1074 * P2 1074) ≤ w.toInt * (P2 1074 * P2 1074) := Int.mul_le_mul_of_nonneg_right w0 (Int.le_of_lt hUU)
  have e1 : 100 * n.toInt * P2 1074 * P2 1074 = 100 * (n.toInt * (P2 1074 * P2 1074)) := by rw [Int.mul_assoc, Int.mul_assoc]
  have eg : 4503599627370496 * (P2 1049 * (w.toInt * P2 1074)) = 134217728 * (w.toInt * (P2 1074 * P2 1074)) := by
    have : (4503599627370496 : Int) * P2 1049 = 134217728 * P2 1074 := by rw [p49, pU]; omega
    calc 4503599627370496 * (P2 1049 * (w.toInt * P2 1074)) = (4503599627370496 * P2 1049) * (w.toInt * P2 1074) := by ((try generalize P2 1074 = U1); (try generalize P2 1073 = U2); (try generalize P2 1072 = U3); (try generalize P2 (1074 - e) = U4); (try generalize P2 e = U5); (try generalize P2 1021 = U6); (try generalize P2 53 = U7); (try generalize P2 1049 = U8); (try generalize P2 1045 = U9); (try generalize P2 1047 = V1); (try generalize P2 1048 = V2); ac_rfl)
      _ = 134217728 * P2 1074 * (w.toInt * P2 1074) := by rw [this]
      _ = _ := by ((try generalize P2 1074 = U1); (try generalize P2 1073 = U2); (try generalize P2 1072 = U3); (try generalize P2 (1074 - e) = U4); (try generalize P2 e = U5); (try generalize P2 1021 = U6); (try generalize P2 53 = U7); (try generalize P2 1049 = U8); (try generalize P2 1045 = U9); (try generalize P2 1047 = V1); (try generalize P2 1048 = V2); ac_rfl)
  obtain ⟨d1, d2, d3⟩ := div_err f (l2d_dfin w) pw (g := 1049) (by decide) (by rw [z, zw, e1, eg]; omega) (by rw [z, zw, e1, eg]; omega)
  have lo := div_ge f (l2d_dfin w) pw rep_zero (by rw [z, Int.zero_mul, e1]; omega)
  have hi := div_le f (l2d_dfin w) pw (V := 104857600 * P2 1074) (rep_int _ (by decide)) (by
    rw [z, zw, e1]
    have : 104857600 * P2 1074 * (w.toInt * P2 1074) = 104857600 * (w.toInt * (P2 1074 * P2 1074)) := by ((try generalize P2 1074 = U1); (try generalize P2 1073 = U2); (try generalize P2 1072 = U3); (try generalize P2 (1074 - e) = U4); (try generalize P2 e = U5); (try generalize P2 1021 = U6); (try generalize P2 53 = U7); (try generalize P2 1049 = U8); (try generalize P2 1045 = U9); (try generalize P2 1047 = V1); (try generalize P2 1048 = V2); ac_rfl)
    omega)
  have ev : own_part n w = FP.ddiv (FP.dmul 4636737291354636288 (FP.l2d n)) (FP.l2d w) := by unfold own_part; rw [if_neg hw]
  rw [ev]
  rw [z, zw] at d2 d3
  have c1 : ∀ k : Int, k * (w.toInt * P2 1074) = k * w.toInt * P2 1074 := fun k => (Int.mul_assoc _ _ _).symm
  rw [c1, c1] at d2 d3
  have g2 : (100 * n.toInt * P2 1074 - P2 1049 * w.toInt) * P2 1074 ≤ Zv (FP.ddiv (FP.dmul 4636737291354636288 (FP.l2d n)) (FP.l2d w)) * w.toInt * P2 1074 := by rw [Int.sub_mul]; exact d2
  have g3 : Zv (FP.ddiv (FP.dmul 4636737291354636288 (FP.l2d n)) (FP.l2d w)) * w.toInt * P2 1074 ≤ (100 * n.toInt * P2 1074 + P2 1049 * w.toInt) * P2 1074 := by rw [Int.add_mul]; exact d3
  exact ⟨d1, Int.le_of_mul_le_mul_right g2 hU, Int.le_of_mul_le_mul_right g3 hU, lo, hi⟩
theorem own_prod {k x : UInt64} {g : Nat} {A B H : Int} (hk : DFin k) (hx : DFin x) (hg : g ≤ 2044) (hk0 : 0 ≤ Zv k) (hk1 : 1000 * Zv k ≤ A * P2 1074) (x0 : 0 ≤ Zv x) (x1 : Zv x ≤ 104857600 * P2 1074) (hA : 0 ≤ A) (hB : A * 104857600 * P2 1074 ≤ 1000 * (4503599627370496 * P2 g)) :
    DFin (FP.dmul k x) ∧ Zv k * Zv x - P2 g * P2 1074 ≤ Zv (FP.dmul k x) * P2 1074 ∧ Zv (FP.dmul k x) * P2 1074 ≤ Zv k * Zv x + P2 g * P2 1074 := by
  have hU := P2_pos 1074
  have m0 := Int.mul_nonneg hk0 x0
  have m1 : 1000 * Zv k * Zv x ≤ A * P2 1074 * (104857600 * P2 1074) := Int.mul_le_mul hk1 x1 x0 (Int.mul_nonneg hA (by omega))
  have e1 : 1000 * Zv k * Zv x = 1000 * (Zv k * Zv x) := Int.mul_assoc _ _ _
  have e2 : A * P2 1074 * (104857600 * P2 1074) = A * 104857600 * P2 1074 * P2 1074 := by ((try generalize P2 1074 = U1); (try generalize P2 1073 = U2); (try generalize P2 1072 = U3); (try generalize P2 (1074 - e) = U4); (try generalize P2 e = U5); (try generalize P2 1021 = U6); (try generalize P2 53 = U7); (try generalize P2 1049 = U8); (try generalize P2 1045 = U9); (try generalize P2 1047 = V1); (try generalize P2 1048 = V2); ac_rfl)
  have m2 := Int.mul_le_mul_of_nonneg_right hB (Int.le_of_lt hU)
  have e3 : 1000 * (4503599627370496 * P2 g) * P2 1074 = 1000 * (4503599627370496 * (P2 g * P2 1074)) := by rw [Int.mul_assoc, Int.mul_assoc]
  have pg := Int.mul_pos (P2_pos g) hU
  exact mul_err hk hx hg (by omega) (by omega)
/-- all roundings of one score -/
def own_all (x y : UInt64) : Prop :=
  DFin (FP.dmul 4588634794094654757 x) ∧ DFin (FP.dmul 4599003881876712587 y) ∧ DFin (own_pq x y) ∧ DFin (own_fin x y) ∧
  (Zv 4588634794094654757 * Zv x - P2 1045 * P2 1074 ≤ Zv (FP.dmul 4588634794094654757 x) * P2 1074 ∧ Zv (FP.dmul 4588634794094654757 x) * P2 1074 ≤ Zv 4588634794094654757 * Zv x + P2 1045 * P2 1074) ∧
  (Zv 4599003881876712587 * Zv y - P2 1047 * P2 1074 ≤ Zv (FP.dmul 4599003881876712587 y) * P2 1074 ∧ Zv (FP.dmul 4599003881876712587 y) * P2 1074 ≤ Zv 4599003881876712587 * Zv y + P2 1047 * P2 1074) ∧
  (Zv (FP.dmul 4588634794094654757 x) - Zv (FP.dmul 4599003881876712587 y) - P2 1047 ≤ Zv (own_pq x y) ∧ Zv (own_pq x y) ≤ Zv (FP.dmul 4588634794094654757 x) - Zv (FP.dmul 4599003881876712587 y) + P2 1047) ∧
  (Zv (own_pq x y) - Zv 4625084227318815130 - P2 1048 ≤ Zv (own_fin x y) ∧ Zv (own_fin x y) ≤ Zv (own_pq x y) - Zv 4625084227318815130 + P2 1048)
theorem own_all_of {x y : UInt64} (fx : DFin x) (fy : DFin y) (x0 : 0 ≤ Zv x) (x1 : Zv x ≤ 104857600 * P2 1074) (y0 : 0 ≤ Zv y) (y1 : Zv y ≤ 104857600 * P2 1074) : own_all x y := by
  have hU := P2_pos 1074
  have h45 := P2_pos 1045
  have k1 := fc1
  have k2 := fc2
  have k3 := fc3
  obtain ⟨p1, p2, p3⟩ := own_prod (A := 59) (B := 0) (H := 0) k1.1 fx (g := 1045) (by decide) (by omega) k1.2.2 x0 x1 (by decide) (by rw [pU]; omega)
  obtain ⟨q1, q2, q3⟩ := own_prod (A := 297) (B := 0) (H := 0) k2.1 fy (g := 1047) (by decide) (by omega) k2.2.2 y0 y1 (by decide) (by rw [p47, pU]; omega)
  have mx := Int.mul_nonneg (show 0 ≤ Zv 4588634794094654757 by omega) x0
  have my := Int.mul_nonneg (show 0 ≤ Zv 4599003881876712587 by omega) y0
  have bx : 1000 * Zv 4588634794094654757 * Zv x ≤ 59 * P2 1074 * (104857600 * P2 1074) := Int.mul_le_mul k1.2.2 x1 x0 (by omega)
  have by' : 1000 * Zv 4599003881876712587 * Zv y ≤ 297 * P2 1074 * (104857600 * P2 1074) := Int.mul_le_mul k2.2.2 y1 y0 (by omega)
  have e1 : 1000 * Zv 4588634794094654757 * Zv x = 1000 * (Zv 4588634794094654757 * Zv x) := Int.mul_assoc _ _ _
  have e2 : 1000 * Zv 4599003881876712587 * Zv y = 1000 * (Zv 4599003881876712587 * Zv y) := Int.mul_assoc _ _ _
  have e3 : 59 * P2 1074 * (104857600 * P2 1074) = 6186598400 * P2 1074 * P2 1074 := by
    rw [show (6186598400 : Int) = 59 * 104857600 from rfl]; ((try generalize P2 1074 = U1); (try generalize P2 1073 = U2); (try generalize P2 1072 = U3); (try generalize P2 (1074 - e) = U4); (try generalize P2 e = U5); (try generalize P2 1021 = U6); (try generalize P2 53 = U7); (try generalize P2 1049 = U8); (try generalize P2 1045 = U9); (try generalize P2 1047 = V1); (try generalize P2 1048 = V2); ac_rfl)
  have e4 : 297 * P2 1074 * (104857600 * P2 1074) = 31142707200 * P2 1074 * P2 1074 := by
    rw [show (31142707200 : Int) = 297 * 104857600 from rfl]; ((try generalize P2 1074 = U1); (try generalize P2 1073 = U2); (try generalize P2 1072 = U3); (try generalize P2 (1074 - e) = U4); (try generalize P2 e = U5); (try generalize P2 1021 = U6); (try generalize P2 53 = U7); (try generalize P2 1049 = U8); (try generalize P2 1045 = U9); (try generalize P2 1047 = V1); (try generalize P2 1048 = V2); ac_rfl)
  have s1 : P2 1045 ≤ P2 1074 := by rw [pU]; omega
  have s2 : P2 1047 ≤ P2 1074 := by rw [p47, pU]; omega
  have t1 := Int.mul_le_mul_of_nonneg_right s1 (Int.le_of_lt hU)
  have t2 := Int.mul_le_mul_of_nonneg_right s2 (Int.le_of_lt hU)
  -- the two products are small
  have b1 : Zv (FP.dmul 4588634794094654757 x) ≤ 6186600 * P2 1074 := Int.le_of_mul_le_mul_right (by
    have : 6186600 * P2 1074 * P2 1074 = 6186600 * (P2 1074 * P2 1074) := Int.mul_assoc _ _ _
    have : 6186598400 * P2 1074 * P2 1074 = 6186598400 * (P2 1074 * P2 1074) := Int.mul_assoc _ _ _
    omega) hU
  have b1' : -(1 * P2 1074) ≤ Zv (FP.dmul 4588634794094654757 x) := Int.le_of_mul_le_mul_right (by rw [Int.neg_mul, Int.one_mul]; omega) hU
  have b2 : Zv (FP.dmul 4599003881876712587 y) ≤ 31142710 * P2 1074 := Int.le_of_mul_le_mul_right (by
    have : 31142710 * P2 1074 * P2 1074 = 31142710 * (P2 1074 * P2 1074) := Int.mul_assoc _ _ _
    have : 31142707200 * P2 1074 * P2 1074 = 31142707200 * (P2 1074 * P2 1074) := Int.mul_assoc _ _ _
    omega) hU
  have b2' : -(1 * P2 1074) ≤ Zv (FP.dmul 4599003881876712587 y) := Int.le_of_mul_le_mul_right (by rw [Int.neg_mul, Int.one_mul]; omega) hU
  obtain ⟨r1, r2, r3⟩ := sub_err p1 q1 (g := 1047) (by decide) (by rw [p47]; rw [pU] at *; omega) (by rw [p47]; rw [pU] at *; omega)
  obtain ⟨u1, u2, u3⟩ := sub_err (a := own_pq x y) r1 k3.1 (g := 1048) (by decide) (by
    show _ ≤ Zv (FP.dsub _ _) - _
    rw [p48]; rw [p47] at *; rw [pU] at *; omega) (by
    show Zv (FP.dsub _ _) - _ ≤ _
    rw [p48]; rw [p47] at *; rw [pU] at *; omega)
  exact ⟨p1, q1, r1, u1, ⟨p2, p3⟩, ⟨q2, q3⟩, ⟨r2, r3⟩, ⟨u2, u3⟩⟩
/-- a greater first part gives a greater score -/
theorem own_gap {A B : Int} {w : Int} (hw : 0 < w) (h : 3 * P2 1074 ≤ (B - A) * w) : A < B := by
  have hU := P2_pos 1074
  refine Int.lt_of_not_ge fun q => ?_
  have : (B - A) * w ≤ 0 * w := Int.mul_le_mul_of_nonneg_right (by omega) (Int.le_of_lt hw)
  omega
theorem own_up {x x' y : UInt64} {w : Int} (a : own_all x y) (a' : own_all x' y) (w0 : 1 ≤ w) (w1 : w ≤ 1048576) (h : 99 * P2 1074 ≤ (Zv x' - Zv x) * w) : Zv (own_fin x y) < Zv (own_fin x' y) := by
  have hU := P2_pos 1074
  have h45 := P2_pos 1045
  obtain ⟨-, -, -, -, ⟨a1, a2⟩, -, ⟨a3, a4⟩, ⟨a5, a6⟩⟩ := a
  obtain ⟨-, -, -, -, ⟨c1, c2⟩, -, ⟨c3, c4⟩, ⟨c5, c6⟩⟩ := a'
  have k1 := fc1
  generalize Zv 4588634794094654757 = K at *
  generalize Zv (FP.dmul 4588634794094654757 x) = p at *
  generalize Zv (FP.dmul 4588634794094654757 x') = p' at *
  generalize Zv (FP.dmul 4599003881876712587 y) = z at *
  generalize Zv (own_pq x y) = d at *
  generalize Zv (own_pq x' y) = d' at *
  generalize Zv (own_fin x y) = r at *
  generalize Zv (own_fin x' y) = r' at *
  generalize Zv x = X at *
  generalize Zv x' = X' at *
  have ew : P2 1045 * w ≤ P2 1045 * 1048576 := Int.mul_le_mul_of_nonneg_left w1 (Int.le_of_lt h45)
  -- the products
  have g1 : K * (X' - X) - 2 * (P2 1045 * P2 1074) ≤ (p' - p) * P2 1074 := by rw [Int.mul_sub, Int.sub_mul]; omega
  have g2 := Int.mul_le_mul_of_nonneg_right g1 (show 0 ≤ w by omega)
  have g3 : K * (99 * P2 1074) ≤ K * ((X' - X) * w) := Int.mul_le_mul_of_nonneg_left h (by omega)
  have g4 : 58 * P2 1074 * (99 * P2 1074) ≤ 1000 * K * (99 * P2 1074) := Int.mul_le_mul_of_nonneg_right k1.2.1 (by omega)
  have e1 : (K * (X' - X) - 2 * (P2 1045 * P2 1074)) * w = K * ((X' - X) * w) - 2 * (P2 1045 * w) * P2 1074 := by rw [Int.sub_mul]; congr 1; ((try generalize P2 1074 = U1); (try generalize P2 1073 = U2); (try generalize P2 1072 = U3); (try generalize P2 (1074 - e) = U4); (try generalize P2 e = U5); (try generalize P2 1021 = U6); (try generalize P2 53 = U7); (try generalize P2 1049 = U8); (try generalize P2 1045 = U9); (try generalize P2 1047 = V1); (try generalize P2 1048 = V2); ac_rfl); ((try generalize P2 1074 = U1); (try generalize P2 1073 = U2); (try generalize P2 1072 = U3); (try generalize P2 (1074 - e) = U4); (try generalize P2 e = U5); (try generalize P2 1021 = U6); (try generalize P2 53 = U7); (try generalize P2 1049 = U8); (try generalize P2 1045 = U9); (try generalize P2 1047 = V1); (try generalize P2 1048 = V2); ac_rfl)
  have e2 : (p' - p) * P2 1074 * w = (p' - p) * w * P2 1074 := by ((try generalize P2 1074 = U1); (try generalize P2 1073 = U2); (try generalize P2 1072 = U3); (try generalize P2 (1074 - e) = U4); (try generalize P2 e = U5); (try generalize P2 1021 = U6); (try generalize P2 53 = U7); (try generalize P2 1049 = U8); (try generalize P2 1045 = U9); (try generalize P2 1047 = V1); (try generalize P2 1048 = V2); ac_rfl)
  have e3 : 58 * P2 1074 * (99 * P2 1074) = 5742 * P2 1074 * P2 1074 := by rw [show (5742 : Int) = 58 * 99 from rfl]; ((try generalize P2 1074 = U1); (try generalize P2 1073 = U2); (try generalize P2 1072 = U3); (try generalize P2 (1074 - e) = U4); (try generalize P2 e = U5); (try generalize P2 1021 = U6); (try generalize P2 53 = U7); (try generalize P2 1049 = U8); (try generalize P2 1045 = U9); (try generalize P2 1047 = V1); (try generalize P2 1048 = V2); ac_rfl)
  have e4 : 1000 * K * (99 * P2 1074) = 1000 * (K * (99 * P2 1074)) := Int.mul_assoc _ _ _
  have g5 : 2 * (P2 1045 * w) * P2 1074 ≤ P2 1074 * P2 1074 := Int.mul_le_mul_of_nonneg_right (by rw [pU]; omega) (by omega)
  have g6 : 4 * P2 1074 * P2 1074 ≤ (p' - p) * w * P2 1074 := by
    have : 5742 * P2 1074 * P2 1074 = 5742 * (P2 1074 * P2 1074) := Int.mul_assoc _ _ _
    have : 4 * P2 1074 * P2 1074 = 4 * (P2 1074 * P2 1074) := Int.mul_assoc _ _ _
    have hUU := Int.mul_pos hU hU
    rw [e1, e2] at g2
    omega
  have g7 : 4 * P2 1074 ≤ (p' - p) * w := Int.le_of_mul_le_mul_right g6 hU
  have g8 : (p' - p) - 2 * P2 1047 - 2 * P2 1048 ≤ r' - r := by omega
  have g9 := Int.mul_le_mul_of_nonneg_right g8 (show 0 ≤ w by omega)
  have e5 : ((p' - p) - 2 * P2 1047 - 2 * P2 1048) * w = (p' - p) * w - 24 * (P2 1045 * w) := by
    rw [p47, p48, Int.sub_mul, Int.sub_mul]
    have : 2 * (4 * P2 1045) * w = 8 * (P2 1045 * w) := by rw [← Int.mul_assoc]; exact Int.mul_assoc _ _ _
    have : 2 * (8 * P2 1045) * w = 16 * (P2 1045 * w) := by rw [← Int.mul_assoc]; exact Int.mul_assoc _ _ _
    omega
  exact own_gap (w := w) (by omega) (by rw [e5] at g9; rw [pU] at *; omega)
theorem own_down {x y y' : UInt64} {w : Int} (a : own_all x y) (a' : own_all x y') (w0 : 1 ≤ w) (w1 : w ≤ 1048576) (h : 99 * P2 1074 ≤ (Zv y' - Zv y) * w) : Zv (own_fin x y') < Zv (own_fin x y) := by
  have hU := P2_pos 1074
  have h45 := P2_pos 1045
  obtain ⟨-, -, -, -, -, ⟨a1, a2⟩, ⟨a3, a4⟩, ⟨a5, a6⟩⟩ := a
  obtain ⟨-, -, -, -, -, ⟨c1, c2⟩, ⟨c3, c4⟩, ⟨c5, c6⟩⟩ := a'
  have k1 := fc2
  generalize Zv 4599003881876712587 = K at *
  generalize Zv (FP.dmul 4599003881876712587 y) = p at *
  generalize Zv (FP.dmul 4599003881876712587 y') = p' at *
  generalize Zv (FP.dmul 4588634794094654757 x) = z at *
  generalize Zv (own_pq x y) = d at *
  generalize Zv (own_pq x y') = d' at *
  generalize Zv (own_fin x y) = r at *
  generalize Zv (own_fin x y') = r' at *
  generalize Zv y = X at *
  generalize Zv y' = X' at *
  have ew : P2 1045 * w ≤ P2 1045 * 1048576 := Int.mul_le_mul_of_nonneg_left w1 (Int.le_of_lt h45)
  have g1 : K * (X' - X) - 2 * (P2 1047 * P2 1074) ≤ (p' - p) * P2 1074 := by rw [Int.mul_sub, Int.sub_mul]; omega
  have g2 := Int.mul_le_mul_of_nonneg_right g1 (show 0 ≤ w by omega)
  have g3 : K * (99 * P2 1074) ≤ K * ((X' - X) * w) := Int.mul_le_mul_of_nonneg_left h (by omega)
  have g4 : 295 * P2 1074 * (99 * P2 1074) ≤ 1000 * K * (99 * P2 1074) := Int.mul_le_mul_of_nonneg_right k1.2.1 (by omega)
  have e1 : (K * (X' - X) - 2 * (P2 1047 * P2 1074)) * w = K * ((X' - X) * w) - 8 * (P2 1045 * w) * P2 1074 := by
    rw [Int.sub_mul, p47]; congr 1; ((try generalize P2 1074 = U1); (try generalize P2 1073 = U2); (try generalize P2 1072 = U3); (try generalize P2 (1074 - e) = U4); (try generalize P2 e = U5); (try generalize P2 1021 = U6); (try generalize P2 53 = U7); (try generalize P2 1049 = U8); (try generalize P2 1045 = U9); (try generalize P2 1047 = V1); (try generalize P2 1048 = V2); ac_rfl)
    have : (8 : Int) = 2 * 4 := rfl
    rw [this]; ((try generalize P2 1074 = U1); (try generalize P2 1073 = U2); (try generalize P2 1072 = U3); (try generalize P2 (1074 - e) = U4); (try generalize P2 e = U5); (try generalize P2 1021 = U6); (try generalize P2 53 = U7); (try generalize P2 1049 = U8); (try generalize P2 1045 = U9); (try generalize P2 1047 = V1); (try generalize P2 1048 = V2); ac_rfl)
  have e2 : (p' - p) * P2 1074 * w = (p' - p) * w * P2 1074 := by ((try generalize P2 1074 = U1); (try generalize P2 1073 = U2); (try generalize P2 1072 = U3); (try generalize P2 (1074 - e) = U4); (try generalize P2 e = U5); (try generalize P2 1021 = U6); (try generalize P2 53 = U7); (try generalize P2 1049 = U8); (try generalize P2 1045 = U9); (try generalize P2 1047 = V1); (try generalize P2 1048 = V2); ac_rfl)
  have e3 : 295 * P2 1074 * (99 * P2 1074) = 29205 * P2 1074 * P2 1074 := by rw [show (29205 : Int) = 295 * 99 from rfl]; ((try generalize P2 1074 = U1); (try generalize P2 1073 = U2); (try generalize P2 1072 = U3); (try generalize P2 (1074 - e) = U4); (try generalize P2 e = U5); (try generalize P2 1021 = U6); (try generalize P2 53 = U7); (try generalize P2 1049 = U8); (try generalize P2 1045 = U9); (try generalize P2 1047 = V1); (try generalize P2 1048 = V2); ac_rfl)
  have e4 : 1000 * K * (99 * P2 1074) = 1000 * (K * (99 * P2 1074)) := Int.mul_assoc _ _ _
  have g5 : 8 * (P2 1045 * w) * P2 1074 ≤ P2 1074 * P2 1074 := Int.mul_le_mul_of_nonneg_right (by rw [pU]; omega) (by omega)
  have g6 : 5 * P2 1074 * P2 1074 ≤ (p' - p) * w * P2 1074 := by
    have : 29205 * P2 1074 * P2 1074 = 29205 * (P2 1074 * P2 1074) := Int.mul_assoc _ _ _
    have : 5 * P2 1074 * P2 1074 = 5 * (P2 1074 * P2 1074) := Int.mul_assoc _ _ _
    have hUU := Int.mul_pos hU hU
    rw [e1, e2] at g2
    omega
  have g7 : 5 * P2 1074 ≤ (p' - p) * w := Int.le_of_mul_le_mul_right g6 hU
  have g8 : (p' - p) - 2 * P2 1047 - 2 * P2 1048 ≤ r - r' := by omega
  have g9 := Int.mul_le_mul_of_nonneg_right g8 (show 0 ≤ w by omega)
  have e5 : ((p' - p) - 2 * P2 1047 - 2 * P2 1048) * w = (p' - p) * w - 24 * (P2 1045 * w) := by
    rw [p47, p48, Int.sub_mul, Int.sub_mul]
    have : 2 * (4 * P2 1045) * w = 8 * (P2 1045 * w) := by rw [← Int.mul_assoc]; exact Int.mul_assoc _ _ _
    have : 2 * (8 * P2 1045) * w = 16 * (P2 1045 * w) := by rw [← Int.mul_assoc]; exact Int.mul_assoc _ _ _
    omega
  exact own_gap (w := w) (by omega) (by rw [e5] at g9; rw [pU] at *; omega)
theorem own_part_step {n n' w : Int64} (h0 : 0 ≤ n.toInt) (h1 : n.toInt ≤ 1048575) (w0 : 1 ≤ w.toInt) (w1 : w.toInt ≤ 1048576) (hn : n'.toInt = n.toInt + 1) : 99 * P2 1074 ≤ (Zv (own_part n' w) - Zv (own_part n w)) * w.toInt := by
  obtain ⟨-, -, u, -, -⟩ := own_part_in h0 (by omega) w0 w1
  obtain ⟨-, l, -, -, -⟩ := own_part_in (n := n') (by omega) (by omega) w0 w1
  have h45 := P2_pos 1045
  have ew : P2 1045 * w.toInt ≤ P2 1045 * 1048576 := Int.mul_le_mul_of_nonneg_left w1 (Int.le_of_lt h45)
  rw [Int.sub_mul]
  rw [hn] at l
  have e : 100 * (n.toInt + 1) * P2 1074 = 100 * n.toInt * P2 1074 + 100 * P2 1074 := by rw [Int.mul_add, Int.add_mul, Int.mul_one]
  have e2 : P2 1049 * w.toInt = 16 * (P2 1045 * w.toInt) := by rw [p49, Int.mul_assoc]
  rw [e2] at u l
  rw [e] at l
  have : P2 1074 = 536870912 * P2 1045 := pU
  omega
theorem own_sgn {n : Int64} (h0 : 0 ≤ n.toInt) (h1 : n.toInt ≤ 4194304) : sgn (val64 (FP.dmul 4636737291354636288 (FP.l2d n))) = false := by
  obtain ⟨f, -⟩ := own_hund h0 h1
  obtain ⟨cc, q, hs⟩ := Core.l2d_shape n
  rw [show FP.dmul 4636737291354636288 (FP.l2d n) = Core.dmul 4636737291354636288 (Core.l2d n) from rfl, val64_dmul, hs, decide_eq_false (by omega)]
  obtain ⟨s, cc', q', hk⟩ := f100.1
  have hk' : s = false := by
    have e : sgn (val64 4636737291354636288) = false := by decide +kernel
    rw [hk] at e; exact e
  rw [hk, hk']
  show sgn (roundRatio b64 (false != false) _ 1 _) = false
  rw [sgn_roundRatio]; rfl
theorem own_twice {n w n' w' : Int64} (h0 : 0 ≤ n.toInt) (h1 : n.toInt ≤ 1048576) (w0 : 1 ≤ w.toInt) (w1 : w.toInt ≤ 1048576) (hn : n'.toInt = 2 * n.toInt) (hw : w'.toInt = 2 * w.toInt) : own_part n' w' = own_part n w := by
  have hU := P2_pos 1074
  have z1 : ¬ w = 0 := fun z => by rw [z] at w0; exact absurd w0 (by decide)
  have z2 : ¬ w' = 0 := fun z => by rw [z] at hw; have : (0 : Int64).toInt = 0 := rfl; omega
  unfold own_part
  rw [if_neg z1, if_neg z2]
  obtain ⟨f, z⟩ := own_hund h0 (by omega)
  obtain ⟨f', z'⟩ := own_hund (n := n') (by omega) (by omega)
  have zw : Zv (FP.l2d w) = w.toInt * P2 1074 := l2d_eq (by omega)
  have zw' : Zv (FP.l2d w') = w'.toInt * P2 1074 := l2d_eq (by omega)
  have pw : 0 < Zv (FP.l2d w) := by rw [zw]; exact Int.mul_pos (by omega) hU
  refine div_twice f (l2d_dfin w) f' (l2d_dfin w') pw (by rw [z]; exact Int.mul_nonneg (by omega) (by omega)) (own_sgn h0 (by omega)) (own_sgn (by omega) (by omega)) ?_ ?_
  · rw [z, z', hn]
    have : 100 * (2 * n.toInt) * P2 1074 = 2 * (100 * n.toInt * P2 1074) := by ((try generalize P2 1074 = U1); (try generalize P2 1073 = U2); (try generalize P2 1072 = U3); (try generalize P2 (1074 - e) = U4); (try generalize P2 e = U5); (try generalize P2 1021 = U6); (try generalize P2 53 = U7); (try generalize P2 1049 = U8); (try generalize P2 1045 = U9); (try generalize P2 1047 = V1); (try generalize P2 1048 = V2); ac_rfl)
    exact this
  · rw [zw, zw', hw, Int.mul_assoc]
theorem own_one {n w : Int64} (hw : w = 1) : own_part n w = FP.dmul 4636737291354636288 (FP.l2d n) := by
  subst hw
  unfold own_part
  rw [if_neg (by decide), show FP.l2d 1 = 4607182418800017408 by decide +kernel]
  refine Core.ddiv_one (a := FP.dmul 4636737291354636288 (FP.l2d n)) ?_
  exact (Core.notNaN_iff _).mp (Core.dmul_out f100.1 (l2d_dfin n))
theorem own_mode0 : own_cnn 0 0 0 ∧ cmpValue (FP.dcmp (own_fin 0 0) 13848456264173590938) .l = 0 := by
  refine ⟨⟨?_, ?_⟩, ?_⟩
  · unfold NoNaN64; decide +kernel
  · unfold NoNaN64; decide +kernel
  · decide +kernel
theorem own_cl0 {l s w : Int64} (h : w = 0) : own_cl l w s = own_fin 0 0 := by subst h; rfl
theorem own_part0 (n : Int64) : own_part n 0 = 0 := by rw [own_part, if_pos rfl]
theorem own_cnn0 {l s w : Int64} (h : w = 0) : own_cnn l w s := by
  subst h
  have z := own_mode0.1
  unfold own_cnn own_cl at z ⊢
  rw [own_part0 l, own_part0 s]
  rw [own_part0] at z
  exact z
theorem own_all_cl {l w s : Int64} (l0 : 0 ≤ l.toInt) (l1 : l.toInt ≤ 1048576) (w0 : 1 ≤ w.toInt) (w1 : w.toInt ≤ 1048576) (s0 : 0 ≤ s.toInt) (s1 : s.toInt ≤ 1048576) : own_all (own_part l w) (own_part s w) := by
  obtain ⟨f, -, -, a, b⟩ := own_part_in l0 l1 w0 w1
  obtain ⟨f', -, -, a', b'⟩ := own_part_in s0 s1 w0 w1
  exact own_all_of f f' a b a' b'
theorem own_cnn_of {l w s : Int64} (a : own_all (own_part l w) (own_part s w)) : own_cnn l w s := ⟨(nn_of a.2.2.1), (nn_of a.2.2.2.1)⟩
theorem own_mask {a u : Int64} (h : a &&& 1048575 = u) : 0 ≤ u.toInt ∧ u.toInt ≤ 1048575 := by
  have e := c_maskL a 1048575 20 (by decide) (by decide)
  rw [h] at e; omega
theorem own_inc {a u : Int64} (h0 : 0 ≤ a.toInt) (h1 : a.toInt ≤ 1048575) (h : a + 1 = u) : u.toInt = a.toInt + 1 := by
  have e := c_ladd a 1; rw [h] at e
  have r := rng64 u; have o : (1 : Int64).toInt = 1 := rfl; omega
theorem own_inc' {a u : Int64} (h0 : 0 ≤ a.toInt) (h1 : a.toInt ≤ 1048575) (h : 1 + a = u) : u.toInt = a.toInt + 1 := by
  have e := c_ladd 1 a; rw [h] at e
  have r := rng64 u; have o : (1 : Int64).toInt = 1 := rfl; omega
theorem own_dbl {a u : Int64} (h0 : 0 ≤ a.toInt) (h1 : a.toInt ≤ 1048576) (h : 2 * a = u) : u.toInt = 2 * a.toInt := by
  have e := c_lmul 2 a; rw [h] at e
  have r := rng64 u; have o : (2 : Int64).toInt = 2 := rfl; rw [o] at e; omega
end OwnLaw

theorem d2_0 : decode jdk_30_method_1_code 0 = .ok (.aload_n 0, 1) := by decide +kernel
theorem d2_1 : decode jdk_30_method_1_code 1 = .ok (.invokespecial 1, 3) := by decide +kernel
theorem d2_4 : decode jdk_30_method_1_code 4 = .ok (.return_, 1) := by decide +kernel
set_option maxRecDepth 65536 in
set_option maxHeartbeats 40000000 in
theorem rm_rec (l : Launch) (Z : State) (a0 : Array Value) (hw : ∀ d ∈ tables_1, d.before a0 Z = true) (a1 : Addr) (h0 : Heap) (n0 : Nat) (Z0 : n0 ≤ h0.size)  :
    Con l Z (⟨"java/lang/Record", "<init>", "()V"⟩ : MethodName) jdk_30_method_1_code 1 none ({ frames := 1, cells := 0, slots := 0, locals := 12 } : Room) #[(.ref a1)] h0 (fun vR hR LR => vR = none ∧ Fr n0 LR ∧ hR = h0) := by
  refine enter (l := l) (Z := Z) (y := (⟨"java/lang/Record", "<init>", "()V"⟩ : MethodName)) (bytes := jdk_30_method_1_code) (maxL := 1) (ret := none) (ws := []) (rm := ({ frames := 1, cells := 0, slots := 0, locals := 12 } : Room)) (as' := #[(.ref a1)]) (h0 := h0) (Qv := (fun vR hR LR => vR = none ∧ Fr n0 LR ∧ hR = h0)) (kc := 0) (ks := 0) (by first | exact plainFor_of_name (by first | (simp [plainName, overriddenIn]; done) | decide +kernel) | decide +kernel) (Ls := #[.val (.ref a1)]) (fun m => by first | (simp [entryFrame, mkF, argsToLocals, Value.category]; done) | rfl) ?_
  intro p e s m below meth c s₁ hx hby hml hown hnm hret hlk hZ X0 e0
  have hown : s.vm.findClass "java/lang/Record" = some m.cls := hown
  have hml : c.maxLocals = 1 := hml
  have N0 := Fr.nil n0
  refine Go.aloadN X0.here hx (Jvm.hb hby d2_0) rfl rfl (q := 1) rfl ?_
  refine Go.init X0 hx hZ hown (word hw 12 rfl) (word hw 13 rfl) (word hw 14 rfl) e0 (Jvm.hb hby d2_1) (by rw [hml]; rfl) (by decide) (W := 0) (Nat.le_of_eq rfl) (by decide) (q := 4) rfl ?_
  intro T101 X101 e101
  refine Go.retV X101 hx hret hlk (Jvm.hb hby d2_4) (by decide) (by decide) ?_
  exact ⟨rfl, N0, e101⟩
theorem d1_0 : decode prog_37_method_1_code 0 = .ok (.aload_n 0, 1) := by decide +kernel
theorem d1_1 : decode prog_37_method_1_code 1 = .ok (.invokespecial 1, 3) := by decide +kernel
theorem d1_4 : decode prog_37_method_1_code 4 = .ok (.aload_n 0, 1) := by decide +kernel
theorem d1_5 : decode prog_37_method_1_code 5 = .ok (.lload_n 1, 1) := by decide +kernel
theorem d1_6 : decode prog_37_method_1_code 6 = .ok (.putfield 7, 3) := by decide +kernel
theorem d1_9 : decode prog_37_method_1_code 9 = .ok (.aload_n 0, 1) := by decide +kernel
theorem d1_10 : decode prog_37_method_1_code 10 = .ok (.lload_n 3, 1) := by decide +kernel
theorem d1_11 : decode prog_37_method_1_code 11 = .ok (.putfield 13, 3) := by decide +kernel
theorem d1_14 : decode prog_37_method_1_code 14 = .ok (.aload_n 0, 1) := by decide +kernel
theorem d1_15 : decode prog_37_method_1_code 15 = .ok (.lload 5, 2) := by decide +kernel
theorem d1_17 : decode prog_37_method_1_code 17 = .ok (.putfield 16, 3) := by decide +kernel
theorem d1_20 : decode prog_37_method_1_code 20 = .ok (.return_, 1) := by decide +kernel
set_option maxRecDepth 65536 in
set_option maxHeartbeats 40000000 in
theorem rm_init (l : Launch) (Z : State) (a0 : Array Value) (hw : ∀ d ∈ tables_1, d.before a0 Z = true) (a1 : Addr) (q2 : Int64) (q3 : Int64) (q4 : Int64) (o1 : Value) (o2 : Value) (o3 : Value) (h0 : Heap) (n0 : Nat) (Z0 : n0 ≤ h0.size) (E1 : Exa Z h0 a1 "com/example/hale_query/halequery/index/Readability") (F1 : Fld Z h0 a1 "com/example/hale_query/halequery/index/Readability" "letters" "J" o1) (F2 : Fld Z h0 a1 "com/example/hale_query/halequery/index/Readability" "words" "J" o2) (F3 : Fld Z h0 a1 "com/example/hale_query/halequery/index/Readability" "sentences" "J" o3) (g1 : n0 ≤ a1) :
    Con l Z (⟨"com/example/hale_query/halequery/index/Readability", "<init>", "(JJJ)V"⟩ : MethodName) prog_37_method_1_code 7 none ({ frames := 2, cells := 0, slots := 0, locals := 24 } : Room) #[(.ref a1), (.long q2), (.long q3), (.long q4)] h0 (fun vR hR LR => vR = none ∧ Fr n0 LR ∧ Keep h0 hR [a1] ∧ Exa Z hR a1 "com/example/hale_query/halequery/index/Readability" ∧ Fld Z hR a1 "com/example/hale_query/halequery/index/Readability" "letters" "J" (.long q2) ∧ Fld Z hR a1 "com/example/hale_query/halequery/index/Readability" "words" "J" (.long q3) ∧ Fld Z hR a1 "com/example/hale_query/halequery/index/Readability" "sentences" "J" (.long q4)) := by
  refine enter (l := l) (Z := Z) (y := (⟨"com/example/hale_query/halequery/index/Readability", "<init>", "(JJJ)V"⟩ : MethodName)) (bytes := prog_37_method_1_code) (maxL := 7) (ret := none) (ws := []) (rm := ({ frames := 2, cells := 0, slots := 0, locals := 24 } : Room)) (as' := #[(.ref a1), (.long q2), (.long q3), (.long q4)]) (h0 := h0) (Qv := (fun vR hR LR => vR = none ∧ Fr n0 LR ∧ Keep h0 hR [a1] ∧ Exa Z hR a1 "com/example/hale_query/halequery/index/Readability" ∧ Fld Z hR a1 "com/example/hale_query/halequery/index/Readability" "letters" "J" (.long q2) ∧ Fld Z hR a1 "com/example/hale_query/halequery/index/Readability" "words" "J" (.long q3) ∧ Fld Z hR a1 "com/example/hale_query/halequery/index/Readability" "sentences" "J" (.long q4))) (kc := 0) (ks := 0) (by first | exact plainFor_of_name (by first | (simp [plainName, overriddenIn]; done) | decide +kernel) | decide +kernel) (Ls := #[.val (.ref a1), .val (.long q2), .second, .val (.long q3), .second, .val (.long q4), .second]) (fun m => by first | (simp [entryFrame, mkF, argsToLocals, Value.category]; done) | rfl) ?_
  intro p e s m below meth c s₁ hx hby hml hown hnm hret hlk hZ X0 e0
  have hown : s.vm.findClass "com/example/hale_query/halequery/index/Readability" = some m.cls := hown
  have hml : c.maxLocals = 7 := hml
  have N0 := Fr.nil n0
  refine Go.aloadN X0.here hx (Jvm.hb hby d1_0) rfl rfl (q := 1) rfl ?_
  refine Go.special X0 hx hZ (y := (⟨"java/lang/Record", "<init>", "()V"⟩ : MethodName)) rfl hown (word hw 7 rfl) (word hw 8 rfl) (word hw 11 rfl) (word hw 10 rfl) (by decide) (rm_rec l Z a0 hw a1 h0 n0 Z0 ) e0 (a := a1) (argsL := []) (rest := []) (W := 0) (Jvm.hb hby d1_1) rfl rfl (lenOf (pd0) rfl) (by rw [hml]; rfl) (Nat.le_of_eq rfl) (by decide) (by decide) (by decide) (by decide) (q := 4) rfl ?_
  intro T101 L101 w101 X101 hQ101
  obtain ⟨rfl, M101, q101⟩ := hQ101
  have N101 := Fr.app N0 M101
  show Go p e below _ (T101.setTop (mkF m 4 #[.val (.ref a1), .val (.long q2), .second, .val (.long q3), .second, .val (.long q4), .second] []))
  refine Go.aloadN X101.here hx (Jvm.hb hby d1_4) rfl rfl (q := 5) rfl ?_
  refine Go.lloadN X101.here hx (Jvm.hb hby d1_5) rfl (q := 6) rfl ?_
  refine Go.putf X101 hx hZ hown (word hw 15 rfl) q101 F1 E1 (Or.inr ⟨(word hw 16 rfl), rfl, hnm⟩) (word hw 2 rfl) (ty := .long) (by decide) rfl rfl (Jvm.hb hby d1_6) (q := 9) rfl ?_
  intro T102 h102 X102 e102 W102
  have N102 := Fr.snoc X102 N101 g1
  have F102 := F1.same W102
  refine Go.aloadN X102.here hx (Jvm.hb hby d1_9) rfl rfl (q := 10) rfl ?_
  refine Go.lloadN X102.here hx (Jvm.hb hby d1_10) rfl (q := 11) rfl ?_
  have f104 := F2.other W102 (Or.inr (Jvm.RoadKit.slot_ne (Or.inr (word hw 18 rfl)) (Or.inr (word hw 16 rfl)) (by decide) (t := .long) (t' := .long) (by decide) (by decide)))
  have f105 := E1.wr W102
  refine Go.putf X102 hx hZ hown (word hw 17 rfl) e102 f104 f105 (Or.inr ⟨(word hw 18 rfl), rfl, hnm⟩) (word hw 2 rfl) (ty := .long) (by decide) rfl rfl (Jvm.hb hby d1_11) (q := 14) rfl ?_
  intro T103 h103 X103 e103 W103
  have N103 := Fr.snoc X103 N102 g1
  have F103 := f104.same W103
  refine Go.aloadN X103.here hx (Jvm.hb hby d1_14) rfl rfl (q := 15) rfl ?_
  refine Go.lload X103.here hx (Jvm.hb hby d1_15) rfl (q := 17) rfl ?_
  have f107 := F3.other W102 (Or.inr (Jvm.RoadKit.slot_ne (Or.inr (word hw 20 rfl)) (Or.inr (word hw 16 rfl)) (by decide) (t := .long) (t' := .long) (by decide) (by decide)))
  have f108 := f107.other W103 (Or.inr (Jvm.RoadKit.slot_ne (Or.inr (word hw 20 rfl)) (Or.inr (word hw 18 rfl)) (by decide) (t := .long) (t' := .long) (by decide) (by decide)))
  have f109 := f105.wr W103
  refine Go.putf X103 hx hZ hown (word hw 19 rfl) e103 f108 f109 (Or.inr ⟨(word hw 20 rfl), rfl, hnm⟩) (word hw 2 rfl) (ty := .long) (by decide) rfl rfl (Jvm.hb hby d1_17) (q := 20) rfl ?_
  intro T106 h106 X106 e106 W106
  have N106 := Fr.snoc X106 N103 g1
  have F106 := f108.same W106
  have k110 : Keep h0 h102 [a1] := (Keep.refl h0 [a1]).wr W102 (Or.inl (List.mem_of_getElem? (i := 0) rfl))
  have k111 : Keep h0 h103 [a1] := k110.wr W103 (Or.inl (List.mem_of_getElem? (i := 0) rfl))
  have k112 : Keep h0 h106 [a1] := k111.wr W106 (Or.inl (List.mem_of_getElem? (i := 0) rfl))
  have f113 := f109.wr W106
  have f114 := F102.other W103 (Or.inr (Jvm.RoadKit.slot_ne (Or.inr (word hw 16 rfl)) (Or.inr (word hw 18 rfl)) (by decide) (t := .long) (t' := .long) (by decide) (by decide)))
  have f115 := f114.other W106 (Or.inr (Jvm.RoadKit.slot_ne (Or.inr (word hw 16 rfl)) (Or.inr (word hw 20 rfl)) (by decide) (t := .long) (t' := .long) (by decide) (by decide)))
  have f116 := F103.other W106 (Or.inr (Jvm.RoadKit.slot_ne (Or.inr (word hw 18 rfl)) (Or.inr (word hw 20 rfl)) (by decide) (t := .long) (t' := .long) (by decide) (by decide)))
  refine Go.retV X106 hx hret hlk (Jvm.hb hby d1_20) (by decide) (by decide) ?_
  rw [e106]
  exact ⟨rfl, N106, k112, f113, f115, f116, F106⟩
theorem d4_0 : decode prog_37_method_3_code 0 = .ok (.aload_n 0, 1) := by decide +kernel
theorem d4_1 : decode prog_37_method_3_code 1 = .ok (.getfield 13, 3) := by decide +kernel
theorem d4_4 : decode prog_37_method_3_code 4 = .ok (.lconst 0, 1) := by decide +kernel
theorem d4_5 : decode prog_37_method_3_code 5 = .ok (.lcmp, 1) := by decide +kernel
theorem d4_6 : decode prog_37_method_3_code 6 = .ok (.ifCond .ne 7, 3) := by decide +kernel
theorem d4_9 : decode prog_37_method_3_code 9 = .ok (.dconst 0, 1) := by decide +kernel
theorem d4_10 : decode prog_37_method_3_code 10 = .ok (.goto 18, 3) := by decide +kernel
theorem d4_13 : decode prog_37_method_3_code 13 = .ok (.ldc2_w 53, 3) := by decide +kernel
theorem d4_16 : decode prog_37_method_3_code 16 = .ok (.aload_n 0, 1) := by decide +kernel
theorem d4_17 : decode prog_37_method_3_code 17 = .ok (.getfield 7, 3) := by decide +kernel
theorem d4_20 : decode prog_37_method_3_code 20 = .ok (.l2d, 1) := by decide +kernel
theorem d4_21 : decode prog_37_method_3_code 21 = .ok (.dmul, 1) := by decide +kernel
theorem d4_22 : decode prog_37_method_3_code 22 = .ok (.aload_n 0, 1) := by decide +kernel
theorem d4_23 : decode prog_37_method_3_code 23 = .ok (.getfield 13, 3) := by decide +kernel
theorem d4_26 : decode prog_37_method_3_code 26 = .ok (.l2d, 1) := by decide +kernel
theorem d4_27 : decode prog_37_method_3_code 27 = .ok (.ddiv, 1) := by decide +kernel
theorem d4_28 : decode prog_37_method_3_code 28 = .ok (.dstore_n 1, 1) := by decide +kernel
theorem d4_29 : decode prog_37_method_3_code 29 = .ok (.aload_n 0, 1) := by decide +kernel
theorem d4_30 : decode prog_37_method_3_code 30 = .ok (.getfield 13, 3) := by decide +kernel
theorem d4_33 : decode prog_37_method_3_code 33 = .ok (.lconst 0, 1) := by decide +kernel
theorem d4_34 : decode prog_37_method_3_code 34 = .ok (.lcmp, 1) := by decide +kernel
theorem d4_35 : decode prog_37_method_3_code 35 = .ok (.ifCond .ne 7, 3) := by decide +kernel
theorem d4_38 : decode prog_37_method_3_code 38 = .ok (.dconst 0, 1) := by decide +kernel
theorem d4_39 : decode prog_37_method_3_code 39 = .ok (.goto 18, 3) := by decide +kernel
theorem d4_42 : decode prog_37_method_3_code 42 = .ok (.ldc2_w 53, 3) := by decide +kernel
theorem d4_45 : decode prog_37_method_3_code 45 = .ok (.aload_n 0, 1) := by decide +kernel
theorem d4_46 : decode prog_37_method_3_code 46 = .ok (.getfield 16, 3) := by decide +kernel
theorem d4_49 : decode prog_37_method_3_code 49 = .ok (.l2d, 1) := by decide +kernel
theorem d4_50 : decode prog_37_method_3_code 50 = .ok (.dmul, 1) := by decide +kernel
theorem d4_51 : decode prog_37_method_3_code 51 = .ok (.aload_n 0, 1) := by decide +kernel
theorem d4_52 : decode prog_37_method_3_code 52 = .ok (.getfield 13, 3) := by decide +kernel
theorem d4_55 : decode prog_37_method_3_code 55 = .ok (.l2d, 1) := by decide +kernel
theorem d4_56 : decode prog_37_method_3_code 56 = .ok (.ddiv, 1) := by decide +kernel
theorem d4_57 : decode prog_37_method_3_code 57 = .ok (.dstore_n 3, 1) := by decide +kernel
theorem d4_58 : decode prog_37_method_3_code 58 = .ok (.ldc2_w 55, 3) := by decide +kernel
theorem d4_61 : decode prog_37_method_3_code 61 = .ok (.dload_n 1, 1) := by decide +kernel
theorem d4_62 : decode prog_37_method_3_code 62 = .ok (.dmul, 1) := by decide +kernel
theorem d4_63 : decode prog_37_method_3_code 63 = .ok (.ldc2_w 57, 3) := by decide +kernel
theorem d4_66 : decode prog_37_method_3_code 66 = .ok (.dload_n 3, 1) := by decide +kernel
theorem d4_67 : decode prog_37_method_3_code 67 = .ok (.dmul, 1) := by decide +kernel
theorem d4_68 : decode prog_37_method_3_code 68 = .ok (.dsub, 1) := by decide +kernel
theorem d4_69 : decode prog_37_method_3_code 69 = .ok (.ldc2_w 59, 3) := by decide +kernel
theorem d4_72 : decode prog_37_method_3_code 72 = .ok (.dsub, 1) := by decide +kernel
theorem d4_73 : decode prog_37_method_3_code 73 = .ok (.dreturn, 1) := by decide +kernel
set_option maxRecDepth 65536 in
set_option maxHeartbeats 40000000 in
theorem rm_cl (l : Launch) (Z : State) (a0 : Array Value) (hw : ∀ d ∈ tables_1, d.before a0 Z = true) (a1 : Addr) (w1 : Int64) (w2 : Int64) (w3 : Int64) (h0 : Heap) (n0 : Nat) (Z0 : n0 ≤ h0.size) (F1 : Fld Z h0 a1 "com/example/hale_query/halequery/index/Readability" "letters" "J" (.long w1)) (F2 : Fld Z h0 a1 "com/example/hale_query/halequery/index/Readability" "words" "J" (.long w2)) (F3 : Fld Z h0 a1 "com/example/hale_query/halequery/index/Readability" "sentences" "J" (.long w3)) (hn : own_cnn w1 w2 w3) :
    Con l Z (⟨"com/example/hale_query/halequery/index/Readability", "colemanLiau", "()D"⟩ : MethodName) prog_37_method_3_code 5 (some .double) ({ frames := 0, cells := 0, slots := 0, locals := 0 } : Room) #[(.ref a1)] h0 (fun vR hR LR => vR = some (.double (own_cl w1 w2 w3)) ∧ Fr n0 LR ∧ hR = h0) := by
  refine enter (l := l) (Z := Z) (y := (⟨"com/example/hale_query/halequery/index/Readability", "colemanLiau", "()D"⟩ : MethodName)) (bytes := prog_37_method_3_code) (maxL := 5) (ret := (some .double)) (ws := []) (rm := ({ frames := 0, cells := 0, slots := 0, locals := 0 } : Room)) (as' := #[(.ref a1)]) (h0 := h0) (Qv := (fun vR hR LR => vR = some (.double (own_cl w1 w2 w3)) ∧ Fr n0 LR ∧ hR = h0)) (kc := 0) (ks := 0) (by first | exact plainFor_of_name (by first | (simp [plainName, overriddenIn]; done) | decide +kernel) | decide +kernel) (Ls := #[.val (.ref a1), .unset, .unset, .unset, .unset]) (fun m => by first | (simp [entryFrame, mkF, argsToLocals, Value.category]; done) | rfl) ?_
  intro p e s m below meth c s₁ hx hby hml hown hnm hret hlk hZ X0 e0
  have hown : s.vm.findClass "com/example/hale_query/halequery/index/Readability" = some m.cls := hown
  have hml : c.maxLocals = 5 := hml
  have N0 := Fr.nil n0
  refine Go.aloadN X0.here hx (Jvm.hb hby d4_0) rfl rfl (q := 1) rfl ?_
  refine Go.getf X0 hx hZ hown (word hw 17 rfl) e0 F2 (Jvm.hb hby d4_1) (q := 4) rfl ?_
  intro T101 X101 e101
  refine Go.lconst X101.here hx (Jvm.hb hby d4_4) (v := (0 : Int64)) rfl (q := 5) rfl ?_
  obtain ⟨u5, hu5⟩ : ∃ zq, lcmpW w2 (0 : Int64) = zq := ⟨_, rfl⟩
  refine Go.lcmp X101.here hx (Jvm.hb hby d4_5) hu5 (q := 6) rfl ?_
  by_cases hc6 : w2 = (0 : Int64)
  · -- pc 6: w2 = (0 : Int64)
    refine Go.ifN X101.here hx (Jvm.hb hby d4_6) ((if0 _ _).trans (teq (hu5 ▸ (lw_eq _ _).mpr hc6)).2) (q := 9) rfl ?_
    refine Go.dconst0 X101.here hx (Jvm.hb hby d4_9) (v := (0 : UInt64)) rfl (q := 10) rfl ?_
    refine Go.goto X101.here hx (Jvm.hb hby d4_10) (by decide) (q := 28) rfl ?_
    refine Go.dstoreN X101.here hx (Jvm.hb hby d4_28) (l2 := #[.val (.ref a1), .val (.double (0 : UInt64)), .second, .unset, .unset]) rfl (q := 29) rfl ?_
    refine Go.aloadN X101.here hx (Jvm.hb hby d4_29) rfl rfl (q := 30) rfl ?_
    refine Go.getf X101 hx hZ hown (word hw 17 rfl) e101 F2 (Jvm.hb hby d4_30) (q := 33) rfl ?_
    intro T103 X103 e103
    refine Go.lconst X103.here hx (Jvm.hb hby d4_33) (v := (0 : Int64)) rfl (q := 34) rfl ?_
    obtain ⟨u34, hu34⟩ : ∃ zq, lcmpW w2 (0 : Int64) = zq := ⟨_, rfl⟩
    refine Go.lcmp X103.here hx (Jvm.hb hby d4_34) hu34 (q := 35) rfl ?_
    have hc35 : w2 = (0 : Int64) := hc6
    refine Go.ifN X103.here hx (Jvm.hb hby d4_35) ((if0 _ _).trans (teq (hu34 ▸ (lw_eq _ _).mpr hc35)).2) (q := 38) rfl ?_
    refine Go.dconst0 X103.here hx (Jvm.hb hby d4_38) (v := (0 : UInt64)) rfl (q := 39) rfl ?_
    refine Go.goto X103.here hx (Jvm.hb hby d4_39) (by decide) (q := 57) rfl ?_
    refine Go.dstoreN X103.here hx (Jvm.hb hby d4_57) (l2 := #[.val (.ref a1), .val (.double (0 : UInt64)), .second, .val (.double (0 : UInt64)), .second]) rfl (q := 58) rfl ?_
    refine Go.ldc2D X103 hx hown (mvT hZ (word hw 27 rfl)) (Jvm.hb hby d4_58) (q := 61) rfl ?_
    refine Go.dloadN X103.here hx (Jvm.hb hby d4_61) rfl (q := 62) rfl ?_
    obtain ⟨u62, hu62⟩ : ∃ zq, FP.dmul (4588634794094654757 : UInt64) (0 : UInt64) = zq := ⟨_, rfl⟩
    refine Go.dmul X103.here hx (Jvm.hb hby d4_62) (by unfold Jvm.Free.Fl.NoNaN64; decide +kernel) hu62 (q := 63) rfl ?_
    refine Go.ldc2D X103 hx hown (mvT hZ (word hw 28 rfl)) (Jvm.hb hby d4_63) (q := 66) rfl ?_
    refine Go.dloadN X103.here hx (Jvm.hb hby d4_66) rfl (q := 67) rfl ?_
    obtain ⟨u67, hu67⟩ : ∃ zq, FP.dmul (4599003881876712587 : UInt64) (0 : UInt64) = zq := ⟨_, rfl⟩
    refine Go.dmul X103.here hx (Jvm.hb hby d4_67) (by unfold Jvm.Free.Fl.NoNaN64; decide +kernel) hu67 (q := 68) rfl ?_
    obtain ⟨u68, hu68⟩ : ∃ zq, FP.dsub u62 u67 = zq := ⟨_, rfl⟩
    refine Go.dsub X103.here hx (Jvm.hb hby d4_68) (by subst hc6; subst_vars; exact hn.1) hu68 (q := 69) rfl ?_
    refine Go.ldc2D X103 hx hown (mvT hZ (word hw 29 rfl)) (Jvm.hb hby d4_69) (q := 72) rfl ?_
    obtain ⟨u72, hu72⟩ : ∃ zq, FP.dsub u68 (4625084227318815130 : UInt64) = zq := ⟨_, rfl⟩
    refine Go.dsub X103.here hx (Jvm.hb hby d4_72) (by subst hc6; subst_vars; exact hn.2) hu72 (q := 73) rfl ?_
    refine Go.retD X103 hx hret hlk (Jvm.hb hby d4_73) (by decide) (by decide) ?_
    exact ⟨by subst hc6; subst_vars; rfl, N0, e103⟩
  · -- pc 6: not w2 = (0 : Int64)
    refine Go.ifY X101.here hx (Jvm.hb hby d4_6) ((if0 _ _).trans (feq (fun z => hc6 ((lw_eq _ _).mp (hu5.symm ▸ z)))).2) (by decide) (q := 13) rfl ?_
    refine Go.ldc2D X101 hx hown (mvT hZ (word hw 26 rfl)) (Jvm.hb hby d4_13) (q := 16) rfl ?_
    refine Go.aloadN X101.here hx (Jvm.hb hby d4_16) rfl rfl (q := 17) rfl ?_
    refine Go.getf X101 hx hZ hown (word hw 15 rfl) e101 F1 (Jvm.hb hby d4_17) (q := 20) rfl ?_
    intro T105 X105 e105
    obtain ⟨u20, hu20⟩ : ∃ zq, FP.l2d w1 = zq := ⟨_, rfl⟩
    refine Go.l2d X105.here hx (Jvm.hb hby d4_20) hu20 (q := 21) rfl ?_
    obtain ⟨u21, hu21⟩ : ∃ zq, FP.dmul (4636737291354636288 : UInt64) u20 = zq := ⟨_, rfl⟩
    refine Go.dmul X105.here hx (Jvm.hb hby d4_21) (own_nn1 hu20) hu21 (q := 22) rfl ?_
    refine Go.aloadN X105.here hx (Jvm.hb hby d4_22) rfl rfl (q := 23) rfl ?_
    refine Go.getf X105 hx hZ hown (word hw 17 rfl) e105 F2 (Jvm.hb hby d4_23) (q := 26) rfl ?_
    intro T106 X106 e106
    obtain ⟨u26, hu26⟩ : ∃ zq, FP.l2d w2 = zq := ⟨_, rfl⟩
    refine Go.l2d X106.here hx (Jvm.hb hby d4_26) hu26 (q := 27) rfl ?_
    obtain ⟨u27, hu27⟩ : ∃ zq, FP.ddiv u21 u26 = zq := ⟨_, rfl⟩
    refine Go.ddiv X106.here hx (Jvm.hb hby d4_27) (own_nn2 hu20 hu21 hu26 hc6) hu27 (q := 28) rfl ?_
    have hL : own_part w1 w2 = u27 := by rw [own_part, if_neg hc6, hu20, hu21, hu26, hu27]
    refine Go.dstoreN X106.here hx (Jvm.hb hby d4_28) (l2 := #[.val (.ref a1), .val (.double u27), .second, .unset, .unset]) rfl (q := 29) rfl ?_
    refine Go.aloadN X106.here hx (Jvm.hb hby d4_29) rfl rfl (q := 30) rfl ?_
    refine Go.getf X106 hx hZ hown (word hw 17 rfl) e106 F2 (Jvm.hb hby d4_30) (q := 33) rfl ?_
    intro T107 X107 e107
    refine Go.lconst X107.here hx (Jvm.hb hby d4_33) (v := (0 : Int64)) rfl (q := 34) rfl ?_
    obtain ⟨u34, hu34⟩ : ∃ zq, lcmpW w2 (0 : Int64) = zq := ⟨_, rfl⟩
    refine Go.lcmp X107.here hx (Jvm.hb hby d4_34) hu34 (q := 35) rfl ?_
    have hc35 : ¬ (w2 = (0 : Int64)) := hc6
    refine Go.ifY X107.here hx (Jvm.hb hby d4_35) ((if0 _ _).trans (feq (fun z => hc35 ((lw_eq _ _).mp (hu34.symm ▸ z)))).2) (by decide) (q := 42) rfl ?_
    refine Go.ldc2D X107 hx hown (mvT hZ (word hw 26 rfl)) (Jvm.hb hby d4_42) (q := 45) rfl ?_
    refine Go.aloadN X107.here hx (Jvm.hb hby d4_45) rfl rfl (q := 46) rfl ?_
    refine Go.getf X107 hx hZ hown (word hw 19 rfl) e107 F3 (Jvm.hb hby d4_46) (q := 49) rfl ?_
    intro T109 X109 e109
    obtain ⟨u49, hu49⟩ : ∃ zq, FP.l2d w3 = zq := ⟨_, rfl⟩
    refine Go.l2d X109.here hx (Jvm.hb hby d4_49) hu49 (q := 50) rfl ?_
    obtain ⟨u50, hu50⟩ : ∃ zq, FP.dmul (4636737291354636288 : UInt64) u49 = zq := ⟨_, rfl⟩
    refine Go.dmul X109.here hx (Jvm.hb hby d4_50) (own_nn1 hu49) hu50 (q := 51) rfl ?_
    refine Go.aloadN X109.here hx (Jvm.hb hby d4_51) rfl rfl (q := 52) rfl ?_
    refine Go.getf X109 hx hZ hown (word hw 17 rfl) e109 F2 (Jvm.hb hby d4_52) (q := 55) rfl ?_
    intro T110 X110 e110
    obtain ⟨u55, hu55⟩ : ∃ zq, FP.l2d w2 = zq := ⟨_, rfl⟩
    refine Go.l2d X110.here hx (Jvm.hb hby d4_55) hu55 (q := 56) rfl ?_
    obtain ⟨u56, hu56⟩ : ∃ zq, FP.ddiv u50 u55 = zq := ⟨_, rfl⟩
    refine Go.ddiv X110.here hx (Jvm.hb hby d4_56) (own_nn2 hu49 hu50 hu55 hc6) hu56 (q := 57) rfl ?_
    have hS : own_part w3 w2 = u56 := by rw [own_part, if_neg hc6, hu49, hu50, hu55, hu56]
    refine Go.dstoreN X110.here hx (Jvm.hb hby d4_57) (l2 := #[.val (.ref a1), .val (.double u27), .second, .val (.double u56), .second]) rfl (q := 58) rfl ?_
    refine Go.ldc2D X110 hx hown (mvT hZ (word hw 27 rfl)) (Jvm.hb hby d4_58) (q := 61) rfl ?_
    refine Go.dloadN X110.here hx (Jvm.hb hby d4_61) rfl (q := 62) rfl ?_
    obtain ⟨u62, hu62⟩ : ∃ zq, FP.dmul (4588634794094654757 : UInt64) u27 = zq := ⟨_, rfl⟩
    refine Go.dmul X110.here hx (Jvm.hb hby d4_62) (own_nnc (by unfold Jvm.Free.Fl.Fin64; decide) (by unfold Jvm.Free.Fl.Nz64; decide) (hL ▸ own_part_nn _ _)) hu62 (q := 63) rfl ?_
    refine Go.ldc2D X110 hx hown (mvT hZ (word hw 28 rfl)) (Jvm.hb hby d4_63) (q := 66) rfl ?_
    refine Go.dloadN X110.here hx (Jvm.hb hby d4_66) rfl (q := 67) rfl ?_
    obtain ⟨u67, hu67⟩ : ∃ zq, FP.dmul (4599003881876712587 : UInt64) u56 = zq := ⟨_, rfl⟩
    refine Go.dmul X110.here hx (Jvm.hb hby d4_67) (own_nnc (by unfold Jvm.Free.Fl.Fin64; decide) (by unfold Jvm.Free.Fl.Nz64; decide) (hS ▸ own_part_nn _ _)) hu67 (q := 68) rfl ?_
    obtain ⟨u68, hu68⟩ : ∃ zq, FP.dsub u62 u67 = zq := ⟨_, rfl⟩
    refine Go.dsub X110.here hx (Jvm.hb hby d4_68) (by have z := hn.1; rw [own_pq, hL, hS, hu62, hu67] at z; exact z) hu68 (q := 69) rfl ?_
    refine Go.ldc2D X110 hx hown (mvT hZ (word hw 29 rfl)) (Jvm.hb hby d4_69) (q := 72) rfl ?_
    obtain ⟨u72, hu72⟩ : ∃ zq, FP.dsub u68 (4625084227318815130 : UInt64) = zq := ⟨_, rfl⟩
    refine Go.dsub X110.here hx (Jvm.hb hby d4_72) (by have z := hn.2; rw [own_cl, own_fin, own_pq, hL, hS, hu62, hu67, hu68] at z; exact z) hu72 (q := 73) rfl ?_
    refine Go.retD X110 hx hret hlk (Jvm.hb hby d4_73) (by decide) (by decide) ?_
    exact ⟨by rw [own_cl, own_fin, own_pq, hL, hS, hu62, hu67, hu68, hu72], N0, e110⟩
set_option maxRecDepth 65536 in
set_option maxHeartbeats 40000000 in
theorem rm_law (l : Launch) (Z : State) (a0 : Array Value) (hw : ∀ d ∈ tables_1, d.before a0 Z = true) (ws : List Jvm.Cond) (q1 : Int64) (q2 : Int64) (q3 : Int64) (q4 : Int32) (h0 : Heap) (n0 : Nat) (Z0 : n0 ≤ h0.size)  :
    MetFree l x (head1 (Jvm.Cond.code x code maxLocals ret :: ws) room_1) (fun a U => a = #[(.long q1), (.long q2), (.long q3), (.int q4)] ∧ Z.Warmed39 U.vm ∧ U.heap = h0) (fun _ _ _ _ _ => True) (fun _ U o U' => ∃ v L, o = .returned v ∧ (fun vR hR LR => vR = some (.int (1 : Int32)) ∧ Fr n0 LR) v U'.heap L ∧ FrameEnd U o U' L 16 128) := by
  refine enter (l := l) (Z := Z) (y := x) (bytes := code) (maxL := maxLocals) (ret := ret) (ws := ws) (rm := room_1) (as' := #[(.long q1), (.long q2), (.long q3), (.int q4)]) (h0 := h0) (Qv := (fun vR hR LR => vR = some (.int (1 : Int32)) ∧ Fr n0 LR)) (kc := 16) (ks := 128) (by first | exact plainFor_of_name (by first | (simp [plainName, overriddenIn]; done) | decide +kernel) | decide +kernel) (Ls := #[.val (.long q1), .second, .val (.long q2), .second, .val (.long q3), .second, .val (.int q4), .unset, .unset, .unset, .unset, .unset, .unset, .unset, .unset, .unset, .unset, .unset, .unset, .unset, .unset, .unset, .unset]) (fun m => by first | (simp [entryFrame, mkF, argsToLocals, Value.category, maxLocals]; done) | rfl) ?_
  intro p e s m below meth c s₁ hx hby hml hown hnm hret hlk hZ X0 e0
  have hown : s.vm.findClass "com/example/hale_query/halequery/index/ReadabilityColemanLiauPinLaw" = some m.cls := hown
  have hml : c.maxLocals = 23 := hml
  have N0 := Fr.nil n0
  refine Go.iload X0.here hx (Jvm.hb hby at_0) rfl (q := 2) rfl ?_
  refine Go.iconst X0.here hx (Jvm.hb hby at_2) (v := (3 : Int32)) rfl (q := 3) rfl ?_
  obtain ⟨u3, hu3⟩ : ∃ zq, q4 &&& (3 : Int32) = zq := ⟨_, rfl⟩
  refine Go.iand X0.here hx (Jvm.hb hby at_3) hu3 (q := 4) rfl ?_
  refine Go.istore X0.here hx (Jvm.hb hby at_4) (l2 := #[.val (.long q1), .second, .val (.long q2), .second, .val (.long q3), .second, .val (.int q4), .val (.int u3), .unset, .unset, .unset, .unset, .unset, .unset, .unset, .unset, .unset, .unset, .unset, .unset, .unset, .unset, .unset]) rfl (q := 6) rfl ?_
  refine Go.iload X0.here hx (Jvm.hb hby at_6) rfl (q := 8) rfl ?_
  by_cases hc8 : u3 = (0 : Int32)
  · -- pc 8: u3 = (0 : Int32)
    refine Go.ifN X0.here hx (Jvm.hb hby at_8) ((if0 _ _).trans (teq hc8).2) (q := 11) rfl ?_
    refine Go.new X0 hx hZ hown (word hw 1 rfl) (word hw 2 rfl) (word hw 3 rfl) e0 (Jvm.hb hby at_11) (by decide) (by decide) (q := 14) rfl ?_
    intro T102 h102 a102 g102 X102 e102 E102 A102 D102
    have r103 : n0 ≤ a102 := Nat.le_trans Z0 (Nat.le_of_eq g102.symm)
    have F104 : Fld Z h102 a102 "com/example/hale_query/halequery/index/Readability" "letters" "J" (.long (0 : Int64)) := D102 (Or.inr (word hw 16 rfl)) (ty := .long) (by decide)
    have F105 : Fld Z h102 a102 "com/example/hale_query/halequery/index/Readability" "words" "J" (.long (0 : Int64)) := D102 (Or.inr (word hw 18 rfl)) (ty := .long) (by decide)
    have F106 : Fld Z h102 a102 "com/example/hale_query/halequery/index/Readability" "sentences" "J" (.long (0 : Int64)) := D102 (Or.inr (word hw 20 rfl)) (ty := .long) (by decide)
    refine Go.dup X102.here hx (Jvm.hb hby at_14) rfl (q := 15) rfl ?_
    refine Go.lloadN X102.here hx (Jvm.hb hby at_15) rfl (q := 16) rfl ?_
    refine Go.lconst X102.here hx (Jvm.hb hby at_16) (v := (0 : Int64)) rfl (q := 17) rfl ?_
    refine Go.lload X102.here hx (Jvm.hb hby at_17) rfl (q := 19) rfl ?_
    have z108 : n0 ≤ h102.size := Nat.le_trans Z0 E102.1
    refine Go.special X102 hx hZ (y := (⟨"com/example/hale_query/halequery/index/Readability", "<init>", "(JJJ)V"⟩ : MethodName)) rfl hown (word hw 4 rfl) (word hw 5 rfl) (word hw 6 rfl) (word hw 3 rfl) (by decide) (rm_init l Z a0 hw a102 q1 (0 : Int64) q3 (.long (0 : Int64)) (.long (0 : Int64)) (.long (0 : Int64)) h102 n0 z108 A102 F104 F105 F106 r103) e102 (a := a102) (argsL := [(.long q1), (.long (0 : Int64)), (.long q3)]) (rest := [(.ref a102)]) (W := 1) (Jvm.hb hby at_19) rfl rfl (lenOf (pd1) rfl) (by rw [hml]; rfl) (Nat.le_of_eq rfl) (by decide) (by decide) (by decide) (by decide) (q := 22) rfl ?_
    intro T107 L107 w107 X107 hQ107
    obtain ⟨rfl, M107, K107, P107_0, P107_1, P107_2, P107_3⟩ := hQ107
    have N107 := Fr.app N0 M107
    show Go p e below _ (T107.setTop (mkF m 22 #[.val (.long q1), .second, .val (.long q2), .second, .val (.long q3), .second, .val (.int q4), .val (.int u3), .unset, .unset, .unset, .unset, .unset, .unset, .unset, .unset, .unset, .unset, .unset, .unset, .unset, .unset, .unset] [(.ref a102)]))
    have z110 : n0 ≤ T107.heap.size := Nat.le_trans z108 K107.1
    refine Go.virtual X107 hx hZ (y := (⟨"com/example/hale_query/halequery/index/Readability", "colemanLiau", "()D"⟩ : MethodName)) hown (word hw 21 rfl) (word hw 22 rfl) (word hw 24 rfl) (word hw 23 rfl) (word hw 25 rfl) (word hw 3 rfl) (by decide) (rm_cl l Z a0 hw a102 q1 (0 : Int64) q3 T107.heap n0 z110 P107_1 P107_2 P107_3 (own_cnn0 rfl)) rfl P107_0  (argsL := []) (rest := []) (W := 0) (Jvm.hb hby at_22) rfl rfl (lenOf (pd2) rfl) (by rw [hml]; rfl) (Nat.le_of_eq rfl) (by decide) (by decide) (by decide) (by decide) (q := 25) rfl ?_
    intro T109 L109 w109 X109 hQ109
    obtain ⟨rfl, M109, q109⟩ := hQ109
    have N109 := Fr.app N107 M109
    show Go p e below _ (T109.setTop (mkF m 25 #[.val (.long q1), .second, .val (.long q2), .second, .val (.long q3), .second, .val (.int q4), .val (.int u3), .unset, .unset, .unset, .unset, .unset, .unset, .unset, .unset, .unset, .unset, .unset, .unset, .unset, .unset, .unset] [(.double (own_cl q1 (0 : Int64) q3))]))
    obtain ⟨r0, hr0⟩ : ∃ zq, (own_cl q1 (0 : Int64) q3) = zq := ⟨_, rfl⟩
    rw [hr0]
    refine Go.ldc2D X109 hx hown (mvT hZ (word hw 31 rfl)) (Jvm.hb hby at_25) (q := 28) rfl ?_
    obtain ⟨u28, hu28⟩ : ∃ zq, cmpValue (FP.dcmp r0 (13848456264173590938 : UInt64)) .l = zq := ⟨_, rfl⟩
    refine Go.dcmp X109.here hx (Jvm.hb hby at_28) hu28 (q := 29) rfl ?_
    have hc29 : u28 = (0 : Int32) := by rw [← hu28, ← hr0, own_cl0 rfl]; exact own_mode0.2
    refine Go.ifN X109.here hx (Jvm.hb hby at_29) ((if0 _ _).trans (teq hc29).2) (q := 32) rfl ?_
    refine Go.iconst X109.here hx (Jvm.hb hby at_32) (v := (1 : Int32)) rfl (q := 33) rfl ?_
    refine Go.goto X109.here hx (Jvm.hb hby at_33) (by decide) (q := 37) rfl ?_
    refine Go.retZ X109 hx hret hlk (Jvm.hb hby at_37) (Or.inr rfl) (by decide) (by decide) ?_
    exact ⟨rfl, N109⟩
  · -- pc 8: not u3 = (0 : Int32)
    refine Go.ifY X0.here hx (Jvm.hb hby at_8) ((if0 _ _).trans (feq hc8).2) (by decide) (q := 38) rfl ?_
    refine Go.lloadN X0.here hx (Jvm.hb hby at_38) rfl (q := 39) rfl ?_
    refine Go.ldc2J X0 hx hown (mvT hZ (word hw 0 rfl)) (Jvm.hb hby at_39) (q := 42) rfl ?_
    obtain ⟨ll, hll⟩ : ∃ zq, q1 &&& (1048575 : Int64) = zq := ⟨_, rfl⟩
    refine Go.land X0.here hx (Jvm.hb hby at_42) hll (q := 43) rfl ?_
    refine Go.lstore X0.here hx (Jvm.hb hby at_43) (l2 := #[.val (.long q1), .second, .val (.long q2), .second, .val (.long q3), .second, .val (.int q4), .val (.int u3), .val (.long ll), .second, .unset, .unset, .unset, .unset, .unset, .unset, .unset, .unset, .unset, .unset, .unset, .unset, .unset]) rfl (q := 45) rfl ?_
    refine Go.lload X0.here hx (Jvm.hb hby at_45) rfl (q := 47) rfl ?_
    refine Go.ldc2J X0 hx hown (mvT hZ (word hw 0 rfl)) (Jvm.hb hby at_47) (q := 50) rfl ?_
    obtain ⟨ss, hss⟩ : ∃ zq, q3 &&& (1048575 : Int64) = zq := ⟨_, rfl⟩
    refine Go.land X0.here hx (Jvm.hb hby at_50) hss (q := 51) rfl ?_
    refine Go.lstore X0.here hx (Jvm.hb hby at_51) (l2 := #[.val (.long q1), .second, .val (.long q2), .second, .val (.long q3), .second, .val (.int q4), .val (.int u3), .val (.long ll), .second, .val (.long ss), .second, .unset, .unset, .unset, .unset, .unset, .unset, .unset, .unset, .unset, .unset, .unset]) rfl (q := 53) rfl ?_
    refine Go.iload X0.here hx (Jvm.hb hby at_53) rfl (q := 55) rfl ?_
    refine Go.iconst X0.here hx (Jvm.hb hby at_55) (v := (1 : Int32)) rfl (q := 56) rfl ?_
    have J70 : ∀ (ww : Int64), (1 ≤ ww.toInt ∧ ww.toInt ≤ 1048576) → (u3 = 1 → ww = 1) → Go p e below (Ret s (fun vR hR LR => vR = some (.int (1 : Int32)) ∧ Fr n0 LR) 16 128) (s₁.setTop (mkF m 70 #[.val (.long q1), .second, .val (.long q2), .second, .val (.long q3), .second, .val (.int q4), .val (.int u3), .val (.long ll), .second, .val (.long ss), .second, .unset, .unset, .unset, .unset, .unset, .unset, .unset, .unset, .unset, .unset, .unset] [(.long ww)])) := by
      intro ww hw1 hw2
      refine Go.lstore X0.here hx (Jvm.hb hby at_70) (l2 := #[.val (.long q1), .second, .val (.long q2), .second, .val (.long q3), .second, .val (.int q4), .val (.int u3), .val (.long ll), .second, .val (.long ss), .second, .val (.long ww), .second, .unset, .unset, .unset, .unset, .unset, .unset, .unset, .unset, .unset]) rfl (q := 72) rfl ?_
      have hl := own_mask hll
      have hs := own_mask hss
      have A1 := own_all_cl (l := ll) (w := ww) (s := ss) hl.1 (by omega) hw1.1 hw1.2 hs.1 (by omega)
      refine Go.new X0 hx hZ hown (word hw 1 rfl) (word hw 2 rfl) (word hw 3 rfl) e0 (Jvm.hb hby at_72) (by decide) (by decide) (q := 75) rfl ?_
      intro T112 h112 a112 g112 X112 e112 E112 A112 D112
      have r113 : n0 ≤ a112 := Nat.le_trans Z0 (Nat.le_of_eq g112.symm)
      have F114 : Fld Z h112 a112 "com/example/hale_query/halequery/index/Readability" "letters" "J" (.long (0 : Int64)) := D112 (Or.inr (word hw 16 rfl)) (ty := .long) (by decide)
      have F115 : Fld Z h112 a112 "com/example/hale_query/halequery/index/Readability" "words" "J" (.long (0 : Int64)) := D112 (Or.inr (word hw 18 rfl)) (ty := .long) (by decide)
      have F116 : Fld Z h112 a112 "com/example/hale_query/halequery/index/Readability" "sentences" "J" (.long (0 : Int64)) := D112 (Or.inr (word hw 20 rfl)) (ty := .long) (by decide)
      refine Go.dup X112.here hx (Jvm.hb hby at_75) rfl (q := 76) rfl ?_
      refine Go.lload X112.here hx (Jvm.hb hby at_76) rfl (q := 78) rfl ?_
      refine Go.lload X112.here hx (Jvm.hb hby at_78) rfl (q := 80) rfl ?_
      refine Go.lload X112.here hx (Jvm.hb hby at_80) rfl (q := 82) rfl ?_
      have z118 : n0 ≤ h112.size := Nat.le_trans Z0 E112.1
      refine Go.special X112 hx hZ (y := (⟨"com/example/hale_query/halequery/index/Readability", "<init>", "(JJJ)V"⟩ : MethodName)) rfl hown (word hw 4 rfl) (word hw 5 rfl) (word hw 6 rfl) (word hw 3 rfl) (by decide) (rm_init l Z a0 hw a112 ll ww ss (.long (0 : Int64)) (.long (0 : Int64)) (.long (0 : Int64)) h112 n0 z118 A112 F114 F115 F116 r113) e112 (a := a112) (argsL := [(.long ll), (.long ww), (.long ss)]) (rest := [(.ref a112)]) (W := 1) (Jvm.hb hby at_82) rfl rfl (lenOf (pd1) rfl) (by rw [hml]; rfl) (Nat.le_of_eq rfl) (by decide) (by decide) (by decide) (by decide) (q := 85) rfl ?_
      intro T117 L117 w117 X117 hQ117
      obtain ⟨rfl, M117, K117, P117_0, P117_1, P117_2, P117_3⟩ := hQ117
      have N117 := Fr.app N0 M117
      show Go p e below _ (T117.setTop (mkF m 85 #[.val (.long q1), .second, .val (.long q2), .second, .val (.long q3), .second, .val (.int q4), .val (.int u3), .val (.long ll), .second, .val (.long ss), .second, .val (.long ww), .second, .unset, .unset, .unset, .unset, .unset, .unset, .unset, .unset, .unset] [(.ref a112)]))
      have z120 : n0 ≤ T117.heap.size := Nat.le_trans z118 K117.1
      refine Go.virtual X117 hx hZ (y := (⟨"com/example/hale_query/halequery/index/Readability", "colemanLiau", "()D"⟩ : MethodName)) hown (word hw 21 rfl) (word hw 22 rfl) (word hw 24 rfl) (word hw 23 rfl) (word hw 25 rfl) (word hw 3 rfl) (by decide) (rm_cl l Z a0 hw a112 ll ww ss T117.heap n0 z120 P117_1 P117_2 P117_3 (own_cnn_of A1)) rfl P117_0  (argsL := []) (rest := []) (W := 0) (Jvm.hb hby at_85) rfl rfl (lenOf (pd2) rfl) (by rw [hml]; rfl) (Nat.le_of_eq rfl) (by decide) (by decide) (by decide) (by decide) (q := 88) rfl ?_
      intro T119 L119 w119 X119 hQ119
      obtain ⟨rfl, M119, q119⟩ := hQ119
      have N119 := Fr.app N117 M119
      show Go p e below _ (T119.setTop (mkF m 88 #[.val (.long q1), .second, .val (.long q2), .second, .val (.long q3), .second, .val (.int q4), .val (.int u3), .val (.long ll), .second, .val (.long ss), .second, .val (.long ww), .second, .unset, .unset, .unset, .unset, .unset, .unset, .unset, .unset, .unset] [(.double (own_cl ll ww ss))]))
      obtain ⟨rr, hrr⟩ : ∃ zq, (own_cl ll ww ss) = zq := ⟨_, rfl⟩
      rw [hrr]
      refine Go.dstore X119.here hx (Jvm.hb hby at_88) (l2 := #[.val (.long q1), .second, .val (.long q2), .second, .val (.long q3), .second, .val (.int q4), .val (.int u3), .val (.long ll), .second, .val (.long ss), .second, .val (.long ww), .second, .val (.double rr), .second, .unset, .unset, .unset, .unset, .unset, .unset, .unset]) rfl (q := 90) rfl ?_
      refine Go.new X119 hx hZ hown (word hw 1 rfl) (word hw 2 rfl) (word hw 3 rfl) q119 (Jvm.hb hby at_90) (by decide) (by decide) (q := 93) rfl ?_
      intro T121 h121 a121 g121 X121 e121 E121 A121 D121
      have r122 : n0 ≤ a121 := Nat.le_trans z120 (Nat.le_of_eq g121.symm)
      have F123 : Fld Z h121 a121 "com/example/hale_query/halequery/index/Readability" "letters" "J" (.long (0 : Int64)) := D121 (Or.inr (word hw 16 rfl)) (ty := .long) (by decide)
      have F124 : Fld Z h121 a121 "com/example/hale_query/halequery/index/Readability" "words" "J" (.long (0 : Int64)) := D121 (Or.inr (word hw 18 rfl)) (ty := .long) (by decide)
      have F125 : Fld Z h121 a121 "com/example/hale_query/halequery/index/Readability" "sentences" "J" (.long (0 : Int64)) := D121 (Or.inr (word hw 20 rfl)) (ty := .long) (by decide)
      refine Go.dup X121.here hx (Jvm.hb hby at_93) rfl (q := 94) rfl ?_
      refine Go.lload X121.here hx (Jvm.hb hby at_94) rfl (q := 96) rfl ?_
      refine Go.lconst X121.here hx (Jvm.hb hby at_96) (v := (1 : Int64)) rfl (q := 97) rfl ?_
      obtain ⟨u97, hu97⟩ : ∃ zq, ll + (1 : Int64) = zq := ⟨_, rfl⟩
      refine Go.ladd X121.here hx (Jvm.hb hby at_97) hu97 (q := 98) rfl ?_
      have i1 := own_inc hl.1 hl.2 hu97
      have A2 := own_all_cl (l := u97) (w := ww) (s := ss) (by omega) (by omega) hw1.1 hw1.2 hs.1 (by omega)
      refine Go.lload X121.here hx (Jvm.hb hby at_98) rfl (q := 100) rfl ?_
      refine Go.lload X121.here hx (Jvm.hb hby at_100) rfl (q := 102) rfl ?_
      have z127 : n0 ≤ h121.size := Nat.le_trans z120 E121.1
      refine Go.special X121 hx hZ (y := (⟨"com/example/hale_query/halequery/index/Readability", "<init>", "(JJJ)V"⟩ : MethodName)) rfl hown (word hw 4 rfl) (word hw 5 rfl) (word hw 6 rfl) (word hw 3 rfl) (by decide) (rm_init l Z a0 hw a121 u97 ww ss (.long (0 : Int64)) (.long (0 : Int64)) (.long (0 : Int64)) h121 n0 z127 A121 F123 F124 F125 r122) e121 (a := a121) (argsL := [(.long u97), (.long ww), (.long ss)]) (rest := [(.ref a121)]) (W := 1) (Jvm.hb hby at_102) rfl rfl (lenOf (pd1) rfl) (by rw [hml]; rfl) (Nat.le_of_eq rfl) (by decide) (by decide) (by decide) (by decide) (q := 105) rfl ?_
      intro T126 L126 w126 X126 hQ126
      obtain ⟨rfl, M126, K126, P126_0, P126_1, P126_2, P126_3⟩ := hQ126
      have N126 := Fr.app N119 M126
      show Go p e below _ (T126.setTop (mkF m 105 #[.val (.long q1), .second, .val (.long q2), .second, .val (.long q3), .second, .val (.int q4), .val (.int u3), .val (.long ll), .second, .val (.long ss), .second, .val (.long ww), .second, .val (.double rr), .second, .unset, .unset, .unset, .unset, .unset, .unset, .unset] [(.ref a121)]))
      have z129 : n0 ≤ T126.heap.size := Nat.le_trans z127 K126.1
      refine Go.virtual X126 hx hZ (y := (⟨"com/example/hale_query/halequery/index/Readability", "colemanLiau", "()D"⟩ : MethodName)) hown (word hw 21 rfl) (word hw 22 rfl) (word hw 24 rfl) (word hw 23 rfl) (word hw 25 rfl) (word hw 3 rfl) (by decide) (rm_cl l Z a0 hw a121 u97 ww ss T126.heap n0 z129 P126_1 P126_2 P126_3 (own_cnn_of A2)) rfl P126_0  (argsL := []) (rest := []) (W := 0) (Jvm.hb hby at_105) rfl rfl (lenOf (pd2) rfl) (by rw [hml]; rfl) (Nat.le_of_eq rfl) (by decide) (by decide) (by decide) (by decide) (q := 108) rfl ?_
      intro T128 L128 w128 X128 hQ128
      obtain ⟨rfl, M128, q128⟩ := hQ128
      have N128 := Fr.app N126 M128
      show Go p e below _ (T128.setTop (mkF m 108 #[.val (.long q1), .second, .val (.long q2), .second, .val (.long q3), .second, .val (.int q4), .val (.int u3), .val (.long ll), .second, .val (.long ss), .second, .val (.long ww), .second, .val (.double rr), .second, .unset, .unset, .unset, .unset, .unset, .unset, .unset] [(.double (own_cl u97 ww ss))]))
      obtain ⟨up, hup⟩ : ∃ zq, (own_cl u97 ww ss) = zq := ⟨_, rfl⟩
      rw [hup]
      refine Go.dstore X128.here hx (Jvm.hb hby at_108) (l2 := #[.val (.long q1), .second, .val (.long q2), .second, .val (.long q3), .second, .val (.int q4), .val (.int u3), .val (.long ll), .second, .val (.long ss), .second, .val (.long ww), .second, .val (.double rr), .second, .val (.double up), .second, .unset, .unset, .unset, .unset, .unset]) rfl (q := 110) rfl ?_
      refine Go.new X128 hx hZ hown (word hw 1 rfl) (word hw 2 rfl) (word hw 3 rfl) q128 (Jvm.hb hby at_110) (by decide) (by decide) (q := 113) rfl ?_
      intro T130 h130 a130 g130 X130 e130 E130 A130 D130
      have r131 : n0 ≤ a130 := Nat.le_trans z129 (Nat.le_of_eq g130.symm)
      have F132 : Fld Z h130 a130 "com/example/hale_query/halequery/index/Readability" "letters" "J" (.long (0 : Int64)) := D130 (Or.inr (word hw 16 rfl)) (ty := .long) (by decide)
      have F133 : Fld Z h130 a130 "com/example/hale_query/halequery/index/Readability" "words" "J" (.long (0 : Int64)) := D130 (Or.inr (word hw 18 rfl)) (ty := .long) (by decide)
      have F134 : Fld Z h130 a130 "com/example/hale_query/halequery/index/Readability" "sentences" "J" (.long (0 : Int64)) := D130 (Or.inr (word hw 20 rfl)) (ty := .long) (by decide)
      refine Go.dup X130.here hx (Jvm.hb hby at_113) rfl (q := 114) rfl ?_
      refine Go.lload X130.here hx (Jvm.hb hby at_114) rfl (q := 116) rfl ?_
      refine Go.lload X130.here hx (Jvm.hb hby at_116) rfl (q := 118) rfl ?_
      refine Go.lload X130.here hx (Jvm.hb hby at_118) rfl (q := 120) rfl ?_
      refine Go.lconst X130.here hx (Jvm.hb hby at_120) (v := (1 : Int64)) rfl (q := 121) rfl ?_
      obtain ⟨u121, hu121⟩ : ∃ zq, ss + (1 : Int64) = zq := ⟨_, rfl⟩
      refine Go.ladd X130.here hx (Jvm.hb hby at_121) hu121 (q := 122) rfl ?_
      have i2 := own_inc hs.1 hs.2 hu121
      have A3 := own_all_cl (l := ll) (w := ww) (s := u121) hl.1 (by omega) hw1.1 hw1.2 (by omega) (by omega)
      have z136 : n0 ≤ h130.size := Nat.le_trans z129 E130.1
      refine Go.special X130 hx hZ (y := (⟨"com/example/hale_query/halequery/index/Readability", "<init>", "(JJJ)V"⟩ : MethodName)) rfl hown (word hw 4 rfl) (word hw 5 rfl) (word hw 6 rfl) (word hw 3 rfl) (by decide) (rm_init l Z a0 hw a130 ll ww u121 (.long (0 : Int64)) (.long (0 : Int64)) (.long (0 : Int64)) h130 n0 z136 A130 F132 F133 F134 r131) e130 (a := a130) (argsL := [(.long ll), (.long ww), (.long u121)]) (rest := [(.ref a130)]) (W := 1) (Jvm.hb hby at_122) rfl rfl (lenOf (pd1) rfl) (by rw [hml]; rfl) (Nat.le_of_eq rfl) (by decide) (by decide) (by decide) (by decide) (q := 125) rfl ?_
      intro T135 L135 w135 X135 hQ135
      obtain ⟨rfl, M135, K135, P135_0, P135_1, P135_2, P135_3⟩ := hQ135
      have N135 := Fr.app N128 M135
      show Go p e below _ (T135.setTop (mkF m 125 #[.val (.long q1), .second, .val (.long q2), .second, .val (.long q3), .second, .val (.int q4), .val (.int u3), .val (.long ll), .second, .val (.long ss), .second, .val (.long ww), .second, .val (.double rr), .second, .val (.double up), .second, .unset, .unset, .unset, .unset, .unset] [(.ref a130)]))
      have z138 : n0 ≤ T135.heap.size := Nat.le_trans z136 K135.1
      refine Go.virtual X135 hx hZ (y := (⟨"com/example/hale_query/halequery/index/Readability", "colemanLiau", "()D"⟩ : MethodName)) hown (word hw 21 rfl) (word hw 22 rfl) (word hw 24 rfl) (word hw 23 rfl) (word hw 25 rfl) (word hw 3 rfl) (by decide) (rm_cl l Z a0 hw a130 ll ww u121 T135.heap n0 z138 P135_1 P135_2 P135_3 (own_cnn_of A3)) rfl P135_0  (argsL := []) (rest := []) (W := 0) (Jvm.hb hby at_125) rfl rfl (lenOf (pd2) rfl) (by rw [hml]; rfl) (Nat.le_of_eq rfl) (by decide) (by decide) (by decide) (by decide) (q := 128) rfl ?_
      intro T137 L137 w137 X137 hQ137
      obtain ⟨rfl, M137, q137⟩ := hQ137
      have N137 := Fr.app N135 M137
      show Go p e below _ (T137.setTop (mkF m 128 #[.val (.long q1), .second, .val (.long q2), .second, .val (.long q3), .second, .val (.int q4), .val (.int u3), .val (.long ll), .second, .val (.long ss), .second, .val (.long ww), .second, .val (.double rr), .second, .val (.double up), .second, .unset, .unset, .unset, .unset, .unset] [(.double (own_cl ll ww u121))]))
      obtain ⟨mo, hmo⟩ : ∃ zq, (own_cl ll ww u121) = zq := ⟨_, rfl⟩
      rw [hmo]
      refine Go.dstore X137.here hx (Jvm.hb hby at_128) (l2 := #[.val (.long q1), .second, .val (.long q2), .second, .val (.long q3), .second, .val (.int q4), .val (.int u3), .val (.long ll), .second, .val (.long ss), .second, .val (.long ww), .second, .val (.double rr), .second, .val (.double up), .second, .val (.double mo), .second, .unset, .unset, .unset]) rfl (q := 130) rfl ?_
      refine Go.new X137 hx hZ hown (word hw 1 rfl) (word hw 2 rfl) (word hw 3 rfl) q137 (Jvm.hb hby at_130) (by decide) (by decide) (q := 133) rfl ?_
      intro T139 h139 a139 g139 X139 e139 E139 A139 D139
      have r140 : n0 ≤ a139 := Nat.le_trans z138 (Nat.le_of_eq g139.symm)
      have F141 : Fld Z h139 a139 "com/example/hale_query/halequery/index/Readability" "letters" "J" (.long (0 : Int64)) := D139 (Or.inr (word hw 16 rfl)) (ty := .long) (by decide)
      have F142 : Fld Z h139 a139 "com/example/hale_query/halequery/index/Readability" "words" "J" (.long (0 : Int64)) := D139 (Or.inr (word hw 18 rfl)) (ty := .long) (by decide)
      have F143 : Fld Z h139 a139 "com/example/hale_query/halequery/index/Readability" "sentences" "J" (.long (0 : Int64)) := D139 (Or.inr (word hw 20 rfl)) (ty := .long) (by decide)
      refine Go.dup X139.here hx (Jvm.hb hby at_133) rfl (q := 134) rfl ?_
      refine Go.ldc2J X139 hx hown (mvT hZ (word hw 30 rfl)) (Jvm.hb hby at_134) (q := 137) rfl ?_
      refine Go.lload X139.here hx (Jvm.hb hby at_137) rfl (q := 139) rfl ?_
      obtain ⟨u139, hu139⟩ : ∃ zq, (2 : Int64) * ll = zq := ⟨_, rfl⟩
      refine Go.lmul X139.here hx (Jvm.hb hby at_139) hu139 (q := 140) rfl ?_
      refine Go.ldc2J X139 hx hown (mvT hZ (word hw 30 rfl)) (Jvm.hb hby at_140) (q := 143) rfl ?_
      refine Go.lload X139.here hx (Jvm.hb hby at_143) rfl (q := 145) rfl ?_
      obtain ⟨u145, hu145⟩ : ∃ zq, (2 : Int64) * ww = zq := ⟨_, rfl⟩
      refine Go.lmul X139.here hx (Jvm.hb hby at_145) hu145 (q := 146) rfl ?_
      refine Go.ldc2J X139 hx hown (mvT hZ (word hw 30 rfl)) (Jvm.hb hby at_146) (q := 149) rfl ?_
      refine Go.lload X139.here hx (Jvm.hb hby at_149) rfl (q := 151) rfl ?_
      obtain ⟨u151, hu151⟩ : ∃ zq, (2 : Int64) * ss = zq := ⟨_, rfl⟩
      refine Go.lmul X139.here hx (Jvm.hb hby at_151) hu151 (q := 152) rfl ?_
      have d1 := own_dbl hl.1 (by omega) hu139
      have d2 := own_dbl (by omega) hw1.2 hu145
      have d3 := own_dbl hs.1 (by omega) hu151
      have t1 := own_twice (n := ll) (w := ww) hl.1 (by omega) hw1.1 hw1.2 d1 d2
      have t2 := own_twice (n := ss) (w := ww) hs.1 (by omega) hw1.1 hw1.2 d3 d2
      have A4 : own_all (own_part u139 u145) (own_part u151 u145) := by rw [t1, t2]; exact A1
      have z145 : n0 ≤ h139.size := Nat.le_trans z138 E139.1
      refine Go.special X139 hx hZ (y := (⟨"com/example/hale_query/halequery/index/Readability", "<init>", "(JJJ)V"⟩ : MethodName)) rfl hown (word hw 4 rfl) (word hw 5 rfl) (word hw 6 rfl) (word hw 3 rfl) (by decide) (rm_init l Z a0 hw a139 u139 u145 u151 (.long (0 : Int64)) (.long (0 : Int64)) (.long (0 : Int64)) h139 n0 z145 A139 F141 F142 F143 r140) e139 (a := a139) (argsL := [(.long u139), (.long u145), (.long u151)]) (rest := [(.ref a139)]) (W := 1) (Jvm.hb hby at_152) rfl rfl (lenOf (pd1) rfl) (by rw [hml]; rfl) (Nat.le_of_eq rfl) (by decide) (by decide) (by decide) (by decide) (q := 155) rfl ?_
      intro T144 L144 w144 X144 hQ144
      obtain ⟨rfl, M144, K144, P144_0, P144_1, P144_2, P144_3⟩ := hQ144
      have N144 := Fr.app N137 M144
      show Go p e below _ (T144.setTop (mkF m 155 #[.val (.long q1), .second, .val (.long q2), .second, .val (.long q3), .second, .val (.int q4), .val (.int u3), .val (.long ll), .second, .val (.long ss), .second, .val (.long ww), .second, .val (.double rr), .second, .val (.double up), .second, .val (.double mo), .second, .unset, .unset, .unset] [(.ref a139)]))
      have z147 : n0 ≤ T144.heap.size := Nat.le_trans z145 K144.1
      refine Go.virtual X144 hx hZ (y := (⟨"com/example/hale_query/halequery/index/Readability", "colemanLiau", "()D"⟩ : MethodName)) hown (word hw 21 rfl) (word hw 22 rfl) (word hw 24 rfl) (word hw 23 rfl) (word hw 25 rfl) (word hw 3 rfl) (by decide) (rm_cl l Z a0 hw a139 u139 u145 u151 T144.heap n0 z147 P144_1 P144_2 P144_3 (own_cnn_of A4)) rfl P144_0  (argsL := []) (rest := []) (W := 0) (Jvm.hb hby at_155) rfl rfl (lenOf (pd2) rfl) (by rw [hml]; rfl) (Nat.le_of_eq rfl) (by decide) (by decide) (by decide) (by decide) (q := 158) rfl ?_
      intro T146 L146 w146 X146 hQ146
      obtain ⟨rfl, M146, q146⟩ := hQ146
      have N146 := Fr.app N144 M146
      show Go p e below _ (T146.setTop (mkF m 158 #[.val (.long q1), .second, .val (.long q2), .second, .val (.long q3), .second, .val (.int q4), .val (.int u3), .val (.long ll), .second, .val (.long ss), .second, .val (.long ww), .second, .val (.double rr), .second, .val (.double up), .second, .val (.double mo), .second, .unset, .unset, .unset] [(.double (own_cl u139 u145 u151))]))
      obtain ⟨db, hdb⟩ : ∃ zq, (own_cl u139 u145 u151) = zq := ⟨_, rfl⟩
      rw [hdb]
      refine Go.dstore X146.here hx (Jvm.hb hby at_158) (l2 := #[.val (.long q1), .second, .val (.long q2), .second, .val (.long q3), .second, .val (.int q4), .val (.int u3), .val (.long ll), .second, .val (.long ss), .second, .val (.long ww), .second, .val (.double rr), .second, .val (.double up), .second, .val (.double mo), .second, .val (.double db), .second, .unset]) rfl (q := 160) rfl ?_
      refine Go.dload X146.here hx (Jvm.hb hby at_160) rfl (q := 162) rfl ?_
      refine Go.dload X146.here hx (Jvm.hb hby at_162) rfl (q := 164) rfl ?_
      obtain ⟨u164, hu164⟩ : ∃ zq, cmpValue (FP.dcmp up rr) .l = zq := ⟨_, rfl⟩
      refine Go.dcmp X146.here hx (Jvm.hb hby at_164) hu164 (q := 165) rfl ?_
      have hc165 : (0 : Int32) < u164 := by rw [← hu164, ← hup, ← hrr, own_cl, own_cl, cmp_gt A2.2.2.2.1 A1.2.2.2.1 _ (own_up A1 A2 hw1.1 hw1.2 (own_part_step hl.1 hl.2 hw1.1 hw1.2 i1))]; decide
      refine Go.ifN X146.here hx (Jvm.hb hby at_165) ((if0 _ _).trans (tlt hc165).2.2.2) (q := 168) rfl ?_
      refine Go.dload X146.here hx (Jvm.hb hby at_168) rfl (q := 170) rfl ?_
      refine Go.dload X146.here hx (Jvm.hb hby at_170) rfl (q := 172) rfl ?_
      obtain ⟨u172, hu172⟩ : ∃ zq, cmpValue (FP.dcmp mo rr) .g = zq := ⟨_, rfl⟩
      refine Go.dcmp X146.here hx (Jvm.hb hby at_172) hu172 (q := 173) rfl ?_
      have hc173 : u172 < (0 : Int32) := by rw [← hu172, ← hmo, ← hrr, own_cl, own_cl, cmp_lt A3.2.2.2.1 A1.2.2.2.1 _ (own_down A1 A3 hw1.1 hw1.2 (own_part_step hs.1 hs.2 hw1.1 hw1.2 i2))]; decide
      refine Go.ifN X146.here hx (Jvm.hb hby at_173) ((if0 _ _).trans (tlt hc173).2.1) (q := 176) rfl ?_
      refine Go.dload X146.here hx (Jvm.hb hby at_176) rfl (q := 178) rfl ?_
      refine Go.dload X146.here hx (Jvm.hb hby at_178) rfl (q := 180) rfl ?_
      obtain ⟨u180, hu180⟩ : ∃ zq, cmpValue (FP.dcmp db rr) .l = zq := ⟨_, rfl⟩
      refine Go.dcmp X146.here hx (Jvm.hb hby at_180) hu180 (q := 181) rfl ?_
      have hc181 : u180 = (0 : Int32) := by rw [← hu180, ← hdb, ← hrr, own_cl, own_cl, t1, t2]; exact cmp_eq A1.2.2.2.1 A1.2.2.2.1 _ rfl
      refine Go.ifN X146.here hx (Jvm.hb hby at_181) ((if0 _ _).trans (teq hc181).2) (q := 184) rfl ?_
      refine Go.iconst X146.here hx (Jvm.hb hby at_184) (v := (1 : Int32)) rfl (q := 185) rfl ?_
      refine Go.goto X146.here hx (Jvm.hb hby at_185) (by decide) (q := 189) rfl ?_
      refine Go.istore X146.here hx (Jvm.hb hby at_189) (l2 := #[.val (.long q1), .second, .val (.long q2), .second, .val (.long q3), .second, .val (.int q4), .val (.int u3), .val (.long ll), .second, .val (.long ss), .second, .val (.long ww), .second, .val (.double rr), .second, .val (.double up), .second, .val (.double mo), .second, .val (.double db), .second, .val (.int (1 : Int32))]) rfl (q := 191) rfl ?_
      refine Go.iload X146.here hx (Jvm.hb hby at_191) rfl (q := 193) rfl ?_
      refine Go.iconst X146.here hx (Jvm.hb hby at_193) (v := (1 : Int32)) rfl (q := 194) rfl ?_
      by_cases hc194 : u3 = (1 : Int32)
      · -- pc 194: u3 = (1 : Int32)
        refine Go.icmpN X146.here hx (Jvm.hb hby at_194) (teq hc194).2 (q := 197) rfl ?_
        refine Go.iload X146.here hx (Jvm.hb hby at_197) rfl (q := 199) rfl ?_
        have hc199_153 : ¬ ((1 : Int32) = (0 : Int32)) := by decide
        refine Go.ifN X146.here hx (Jvm.hb hby at_199) ((if0 _ _).trans (feq hc199_153).1) (q := 202) rfl ?_
        refine Go.dload X146.here hx (Jvm.hb hby at_202) rfl (q := 204) rfl ?_
        refine Go.ldc2D X146 hx hown (mvT hZ (word hw 32 rfl)) (Jvm.hb hby at_204) (q := 207) rfl ?_
        refine Go.ldc2D X146 hx hown (mvT hZ (word hw 33 rfl)) (Jvm.hb hby at_207) (q := 210) rfl ?_
        refine Go.lload X146.here hx (Jvm.hb hby at_210) rfl (q := 212) rfl ?_
        obtain ⟨u212, hu212⟩ : ∃ zq, FP.l2d ll = zq := ⟨_, rfl⟩
        refine Go.l2d X146.here hx (Jvm.hb hby at_212) hu212 (q := 213) rfl ?_
        obtain ⟨u213, hu213⟩ : ∃ zq, FP.dmul (4636737291354636288 : UInt64) u212 = zq := ⟨_, rfl⟩
        refine Go.dmul X146.here hx (Jvm.hb hby at_213) (own_nn1 hu212) hu213 (q := 214) rfl ?_
        obtain ⟨u214, hu214⟩ : ∃ zq, FP.dmul (4588634794094654757 : UInt64) u213 = zq := ⟨_, rfl⟩
        have o1 := own_one (n := ll) (hw2 hc194)
        have o2 := own_one (n := ss) (hw2 hc194)
        have B := A1
        rw [o1, o2, hu212, hu213] at B
        refine Go.dmul X146.here hx (Jvm.hb hby at_214) (nn_of B.1) hu214 (q := 215) rfl ?_
        refine Go.ldc2D X146 hx hown (mvT hZ (word hw 34 rfl)) (Jvm.hb hby at_215) (q := 218) rfl ?_
        refine Go.ldc2D X146 hx hown (mvT hZ (word hw 33 rfl)) (Jvm.hb hby at_218) (q := 221) rfl ?_
        refine Go.lload X146.here hx (Jvm.hb hby at_221) rfl (q := 223) rfl ?_
        obtain ⟨u223, hu223⟩ : ∃ zq, FP.l2d ss = zq := ⟨_, rfl⟩
        refine Go.l2d X146.here hx (Jvm.hb hby at_223) hu223 (q := 224) rfl ?_
        obtain ⟨u224, hu224⟩ : ∃ zq, FP.dmul (4636737291354636288 : UInt64) u223 = zq := ⟨_, rfl⟩
        refine Go.dmul X146.here hx (Jvm.hb hby at_224) (own_nn1 hu223) hu224 (q := 225) rfl ?_
        rw [hu223, hu224] at B o2
        obtain ⟨u225, hu225⟩ : ∃ zq, FP.dmul (4599003881876712587 : UInt64) u224 = zq := ⟨_, rfl⟩
        refine Go.dmul X146.here hx (Jvm.hb hby at_225) (nn_of B.2.1) hu225 (q := 226) rfl ?_
        obtain ⟨u226, hu226⟩ : ∃ zq, FP.dsub u214 u225 = zq := ⟨_, rfl⟩
        refine Go.dsub X146.here hx (Jvm.hb hby at_226) (by have z := (nn_of B.2.2.1); rw [own_pq, hu214, hu225] at z; exact z) hu226 (q := 227) rfl ?_
        refine Go.ldc2D X146 hx hown (mvT hZ (word hw 35 rfl)) (Jvm.hb hby at_227) (q := 230) rfl ?_
        obtain ⟨u230, hu230⟩ : ∃ zq, FP.dsub u226 (4625084227318815130 : UInt64) = zq := ⟨_, rfl⟩
        refine Go.dsub X146.here hx (Jvm.hb hby at_230) (by have z := (nn_of B.2.2.2.1); rw [own_fin, own_pq, hu214, hu225, hu226] at z; exact z) hu230 (q := 231) rfl ?_
        obtain ⟨u231, hu231⟩ : ∃ zq, cmpValue (FP.dcmp rr u230) .l = zq := ⟨_, rfl⟩
        refine Go.dcmp X146.here hx (Jvm.hb hby at_231) hu231 (q := 232) rfl ?_
        have hc232 : u231 = (0 : Int32) := by rw [← hu231, ← hrr, own_cl, o1, o2, hu212, hu213, own_fin, own_pq, hu214, hu225, hu226, hu230]; have z := B.2.2.2.1; rw [own_fin, own_pq, hu214, hu225, hu226, hu230] at z; exact cmp_eq z z _ rfl
        refine Go.ifN X146.here hx (Jvm.hb hby at_232) ((if0 _ _).trans (teq hc232).2) (q := 235) rfl ?_
        refine Go.iconst X146.here hx (Jvm.hb hby at_235) (v := (1 : Int32)) rfl (q := 236) rfl ?_
        refine Go.goto X146.here hx (Jvm.hb hby at_236) (by decide) (q := 240) rfl ?_
        refine Go.istore X146.here hx (Jvm.hb hby at_240) (l2 := #[.val (.long q1), .second, .val (.long q2), .second, .val (.long q3), .second, .val (.int q4), .val (.int u3), .val (.long ll), .second, .val (.long ss), .second, .val (.long ww), .second, .val (.double rr), .second, .val (.double up), .second, .val (.double mo), .second, .val (.double db), .second, .val (.int (1 : Int32))]) rfl (q := 242) rfl ?_
        refine Go.iload X146.here hx (Jvm.hb hby at_242) rfl (q := 244) rfl ?_
        refine Go.retZ X146 hx hret hlk (Jvm.hb hby at_244) (Or.inr rfl) (by decide) (by decide) ?_
        exact ⟨rfl, N146⟩
      · -- pc 194: not u3 = (1 : Int32)
        refine Go.icmpY X146.here hx (Jvm.hb hby at_194) (feq hc194).2 (by decide) (q := 242) rfl ?_
        refine Go.iload X146.here hx (Jvm.hb hby at_242) rfl (q := 244) rfl ?_
        refine Go.retZ X146 hx hret hlk (Jvm.hb hby at_244) (Or.inr rfl) (by decide) (by decide) ?_
        exact ⟨rfl, N146⟩
    by_cases hc56 : u3 = (1 : Int32)
    · -- pc 56: u3 = (1 : Int32)
      refine Go.icmpN X0.here hx (Jvm.hb hby at_56) (teq hc56).2 (q := 59) rfl ?_
      refine Go.lconst X0.here hx (Jvm.hb hby at_59) (v := (1 : Int64)) rfl (q := 60) rfl ?_
      refine Go.goto X0.here hx (Jvm.hb hby at_60) (by decide) (q := 70) rfl ?_
      exact J70 (1 : Int64) (by decide) (fun _ => rfl)
    · -- pc 56: not u3 = (1 : Int32)
      refine Go.icmpY X0.here hx (Jvm.hb hby at_56) (feq hc56).2 (by decide) (q := 63) rfl ?_
      refine Go.lconst X0.here hx (Jvm.hb hby at_63) (v := (1 : Int64)) rfl (q := 64) rfl ?_
      refine Go.lloadN X0.here hx (Jvm.hb hby at_64) rfl (q := 65) rfl ?_
      refine Go.ldc2J X0 hx hown (mvT hZ (word hw 0 rfl)) (Jvm.hb hby at_65) (q := 68) rfl ?_
      obtain ⟨u68, hu68⟩ : ∃ zq, q2 &&& (1048575 : Int64) = zq := ⟨_, rfl⟩
      refine Go.land X0.here hx (Jvm.hb hby at_68) hu68 (q := 69) rfl ?_
      obtain ⟨u69, hu69⟩ : ∃ zq, (1 : Int64) + u68 = zq := ⟨_, rfl⟩
      refine Go.ladd X0.here hx (Jvm.hb hby at_69) hu69 (q := 70) rfl ?_
      exact J70 u69 (by have z := own_inc' (own_mask hu68).1 (own_mask hu68).2 hu69; have y := own_mask hu68; omega) (fun z => absurd z hc56)
set_option maxRecDepth 65536 in
set_option maxHeartbeats 40000000 in
theorem comes_1 {Post : Tables → Env → Array Value → State → Outcome → State → Prop} (hpost : ∀ tb e args s v u, (limb_1_1.after args s (.returned v) u = true ∧ limb_1_2.after args s (.returned v) u = true ∧ True) → FrameEnd s (.returned v) u (Jvm.fieldLocs frame_1_writes args s ++ Jvm.arrayLocs frame_1_arrays args s ++ Jvm.staticLocs frame_1_statics s) 16 128 → Post tb e args s (.returned v) u) :
    ArmFor flags0 classFile x code maxLocals ret World_1 tables_1 room_1 Calls_1 rest_1 Pre_1 Post := by
  intro l hfl _ _ p e ha hc hk s m args below hf hA hF happ hP
  obtain ⟨hcalls, hrest, hpre⟩ := hP
  obtain ⟨-, -, -, hnamed, -, -, -, hat⟩ := (Spec.applies_iff hf).mp happ
  obtain ⟨hg, hn⟩ := and_e (Cond.before_iff.mp (show (Jvm.Cond.and given_1 narrow_1).before args s = true from hpre))
  obtain ⟨g0, hg⟩ := and_e hg
  obtain ⟨w0, w1, w2, w3, rfl⟩ : ∃ w0 w1 w2 w3 : Value, args = #[w0, w1, w2, w3] := by
    have hs : args.size = 4 := by simpa [Cond.value, given_1] using g0
    obtain ⟨L⟩ := args
    match L, hs with
    | [w0, w1, w2, w3], _ => exact ⟨w0, w1, w2, w3, rfl⟩
  have hw := fun d (hd : d ∈ tables_1) => atoms_spec (ws := Jvm.Cond.code x code maxLocals ret :: tables_1) hat d (List.mem_cons_of_mem _ hd)
  obtain ⟨g1, hg⟩ := and_e hg
  obtain ⟨i0, e0⟩ := isL_v g1
  obtain rfl : w0 = (.long i0) := Option.some.inj e0
  obtain ⟨g2, hg⟩ := and_e hg
  obtain ⟨i1, e1⟩ := isL_v g2
  obtain rfl : w1 = (.long i1) := Option.some.inj e1
  obtain ⟨g3, hg⟩ := and_e hg
  obtain ⟨i2, e2⟩ := isL_v g3
  obtain rfl : w2 = (.long i2) := Option.some.inj e2
  obtain ⟨i3, e3⟩ := is_v hg
  obtain rfl : w3 = (.int i3) := Option.some.inj e3
  obtain ⟨n, o, h1, h2, h3, _, L, rfl, ⟨rfl, N⟩, hq⟩ := rm_law l s _ hw tables_1 i0 i1 i2 i3  s.heap s.heap.size (Nat.le_refl _)  p e ha hc hk s m _ below hf ((Spec.applies_iff_loose hf).mp happ).1 ⟨rfl, State.Warmed39.refl s, rfl⟩ trivial
  refine ⟨n, _, h1, h2, h3, hpost _ _ _ _ _ _ ⟨Cond.after_iff.mpr rfl, Cond.after_iff.mpr (eq_i res_at (Term.int_eval (1)) rfl), trivial⟩ ⟨hq.1, hq.2.1, (hq.2.2.sift fun y hy => Or.inr (N y hy)).mono (by decide) (by decide)⟩⟩
theorem main_1_1 : Claimed_1_1 := comes_1 fun _ _ _ _ _ _ h hF => ⟨h.1, hF⟩
theorem main_1_2 : Claimed_1_2 := comes_1 fun _ _ _ _ _ _ h hF => ⟨h.2.1, hF⟩
end Jvm.Pilot.@@N@@
namespace Jvm.Pilot.@@N@@
open Jvm Jvm.ClassFile Sem Op Lib Jvm.Free Jvm.Stand Jvm.Pilot.@@N@@.Jvm.D
/-! MADE BY PROGRAM (witnessworld.py) out of the Statement's table words and the real class files: 10 classes; the members and pool entries that the words name. The judged class is class 1, her method 1. -/
namespace start1
open Jvm.ClassFile
def u (s : String) : CpInfo := .utf8 (stringToUtf16 s)
/-- a pool by its gaps: so many unusable entries, then the entry; so many at the end -/
def gap : Nat → List CpInfo → List CpInfo
  | 0, r => r
  | n + 1, r => .unusable :: gap n r
def poolList (es : List (Nat × CpInfo)) (last : Nat) : List CpInfo := es.foldr (fun e r => gap e.1 (e.2 :: r)) (gap last [])
def pool (es : List (Nat × CpInfo)) (last : Nat) : Array CpInfo := ⟨poolList es last⟩
def fileOf (pool : Array CpInfo) (this : Nat) (attrs : Array Attribute := #[]) (ms : Array MethodInfo := #[]) (fl : Nat := 33) (sup : Nat := 0) (ifs : Array Nat := #[]) (fds : Array FieldInfo := #[]) : ClassFile where
  minorVersion := 0
  majorVersion := 65
  constantPool := pool
  accessFlags := fl
  thisClass := this
  superClass := sup
  interfaces := ifs
  fields := fds
  methods := ms
  attributes := attrs
def plain (name : String) (sup : Option ClassId) : Class where
  name := name
  kind := .ordinary
  loader := none
  accessFlags := 33
  super := sup
  interfaces := #[]
  cf := none
  fields := #[]
  methods := #[]
  instanceTypes := #[]
  staticTypes := #[]
  resolved := #[]
  callSites := []
  init := .initialized
  statics := none
  mirror := none

def pool0 : Array CpInfo := pool [(5, u "<init>"), (0, u "()V"), (1, .class_ 10), (1, u "java/lang/Object")] 113

def k0c0 : Code := { maxStack := 0, maxLocals := 1, code := object_method_1_code, exceptionTable := #[], attributes := #[] }
def k0m0 : Method := { name := "<init>", desc := "()V", sig := { parameters := [], returnType := none }, accessFlags := 1, code := some k0c0 }
/-- java/lang/Object -/
def k0 : Class := { plain "java/lang/Object" none with
  accessFlags := 33
  interfaces := #[]
  cf := some (fileOf pool0 8 #[] #[{ accessFlags := 1, nameIndex := 5, descriptorIndex := 6, attributes := #[] }] 33 0 #[] #[])
  fields := #[]
  methods := #[k0m0]
  instanceTypes := #[]
  staticTypes := #[]
  resolved := Array.replicate 124 none
  statics := none }

def pool1 : Array CpInfo := pool [(2, .class_ 4), (1, u "java/lang/Object"), (0, u "<init>"), (0, u "()V"), (0, .class_ 8), (0, u "com/example/hale_query/halequery/index/Readability"), (0, .methodref 7 10), (0, .nameAndType 5 11), (0, u "(JJJ)V"), (0, .methodref 7 13), (0, .nameAndType 14 15), (0, u "colemanLiau"), (0, u "()D"), (0, .double 13848456264173590938), (1, .long 1048575), (1, .long 2), (1, .double 4588634794094654757), (1, .double 4636737291354636288), (1, .double 4599003881876712587), (1, .double 4625084227318815130), (1, .class_ 31), (0, u "com/example/hale_query/halequery/index/ReadabilityColemanLiauPinLaw"), (2, u "law"), (0, u "(JJJI)Z")] 3

def k1m0 : Method := { name := "<init>", desc := "()V", sig := { parameters := [], returnType := none }, accessFlags := 1, code := none }
def k1c1 : Code := { maxStack := 10, maxLocals := 23, code := code, exceptionTable := #[], attributes := #[] }
def k1m1 : Method := { name := "law", desc := "(JJJI)Z", sig := { parameters := [.long, .long, .long, .int], returnType := some .boolean }, accessFlags := 9, code := some k1c1 }
/-- com/example/hale_query/halequery/index/ReadabilityColemanLiauPinLaw -/
def k1 : Class := { plain "com/example/hale_query/halequery/index/ReadabilityColemanLiauPinLaw" (some 0) with
  accessFlags := 49
  interfaces := #[]
  cf := some (fileOf pool1 30 #[] #[{ accessFlags := 1, nameIndex := 5, descriptorIndex := 6, attributes := #[] }, { accessFlags := 9, nameIndex := 34, descriptorIndex := 35, attributes := #[] }] 49 2 #[] #[])
  fields := #[]
  methods := #[k1m0, k1m1]
  instanceTypes := #[]
  staticTypes := #[]
  resolved := Array.replicate 39 none
  statics := none }

def pool2 : Array CpInfo := pool [(1, .methodref 2 3), (0, .class_ 4), (0, .nameAndType 5 6), (0, u "java/lang/Object"), (0, u "<init>"), (0, u "()V"), (0, .class_ 8), (0, u "java/lang/Record")] 13

def k2c0 : Code := { maxStack := 1, maxLocals := 1, code := jdk_30_method_1_code, exceptionTable := #[], attributes := #[] }
def k2m0 : Method := { name := "<init>", desc := "()V", sig := { parameters := [], returnType := none }, accessFlags := 4, code := some k2c0 }
/-- java/lang/Record -/
def k2 : Class := { plain "java/lang/Record" (some 0) with
  accessFlags := 1057
  interfaces := #[]
  cf := some (fileOf pool2 7 #[] #[{ accessFlags := 4, nameIndex := 5, descriptorIndex := 6, attributes := #[] }] 1057 2 #[] #[])
  fields := #[]
  methods := #[k2m0]
  instanceTypes := #[]
  staticTypes := #[]
  resolved := Array.replicate 22 none
  statics := none }

def pool3 : Array CpInfo := pool [(1, .methodref 2 3), (0, .class_ 4), (0, .nameAndType 5 6), (0, u "java/lang/Record"), (0, u "<init>"), (0, u "()V"), (0, .fieldref 8 9), (0, .class_ 10), (0, .nameAndType 11 12), (0, u "com/example/hale_query/halequery/index/Readability"), (0, u "letters"), (0, u "J"), (0, .fieldref 8 14), (0, .nameAndType 15 12), (0, u "words"), (0, .fieldref 8 17), (0, .nameAndType 18 12), (0, u "sentences"), (33, u "(JJJ)V"), (0, .double 4636737291354636288), (1, .double 4588634794094654757), (1, .double 4599003881876712587), (1, .double 4625084227318815130), (18, u "JOINERS"), (0, u "Ljava/lang/String;"), (7, u "colemanLiau"), (0, u "()D")] 25

def k3c0 : Code := { maxStack := 3, maxLocals := 7, code := prog_37_method_1_code, exceptionTable := #[], attributes := #[] }
def k3m0 : Method := { name := "<init>", desc := "(JJJ)V", sig := { parameters := [.long, .long, .long], returnType := none }, accessFlags := 1, code := some k3c0 }
def k3c1 : Code := { maxStack := 6, maxLocals := 5, code := prog_37_method_3_code, exceptionTable := #[], attributes := #[] }
def k3m1 : Method := { name := "colemanLiau", desc := "()D", sig := { parameters := [], returnType := some .double }, accessFlags := 1, code := some k3c1 }
/-- com/example/hale_query/halequery/index/Readability -/
def k3 : Class := { plain "com/example/hale_query/halequery/index/Readability" (some 2) with
  accessFlags := 49
  interfaces := #[]
  cf := some (fileOf pool3 8 #[] #[{ accessFlags := 1, nameIndex := 5, descriptorIndex := 52, attributes := #[] }, { accessFlags := 1, nameIndex := 87, descriptorIndex := 88, attributes := #[] }] 49 2 #[] #[{ accessFlags := 18, nameIndex := 11, descriptorIndex := 12, attributes := #[] }, { accessFlags := 18, nameIndex := 15, descriptorIndex := 12, attributes := #[] }, { accessFlags := 18, nameIndex := 18, descriptorIndex := 12, attributes := #[] }, { accessFlags := 26, nameIndex := 78, descriptorIndex := 79, attributes := #[] }])
  fields := #[{ name := "letters", type := .long, accessFlags := 18, slot := 0, constantValue := 0 }, { name := "words", type := .long, accessFlags := 18, slot := 1, constantValue := 0 }, { name := "sentences", type := .long, accessFlags := 18, slot := 2, constantValue := 0 }, { name := "JOINERS", type := (.object "java/lang/String"), accessFlags := 26, slot := 0, constantValue := 0 }]
  methods := #[k3m0, k3m1]
  instanceTypes := #[.long, .long, .long]
  staticTypes := #[(.object "java/lang/String")]
  resolved := Array.replicate 114 none
  statics := none }

def pool4 : Array CpInfo := pool [(1, u "java/lang/Cloneable"), (0, .class_ 1), (0, u "java/lang/Object"), (0, .class_ 3)] 3

/-- java/lang/Cloneable -/
def k4 : Class := { plain "java/lang/Cloneable" (some 0) with
  accessFlags := 1537
  interfaces := #[]
  cf := some (fileOf pool4 2 #[] #[] 1537 4 #[] #[])
  fields := #[]
  methods := #[]
  instanceTypes := #[]
  staticTypes := #[]
  resolved := Array.replicate 8 none
  statics := none }

def pool5 : Array CpInfo := pool [(1, u "java/io/Serializable"), (0, .class_ 1), (0, u "java/lang/Object"), (0, .class_ 3)] 3

/-- java/io/Serializable -/
def k5 : Class := { plain "java/io/Serializable" (some 0) with
  accessFlags := 1537
  interfaces := #[]
  cf := some (fileOf pool5 2 #[] #[] 1537 4 #[] #[])
  fields := #[]
  methods := #[]
  instanceTypes := #[]
  staticTypes := #[]
  resolved := Array.replicate 8 none
  statics := none }

/-- the primitive byte -/
def k6 : Class := { plain "byte" none with kind := .primitive 'B', accessFlags := 0x411 }
/-- [B -/
def k7 : Class := { plain "[B" (some 0) with kind := .array 6 .byte, interfaces := #[4, 5], accessFlags := 1041 }

/-- the primitive int -/
def k8 : Class := { plain "int" none with kind := .primitive 'I', accessFlags := 0x411 }
/-- [I -/
def k9 : Class := { plain "[I" (some 0) with kind := .array 8 .int, interfaces := #[4, 5], accessFlags := 1041 }

def heap : Heap := #[]
def classes : Array Class := #[k0, k1, k2, k3, k4, k5, k6, k7, k8, k9]
def interned : List (Array UInt16 × Addr) := []
def slotsUsed : Nat := 0
def theMethod : MethodId := ⟨1, 1⟩
def args0 : Array Value := #[.long 5, .long 7, .long 77, .int 1]
def aboutOver (below : List Frame) : State where
  vm := { classes := classes, interned := interned.toArray }
  heap := heap
  slotsUsed := slotsUsed
  threads := #[{ frames := .invoking theMethod args0 :: below }]
def below0 : List Frame := [.native { method := ⟨0, 0⟩, args := #[] }]
def about1 : State := aboutOver below0
def p0 : Program := .bare "" "" ""
def e0 : Env := launch0.env 0 0 0
theorem w_frames : about1.frames = Frame.invoking theMethod args0 :: below0 := rfl
set_option maxRecDepth 65536 in
theorem w_args : argsFit about1.vm theMethod args0 = true := by decide +kernel
set_option maxRecDepth 65536 in
theorem w_heap : heapFits about1 = true := by decide +kernel
set_option maxRecDepth 65536 in
theorem w_runnable : about1.curStatus? = some .runnable := by decide +kernel
set_option maxRecDepth 65536 in
theorem w_alone : about1.alone = true := by decide +kernel
set_option maxRecDepth 65536 in
theorem w_named : about1.methodNamed? x = some theMethod := by decide +kernel
set_option maxRecDepth 65536 in
theorem w_hears : about1.hears theMethod below0 = true := by decide +kernel
set_option maxRecDepth 65536 in
theorem w_ripe : about1.ripe theMethod args0 below0 = true := by decide +kernel
theorem w_running : about1.status = .running := rfl
set_option maxRecDepth 65536 in
theorem w_room : about1.hasRoom e0.platform room_1 = true :=
  launch0.hasRoom_least _ room_1 (by decide +kernel) (by decide +kernel) (by decide +kernel) (by decide +kernel) (by decide +kernel) (by decide +kernel)
theorem allAtoms_all (ts : List Jvm.Cond) (a : Array Jvm.Value) (st : Jvm.State) : (allAtoms ts).before a st = ts.all (fun c => c.before a st) := by
  induction ts with
  | nil => rfl
  | cons c t ih =>
    show (Jvm.Cond.and c (allAtoms t)).before a st = _
    rw [Jvm.Cond.before_and, ih, List.all_cons]
def words1 : List Jvm.Cond := Jvm.Cond.code x code maxLocals ret :: tables_1
/-- a 'code' word, met by the world's own term for the bytes: nothing is compared byte by byte -/
theorem code_word {y : MethodName} {bytes : ByteArray} {mx : Nat} {rt : Option FieldType} {a : Array Value} {s : State} {m : MethodId} {meth : Method} {c : Code} (h1 : s.methodNamed? y = some m) (h2 : s.vm.method? m = some meth) (h3 : meth.code = some c) (h4 : c.code = bytes)
    (h5 : (c.maxLocals == mx && c.exceptionTable.isEmpty && decide (c.maxStack ≤ mostOperands) && decide (meth.sig.returnType = rt) && !meth.locks && decide (parseMethodDescriptor y.desc = some meth.sig)) = true) : (Jvm.Cond.code y bytes mx rt).before a s = true := by
  simp only [Bool.and_eq_true, beq_iff_eq, Bool.not_eq_true', decide_eq_true_eq] at h5
  obtain ⟨⟨⟨⟨⟨g1, g2⟩, g3⟩, g4⟩, g5⟩, g6⟩ := h5
  simp [Cond.before, Cond.holds, Cond.value, h1, h2, h3, h4, g1, g2, g3, g4, g5, g6]
def isCode : Jvm.Cond → Bool
  | .code _ _ _ _ => true
  | _ => false
theorem all_split {L : List Jvm.Cond} {P : Jvm.Cond → Bool} (h1 : L.all (fun c => isCode c || P c) = true) (h2 : ∀ c ∈ L.filter isCode, P c = true) : L.all P = true := by
  refine List.all_eq_true.mpr fun c hc => ?_
  have h := List.all_eq_true.mp h1 c hc
  rcases Bool.eq_false_or_eq_true (isCode c) with hi | hi
  · exact h2 c (List.mem_filter.mpr ⟨hc, hi⟩)
  · simpa [hi] using h
set_option maxRecDepth 65536 in
theorem w_c0 : (Jvm.Cond.code x code maxLocals ret).before args0 about1 = true := code_word (m := ⟨1, 1⟩) (meth := k1m1) (c := k1c1) (by decide +kernel) rfl rfl rfl (by decide +kernel)
set_option maxRecDepth 65536 in
theorem w_c1 : (Jvm.Cond.code ({ cls := "com/example/hale_query/halequery/index/Readability", name := "<init>", desc := "(JJJ)V" } : Jvm.MethodName) prog_37_method_1_code (7 : Nat) (Option.none : Option Jvm.ClassFile.FieldType)).before args0 about1 = true := code_word (m := ⟨3, 0⟩) (meth := k3m0) (c := k3c0) (by decide +kernel) rfl rfl rfl (by decide +kernel)
set_option maxRecDepth 65536 in
theorem w_c2 : (Jvm.Cond.code ({ cls := "java/lang/Record", name := "<init>", desc := "()V" } : Jvm.MethodName) jdk_30_method_1_code (1 : Nat) (Option.none : Option Jvm.ClassFile.FieldType)).before args0 about1 = true := code_word (m := ⟨2, 0⟩) (meth := k2m0) (c := k2c0) (by decide +kernel) rfl rfl rfl (by decide +kernel)
set_option maxRecDepth 65536 in
theorem w_c3 : (Jvm.Cond.code ({ cls := "java/lang/Object", name := "<init>", desc := "()V" } : Jvm.MethodName) object_method_1_code (1 : Nat) (Option.none : Option Jvm.ClassFile.FieldType)).before args0 about1 = true := code_word (m := ⟨0, 0⟩) (meth := k0m0) (c := k0c0) (by decide +kernel) rfl rfl rfl (by decide +kernel)
set_option maxRecDepth 65536 in
theorem w_c4 : (Jvm.Cond.code ({ cls := "com/example/hale_query/halequery/index/Readability", name := "colemanLiau", desc := "()D" } : Jvm.MethodName) prog_37_method_3_code (5 : Nat) (Option.some Jvm.ClassFile.FieldType.double)).before args0 about1 = true := code_word (m := ⟨3, 1⟩) (meth := k3m1) (c := k3c1) (by decide +kernel) rfl rfl rfl (by decide +kernel)
def codes1 : List Jvm.Cond := [Jvm.Cond.code x code maxLocals ret, Jvm.Cond.code ({ cls := "com/example/hale_query/halequery/index/Readability", name := "<init>", desc := "(JJJ)V" } : Jvm.MethodName) prog_37_method_1_code (7 : Nat) (Option.none : Option Jvm.ClassFile.FieldType), Jvm.Cond.code ({ cls := "java/lang/Record", name := "<init>", desc := "()V" } : Jvm.MethodName) jdk_30_method_1_code (1 : Nat) (Option.none : Option Jvm.ClassFile.FieldType), Jvm.Cond.code ({ cls := "java/lang/Object", name := "<init>", desc := "()V" } : Jvm.MethodName) object_method_1_code (1 : Nat) (Option.none : Option Jvm.ClassFile.FieldType), Jvm.Cond.code ({ cls := "com/example/hale_query/halequery/index/Readability", name := "colemanLiau", desc := "()D" } : Jvm.MethodName) prog_37_method_3_code (5 : Nat) (Option.some Jvm.ClassFile.FieldType.double)]
set_option maxRecDepth 65536 in
theorem codes_eq : words1.filter isCode = codes1 := rfl
theorem w_codes : ∀ c ∈ words1.filter isCode, c.before args0 about1 = true := by
  rw [codes_eq]
  intro c hc
  simp only [codes1, List.mem_cons, List.not_mem_nil, or_false] at hc
  rcases hc with rfl | rfl | rfl | rfl | rfl
  · exact w_c0
  · exact w_c1
  · exact w_c2
  · exact w_c3
  · exact w_c4
set_option maxRecDepth 65536 in
theorem w_t1 : (words1.take 24).all (fun c => isCode c || c.before args0 about1) = true := by decide +kernel
set_option maxRecDepth 65536 in
theorem w_t2 : (words1.drop 24).all (fun c => isCode c || c.before args0 about1) = true := by decide +kernel
theorem w_tables : (allAtoms (Jvm.Cond.code x code maxLocals ret :: tables_1)).before args0 about1 = true := by
  rw [allAtoms_all]
  show words1.all (fun c => c.before args0 about1) = true
  refine all_split ?_ w_codes
  rw [← List.take_append_drop 24 words1, List.all_append, w_t1, w_t2]
  rfl
set_option maxRecDepth 65536 in
theorem w_case : (Jvm.Cond.and given_1 narrow_1).before args0 about1 = true := by decide +kernel
theorem w_applies : (headSpec (Jvm.Cond.code x code maxLocals ret :: tables_1) room_1).applies x e0.platform about1 = true :=
  (Spec.applies_iff w_frames).mpr ⟨w_running, w_runnable, w_alone, w_named, w_hears, w_ripe, w_room, w_tables⟩
theorem atStart : AtStart classFile x code maxLocals ret World_1 tables_1 room_1 Calls_1 rest_1 Pre_1 launch0 p0 e0 about1 theMethod args0 below0 :=
  ⟨lists_1, trivial, launch0.admits_env _ _ _, launch0.least_env, fairChoices_fair.cas, fairChoices_fair.clock, w_frames, w_args, w_heap, w_applies, trivial, trivial, w_case⟩
end start1
theorem witness_1 : WitnessClaimed_1 := ⟨start1.p0, start1.e0, start1.about1, start1.theMethod, start1.args0, start1.below0, start1.atStart⟩
end Jvm.Pilot.@@N@@
