import JvmDerived
import JvmDerived.Pilot.@@N@@Statement
import JvmDerived.Pilot.@@N@@Code
set_option linter.unusedVariables false
set_option linter.unusedSimpArgs false
namespace Jvm.Pilot.@@N@@
open Jvm Jvm.ClassFile Sem Op Lib Jvm.Free Jvm.Stand Jvm.LawKit Jvm.RoadKit Bundle Jvm.Pilot.@@N@@.Jvm.D
/-! own layer 1: doubles as whole numbers of least units (2 to the -1074) -/
section OwnFp
open Jvm.FP Jvm.FP.Core Jvm.Free.Fl
/-- a power of two -/
def P2 (j : Nat) : Int := ((2 ^ j : Nat) : Int)
theorem P2_pos (j : Nat) : 0 < P2 j := Int.natCast_pos.mpr (Nat.two_pow_pos j)
theorem P2_add (i j : Nat) : P2 (i + j) = P2 i * P2 j := by unfold P2; rw [Nat.pow_add, Int.natCast_mul]
theorem P2_one64 : (one64 : Int) = P2 1074 := rfl
/-- the value of a double in least units -/
def Zv (a : UInt64) : Int := zval b64 (val64 a)
/-- some finite double has this value -/
def Rep (V : Int) : Prop := ∃ x : UInt64, DFin x ∧ Zv x = V
theorem own_qmax : b64.qmax = 971 := by decide
theorem own_signed_abs (c : Int) : signed (decide (c < 0)) c.natAbs = c := by
  unfold signed
  by_cases q : c < 0
  · simp [q]; omega
  · simp [q]; omega
theorem rep_core (s : Bool) {c j : Nat} (hc : c < 2 ^ 53) (hj : j ≤ 2045) : ∃ x : UInt64, DFin x ∧ Zv x = signed s (c * 2 ^ j) := by
  obtain ⟨c', q', h1, h2⟩ := round_exact (f := b64) good_b64 s (c := c) (q := (j : Int) - 1074) hc (by rw [qmin_b64]; omega) (by rw [own_qmax]; omega)
  refine ⟨of64 (round b64 (.fin s c ((j : Int) - 1074))), ⟨s, c', q', ?_⟩, ?_⟩
  · rw [val64_of64 (round_fits good_b64 _), h1]
  · unfold Zv
    rw [val64_of64 (round_fits good_b64 _), h1]
    show signed s (inUnits c' q' b64.qmin) = _
    rw [h2]
    unfold inUnits
    rw [show ((j : Int) - 1074 - b64.qmin).toNat = j by rw [qmin_b64]; omega]
theorem rep_mk (c : Int) (j : Nat) (hc : c.natAbs ≤ 2 ^ 53) (hj : j ≤ 2044) : Rep (c * P2 j) := by
  by_cases h : c.natAbs < 2 ^ 53
  · obtain ⟨x, h1, h2⟩ := rep_core (decide (c < 0)) h (j := j) (by omega)
    refine ⟨x, h1, h2.trans ?_⟩
    rw [signed_mul, own_signed_abs]; rfl
  · have h' : c.natAbs = 2 ^ 53 := by omega
    obtain ⟨x, h1, h2⟩ := rep_core (decide (c < 0)) (c := 2 ^ 52) (by decide) (j := j + 1) (by omega)
    refine ⟨x, h1, h2.trans ?_⟩
    have e : 2 ^ 52 * 2 ^ (j + 1) = c.natAbs * 2 ^ j := by
      rw [h', Nat.pow_add 2 j 1]
      generalize 2 ^ j = t
      omega
    rw [e, signed_mul, own_signed_abs]; rfl
theorem rep_of {V : Int} (c : Int) (j : Nat) (hc : c.natAbs ≤ 2 ^ 53) (hj : j ≤ 2044) (h : V = c * P2 j) : Rep V := h ▸ rep_mk c j hc hj
theorem rep_int (n : Int) (h : n.natAbs ≤ 2 ^ 53) : Rep (n * P2 1074) := rep_mk n 1074 h (by decide)
theorem rep_zero : Rep 0 := rep_of 0 0 (by decide) (by decide) (by simp)
theorem rep_self {x : UInt64} (h : DFin x) : Rep (Zv x) := ⟨x, h, rfl⟩
theorem rep_neg {V : Int} (h : Rep V) : Rep (-V) := by
  obtain ⟨x, hx, rfl⟩ := h
  obtain ⟨s, c, q, hv⟩ := hx
  refine ⟨Core.dneg x, ⟨!s, c, q, ?_⟩, ?_⟩
  · rw [Core.val64_dneg, hv]; rfl
  · unfold Zv; rw [Core.val64_dneg, zval_negate]
/-- between two finite values: finite -/
theorem fin_between {x : UInt64} (hn : val64 x ≠ .nan) {L H : Int} (hL : Rep L) (hH : Rep H) (h1 : L ≤ Zv x) (h2 : Zv x ≤ H) : DFin x := by
  cases hv : val64 x with
  | nan => exact absurd hv hn
  | fin s c q => exact ⟨s, c, q, hv⟩
  | inf s =>
    exfalso
    obtain ⟨y, hy, rfl⟩ := hL
    obtain ⟨z, hz, rfl⟩ := hH
    have a1 := hy.zval_lt
    have a2 := hz.zval_lt
    have e : Zv x = signed s (b64.tails * 2 ^ (b64.exps - 2)) := by unfold Zv; rw [hv]; rfl
    have b1 : signed (sgn (val64 y)) (zmag b64 (val64 y)) ≤ signed s (b64.tails * 2 ^ (b64.exps - 2)) := e ▸ h1
    have b2 : signed s (b64.tails * 2 ^ (b64.exps - 2)) ≤ signed (sgn (val64 z)) (zmag b64 (val64 z)) := e ▸ h2
    generalize b64.tails * 2 ^ (b64.exps - 2) = top at *
    generalize zmag b64 (val64 y) = my at *
    generalize zmag b64 (val64 z) = mz at *
    generalize sgn (val64 y) = sy at *
    generalize sgn (val64 z) = sz at *
    cases s <;> cases sy <;> cases sz <;> simp only [signed, if_true, Bool.false_eq_true, if_false] at b1 b2 <;> omega
theorem not_nan {x : UInt64} (h : Core.dIsNaN x = false) : val64 x ≠ .nan := (notNaN_iff x).mp h
theorem nn_of {x : UInt64} (h : DFin x) : NoNaN64 x := (fin64_core.mpr h).noNaN
/-! sums -/
theorem add_le {a b : UInt64} (ha : DFin a) (hb : DFin b) {V : Int} (hV : Rep V) (h : Zv a + Zv b ≤ V) : Zv (FP.dadd a b) ≤ V := by
  obtain ⟨x, hx, rfl⟩ := hV
  unfold Zv at h ⊢
  rw [val64_dadd]
  exact sum_le good_b64 ha hb (val64_fits a) (val64_fits b) (val64_fits x) hx.ne_nan h
theorem add_ge {a b : UInt64} (ha : DFin a) (hb : DFin b) {V : Int} (hV : Rep V) (h : V ≤ Zv a + Zv b) : V ≤ Zv (FP.dadd a b) := by
  obtain ⟨x, hx, rfl⟩ := hV
  unfold Zv at h ⊢
  rw [val64_dadd]
  exact sum_ge good_b64 ha hb (val64_fits a) (val64_fits b) (val64_fits x) hx.ne_nan h
theorem add_in {a b : UInt64} (ha : DFin a) (hb : DFin b) {L H : Int} (hL : Rep L) (hH : Rep H) (h1 : L ≤ Zv a + Zv b) (h2 : Zv a + Zv b ≤ H) : DFin (FP.dadd a b) ∧ L ≤ Zv (FP.dadd a b) ∧ Zv (FP.dadd a b) ≤ H :=
  ⟨fin_between (not_nan (Core.dadd_out ha.notNaN hb)) hL hH (add_ge ha hb hL h1) (add_le ha hb hH h2), add_ge ha hb hL h1, add_le ha hb hH h2⟩
theorem add_eq {a b : UInt64} (ha : DFin a) (hb : DFin b) {V : Int} (hV : Rep V) (h : Zv a + Zv b = V) : DFin (FP.dadd a b) ∧ Zv (FP.dadd a b) = V := by
  obtain ⟨h1, h2, h3⟩ := add_in ha hb hV hV (Int.le_of_eq h.symm) (Int.le_of_eq h)
  exact ⟨h1, Int.le_antisymm h3 h2⟩
/-! signs -/
theorem neg_eq {a : UInt64} (ha : DFin a) : DFin (FP.dneg a) ∧ Zv (FP.dneg a) = -Zv a := by
  obtain ⟨s, c, q, hv⟩ := ha
  constructor
  · exact ⟨!s, c, q, by rw [FP.val64_dneg, hv]; rfl⟩
  · unfold Zv; rw [FP.val64_dneg, zval_negate]
theorem cneg_eq {a : UInt64} (ha : DFin a) : DFin (Core.dneg a) ∧ Zv (Core.dneg a) = -Zv a := by
  obtain ⟨s, c, q, hv⟩ := ha
  constructor
  · exact ⟨!s, c, q, by rw [Core.val64_dneg, hv]; rfl⟩
  · unfold Zv; rw [Core.val64_dneg, zval_negate]
/-! differences -/
theorem sub_in {a b : UInt64} (ha : DFin a) (hb : DFin b) {L H : Int} (hL : Rep L) (hH : Rep H) (h1 : L ≤ Zv a - Zv b) (h2 : Zv a - Zv b ≤ H) : DFin (FP.dsub a b) ∧ L ≤ Zv (FP.dsub a b) ∧ Zv (FP.dsub a b) ≤ H := by
  obtain ⟨n1, n2⟩ := cneg_eq hb
  have e : FP.dsub a b = FP.dadd a (Core.dneg b) := Core.dsub_eq a b
  rw [e]
  exact add_in ha n1 hL hH (by rw [n2]; omega) (by rw [n2]; omega)
theorem sub_eq {a b : UInt64} (ha : DFin a) (hb : DFin b) {V : Int} (hV : Rep V) (h : Zv a - Zv b = V) : DFin (FP.dsub a b) ∧ Zv (FP.dsub a b) = V := by
  obtain ⟨h1, h2, h3⟩ := sub_in ha hb hV hV (Int.le_of_eq h.symm) (Int.le_of_eq h)
  exact ⟨h1, Int.le_antisymm h3 h2⟩
/-! products -/
theorem own_q2 : (b64.qmin - 2 * b64.qmin).toNat = 1074 := by rw [qmin_b64]; decide
theorem mul_le {a b : UInt64} (ha : DFin a) (hb : DFin b) {V : Int} (hV : Rep V) (h : Zv a * Zv b ≤ V * P2 1074) : Zv (FP.dmul a b) ≤ V := by
  obtain ⟨x, hx, rfl⟩ := hV
  obtain ⟨s, c, q, hva⟩ := ha
  obtain ⟨t, d, r, hvb⟩ := hb
  have fa := val64_fits a
  have fb := val64_fits b
  unfold Zv at h ⊢
  rw [hva] at fa h
  rw [hvb] at fb h
  obtain ⟨p1, p2, p3⟩ := product_units fa fb
  rw [val64_dmul, hva, hvb, p1]
  refine zval_round_le good_b64 (val64_fits x) hx.ne_nan (e0 := 2 * b64.qmin) (by rw [qmin_b64]; decide) p2 ?_
  rw [p3, signed_xor, own_q2]
  exact h
theorem mul_ge {a b : UInt64} (ha : DFin a) (hb : DFin b) {V : Int} (hV : Rep V) (h : V * P2 1074 ≤ Zv a * Zv b) : V ≤ Zv (FP.dmul a b) := by
  obtain ⟨x, hx, rfl⟩ := hV
  obtain ⟨s, c, q, hva⟩ := ha
  obtain ⟨t, d, r, hvb⟩ := hb
  have fa := val64_fits a
  have fb := val64_fits b
  unfold Zv at h ⊢
  rw [hva] at fa h
  rw [hvb] at fb h
  obtain ⟨p1, p2, p3⟩ := product_units fa fb
  rw [val64_dmul, hva, hvb, p1]
  refine zval_round_ge good_b64 (val64_fits x) hx.ne_nan (e0 := 2 * b64.qmin) (by rw [qmin_b64]; decide) p2 ?_
  rw [p3, signed_xor, own_q2]
  exact h
theorem mul_in {a b : UInt64} (ha : DFin a) (hb : DFin b) {L H : Int} (hL : Rep L) (hH : Rep H) (h1 : L * P2 1074 ≤ Zv a * Zv b) (h2 : Zv a * Zv b ≤ H * P2 1074) : DFin (FP.dmul a b) ∧ L ≤ Zv (FP.dmul a b) ∧ Zv (FP.dmul a b) ≤ H :=
  ⟨fin_between (not_nan (Core.dmul_out ha hb)) hL hH (mul_ge ha hb hL h1) (mul_le ha hb hH h2), mul_ge ha hb hL h1, mul_le ha hb hH h2⟩
theorem mul_eq {a b : UInt64} (ha : DFin a) (hb : DFin b) {V : Int} (hV : Rep V) (h : Zv a * Zv b = V * P2 1074) : DFin (FP.dmul a b) ∧ Zv (FP.dmul a b) = V := by
  obtain ⟨h1, h2, h3⟩ := mul_in ha hb hV hV (Int.le_of_eq h.symm) (Int.le_of_eq h)
  exact ⟨h1, Int.le_antisymm h3 h2⟩
/-! quotients by a positive number -/
theorem own_sgn_le {s t : Bool} {A V B r : Nat} (hB : 0 < B) (hle : A ≤ V * B → r ≤ V) (hge : V * B ≤ A → V ≤ r) (h : signed s A ≤ signed t V * (B : Int)) : signed s r ≤ signed t V := by
  rw [← signed_mul] at h
  have hz : V * B = 0 → V = 0 := fun q => by rcases Nat.mul_eq_zero.mp q with q | q <;> omega
  generalize V * B = vb at *
  cases s <;> cases t <;> simp only [signed, if_true, Bool.false_eq_true, if_false] at h ⊢
  · have := hle (by omega); omega
  · have := hle (by omega); have := hz (by omega); omega
  · omega
  · have := hge (by omega); omega
theorem own_sgn_ge {s t : Bool} {A V B r : Nat} (hB : 0 < B) (hle : A ≤ V * B → r ≤ V) (hge : V * B ≤ A → V ≤ r) (h : signed t V * (B : Int) ≤ signed s A) : signed t V ≤ signed s r := by
  rw [← signed_mul] at h
  have hz : V * B = 0 → V = 0 := fun q => by rcases Nat.mul_eq_zero.mp q with q | q <;> omega
  generalize V * B = vb at *
  cases s <;> cases t <;> simp only [signed, if_true, Bool.false_eq_true, if_false] at h ⊢
  · have := hge (by omega); omega
  · omega
  · have := hle (by omega); have := hz (by omega); omega
  · have := hle (by omega); omega
theorem div_core {a b : UInt64} (ha : DFin a) (hb : DFin b) (hp : 0 < Zv b) (x : UInt64) (hx : DFin x) :
    ∃ (s : Bool) (A B : Nat), (B : Int) = Zv b ∧ signed s A = Zv a * P2 1074 ∧ 0 < B ∧ ∃ r, Zv (FP.ddiv a b) = signed s r ∧ (A ≤ zmag b64 (val64 x) * B → r ≤ zmag b64 (val64 x)) ∧ (zmag b64 (val64 x) * B ≤ A → zmag b64 (val64 x) ≤ r) := by
  obtain ⟨s, c, q, hva⟩ := ha
  obtain ⟨t, d, r, hvb⟩ := hb
  have fa := val64_fits a
  have fb := val64_fits b
  rw [hva] at fa
  rw [hvb] at fb
  have f1 := fa.2.1
  have f2 := fb.2.1
  have zb : Zv b = signed t (inUnits d r b64.qmin) := by unfold Zv; rw [hvb]; rfl
  have hd : 0 < d := by
    rcases Nat.eq_zero_or_pos d with q0 | q0
    · rw [zb, q0] at hp
      have : inUnits 0 r b64.qmin = 0 := Nat.zero_mul _
      rw [this, signed_zero] at hp; omega
    · exact q0
  have ht : t = false := by
    cases t with
    | false => rfl
    | true => rw [zb] at hp; simp only [signed, if_true] at hp; omega
  subst ht
  have hB : 0 < inUnits d r b64.qmin := Nat.mul_pos hd (Nat.two_pow_pos _)
  have e1 : inUnits c (q - r) (2 * b64.qmin - r) = inUnits c q b64.qmin * 2 ^ 1074 := by
    unfold inUnits
    rw [Nat.mul_assoc, ← Nat.pow_add]
    rw [qmin_b64] at *
    congr 2; omega
  have e2 : 2 ^ (b64.qmin - (2 * b64.qmin - r)).toNat * d = inUnits d r b64.qmin := by
    unfold inUnits
    rw [Nat.mul_comm]; congr 2; omega
  have hv : val64 (FP.ddiv a b) = roundRatio b64 s c d (q - r) := by
    rw [val64_ddiv, hva, hvb]
    show (if d = 0 then _ else roundRatio b64 (s != false) c d (q - r)) = _
    rw [if_neg (by omega)]
    cases s <;> rfl
  refine ⟨s, inUnits c q b64.qmin * 2 ^ 1074, inUnits d r b64.qmin, ?_, ?_, hB, zmag b64 (roundRatio b64 s c d (q - r)), ?_, ?_, ?_⟩
  · rw [zb]; simp only [signed, Bool.false_eq_true, if_false]
  · unfold Zv; rw [signed_mul, hva]; rfl
  · unfold Zv; rw [hv]; show signed (sgn _) _ = _; rw [sgn_roundRatio]
  · intro h
    refine zmag_roundRatio_le good_b64 hd (val64_fits x) hx.ne_nan (e0 := 2 * b64.qmin - r) (by have := qmin_b64; omega) (by have := qmin_b64; omega) ?_
    rw [e1, Nat.mul_assoc, e2]; exact h
  · intro h
    refine zmag_roundRatio_ge good_b64 hd (val64_fits x) (e0 := 2 * b64.qmin - r) (by have := qmin_b64; omega) (by have := qmin_b64; omega) ?_
    rw [e1, Nat.mul_assoc, e2]; exact h
theorem div_le {a b : UInt64} (ha : DFin a) (hb : DFin b) (hp : 0 < Zv b) {V : Int} (hV : Rep V) (h : Zv a * P2 1074 ≤ V * Zv b) : Zv (FP.ddiv a b) ≤ V := by
  obtain ⟨x, hx, rfl⟩ := hV
  obtain ⟨s, A, B, h1, h2, h3, r, h4, h5, h6⟩ := div_core ha hb hp x hx
  rw [h4]
  rw [← h2, ← h1] at h
  exact own_sgn_le h3 h5 h6 h
theorem div_ge {a b : UInt64} (ha : DFin a) (hb : DFin b) (hp : 0 < Zv b) {V : Int} (hV : Rep V) (h : V * Zv b ≤ Zv a * P2 1074) : V ≤ Zv (FP.ddiv a b) := by
  obtain ⟨x, hx, rfl⟩ := hV
  obtain ⟨s, A, B, h1, h2, h3, r, h4, h5, h6⟩ := div_core ha hb hp x hx
  rw [h4]
  rw [← h2, ← h1] at h
  exact own_sgn_ge h3 h5 h6 h
theorem pos_nz {b : UInt64} (hp : 0 < Zv b) : ¬ DZero b := fun q => by
  have := q.zval
  unfold Zv at hp
  omega
theorem div_in {a b : UInt64} (ha : DFin a) (hb : DFin b) (hp : 0 < Zv b) {L H : Int} (hL : Rep L) (hH : Rep H) (h1 : L * Zv b ≤ Zv a * P2 1074) (h2 : Zv a * P2 1074 ≤ H * Zv b) : DFin (FP.ddiv a b) ∧ L ≤ Zv (FP.ddiv a b) ∧ Zv (FP.ddiv a b) ≤ H :=
  ⟨fin_between (not_nan (Core.ddiv_out ha.notNaN hb (pos_nz hp))) hL hH (div_ge ha hb hp hL h1) (div_le ha hb hp hH h2), div_ge ha hb hp hL h1, div_le ha hb hp hH h2⟩
theorem div_eq {a b : UInt64} (ha : DFin a) (hb : DFin b) (hp : 0 < Zv b) {V : Int} (hV : Rep V) (h : Zv a * P2 1074 = V * Zv b) : DFin (FP.ddiv a b) ∧ Zv (FP.ddiv a b) = V := by
  obtain ⟨h1, h2, h3⟩ := div_in ha hb hp hV hV (Int.le_of_eq h.symm) (Int.le_of_eq h)
  exact ⟨h1, Int.le_antisymm h3 h2⟩
/-! whole numbers -/
theorem l2d_in {n : Int64} {L H : Int} (hL : Rep L) (hH : Rep H) (h1 : L ≤ n.toInt * P2 1074) (h2 : n.toInt * P2 1074 ≤ H) : L ≤ Zv (FP.l2d n) ∧ Zv (FP.l2d n) ≤ H := by
  obtain ⟨x, hx, rfl⟩ := hL
  obtain ⟨y, hy, rfl⟩ := hH
  exact ⟨l2d_zval_ge hx.ne_nan h1, l2d_zval_le hy.ne_nan h2⟩
theorem l2d_dfin (n : Int64) : DFin (FP.l2d n) := Core.l2d_fin n
theorem i2d_dfin (n : Int32) : DFin (FP.i2d n) := Core.i2d_fin n
theorem l2d_rep {n : Int64} (h : Rep (n.toInt * P2 1074)) : Zv (FP.l2d n) = n.toInt * P2 1074 := by
  obtain ⟨h1, h2⟩ := l2d_in h h (Int.le_refl _) (Int.le_refl _)
  exact Int.le_antisymm h2 h1
theorem l2d_eq {n : Int64} (h : n.toInt.natAbs ≤ 2 ^ 53) : Zv (FP.l2d n) = n.toInt * P2 1074 := l2d_rep (rep_int _ h)
theorem i2d_eq (n : Int32) : Zv (FP.i2d n) = n.toInt * P2 1074 := by
  rw [i2d_w, l2d_eq (by rw [Int32.toInt_toInt64]; have := int32_abs n; omega), Int32.toInt_toInt64]
theorem d2l_eq {a : UInt64} (ha : DFin a) {n : Int} (h : Zv a = n * P2 1074) (h1 : -9223372036854775808 ≤ n) (h2 : n < 9223372036854775808) : (FP.d2l a).toInt = n := by
  have e := d2l_val ha.ne_nan
  have z : signed (sgn (val64 a)) (zmag b64 (val64 a)) = n * (one64 : Int) := h
  have hp := one64_pos
  have hm : zmag b64 (val64 a) = n.natAbs * one64 := by
    have q := congrArg Int.natAbs z
    rw [natAbs_signed, Int.natAbs_mul] at q
    exact q
  have hs : signed (sgn (val64 a)) n.natAbs = n := by
    rw [hm, signed_mul] at z
    exact Int.eq_of_mul_eq_mul_right (by omega) z
  rw [hm, Nat.mul_div_cancel _ hp, hs] at e
  show (Core.d2l a).toInt = n
  rw [e]; omega
/-! comparisons -/
theorem cmp_lt {a b : UInt64} (ha : DFin a) (hb : DFin b) (o : CmpOp) (h : Zv a < Zv b) : cmpValue (FP.dcmp a b) o = -1 := by
  rw [show FP.dcmp a b = some .lt from dcmp_lt.mpr ⟨ha.ne_nan, hb.ne_nan, h⟩]; rfl
theorem cmp_eq {a b : UInt64} (ha : DFin a) (hb : DFin b) (o : CmpOp) (h : Zv a = Zv b) : cmpValue (FP.dcmp a b) o = 0 := by
  rw [show FP.dcmp a b = some .eq from dcmp_eq.mpr ⟨ha.ne_nan, hb.ne_nan, h⟩]; rfl
theorem cmp_gt {a b : UInt64} (ha : DFin a) (hb : DFin b) (o : CmpOp) (h : Zv b < Zv a) : cmpValue (FP.dcmp a b) o = 1 := by
  rw [show FP.dcmp a b = some .gt from dcmp_gt.mpr ⟨ha.ne_nan, hb.ne_nan, h⟩]; rfl
/-! constants -/
theorem zero_fin : DFin 0 := (fin_bits _).mpr (by decide)
theorem zero_z : Zv 0 = 0 := zval64_zero
theorem one_fin : DFin 4607182418800017408 := (fin_bits _).mpr (by decide)
theorem one_z : Zv 4607182418800017408 = 1 * P2 1074 := by unfold Zv P2; decide +kernel
end OwnFp

/-! own layer 2: walking forward -/
section OwnGo
open Jvm.Free.Fl
variable {p : Program} {l : Launch} {e : Env} {R : Room} {s : State} {m : MethodId} {args : Array Value} {below : List Frame} {meth : Method} {c : Code} {T : State} {locs : List Loc} {cells slots : Nat} {Q : Outcome → State → Prop}
/-- from here the run comes to an end that Q allows -/
def Go (p : Program) (e : Env) (below : List Frame) (Q : Outcome → State → Prop) (S : State) : Prop :=
  ∃ s₂ o, Steps p.tables e below S s₂ ∧ s₂.status = .running ∧ Ended s₂ below o ∧ Q o s₂
theorem Go.of {S S' : State} (h : ∀ t, Steps p.tables e below S' t → Steps p.tables e below S t) (g : Go p e below Q S') : Go p e below Q S := by
  obtain ⟨s₂, o, h1, h2⟩ := g
  exact ⟨s₂, o, h _ h1, h2⟩
theorem Go.tr {S S' : State} (h : Steps p.tables e below S S') (g : Go p e below Q S') : Go p e below Q S := Go.of (fun _ k => h.trans k) g
abbrev Ret (s : State) (Qv : Option Value → Heap → List Loc → Prop) (kc ks : Nat) : Outcome → State → Prop := fun o U' => ∃ v L, o = .returned v ∧ Qv v U'.heap L ∧ FrameEnd s o U' L kc ks
theorem Go.done (X : Stand p l e R s m args below meth c T locs cells slots) {g : JFrame} {v : Option Value} (hv : meth.sig.returnType = none → v = none) (hlocks : meth.locks = false)
    (hst : ∀ fs, (∀ (f : JFrame) (acts : List Action), f.method = m → f.locked = none → f.entered = [] → (doReturn e (T.setTop f) acts v).1 = T.setFrames fs) → Steps p.tables e below (T.setTop g) (T.setFrames fs))
    {Qv : Option Value → Heap → List Loc → Prop} {kc ks : Nat} (hc : cells ≤ kc) (hk : slots ≤ ks) (hq : Qv v T.heap locs) : Go p e below (Ret s Qv kc ks) (T.setTop g) := by
  obtain ⟨fs, hr, hrun, hended, hW, hsame⟩ := X.leave (v := v) hv hlocks
  exact ⟨_, _, hst fs hr, hrun, hended, v, locs, rfl, hq, ⟨_, rfl⟩, hW, hsame.mono hc hk⟩
theorem Go.retV (X : Stand p l e R s m args below meth c T locs cells slots) (hx : p.tables.exec = Jvm.exec) {pc : Nat} {Ls : Array Slot} (hret : meth.sig.returnType = none) (hlk : meth.locks = false) (hd : decode c.code pc = .ok (.return_, 1))
    {Qv : Option Value → Heap → List Loc → Prop} {kc ks : Nat} (hc : cells ≤ kc) (hk : slots ≤ ks) (hq : Qv none T.heap locs) : Go p e below (Ret s Qv kc ks) (T.setTop (mkF m pc Ls [])) :=
  Go.done X (fun _ => rfl) hlk (fun _ hr => X.returnOut hx hret hd hr) hc hk hq
theorem Go.retL (X : Stand p l e R s m args below meth c T locs cells slots) (hx : p.tables.exec = Jvm.exec) {pc : Nat} {Ls : Array Slot} {st : List Value} {z : Int64} (hret : meth.sig.returnType = some .long) (hlk : meth.locks = false) (hd : decode c.code pc = .ok (.lreturn, 1))
    {Qv : Option Value → Heap → List Loc → Prop} {kc ks : Nat} (hc : cells ≤ kc) (hk : slots ≤ ks) (hq : Qv (some (.long z)) T.heap locs) : Go p e below (Ret s Qv kc ks) (T.setTop (mkF m pc Ls ((.long z) :: st))) :=
  Go.done X (fun h => by rw [hret] at h; cases h) hlk (fun _ hr => retOut X hx hret rfl (Or.inr (Or.inl ⟨rfl, rfl, z, rfl⟩)) hd hr) hc hk hq
theorem Go.retD (X : Stand p l e R s m args below meth c T locs cells slots) (hx : p.tables.exec = Jvm.exec) {pc : Nat} {Ls : Array Slot} {st : List Value} {z : UInt64} (hret : meth.sig.returnType = some .double) (hlk : meth.locks = false) (hd : decode c.code pc = .ok (.dreturn, 1))
    {Qv : Option Value → Heap → List Loc → Prop} {kc ks : Nat} (hc : cells ≤ kc) (hk : slots ≤ ks) (hq : Qv (some (.double z)) T.heap locs) : Go p e below (Ret s Qv kc ks) (T.setTop (mkF m pc Ls ((.double z) :: st))) :=
  Go.done X (fun h => by rw [hret] at h; cases h) hlk (fun _ hr => retOut X hx hret rfl (Or.inr (Or.inr (Or.inl ⟨rfl, rfl, z, rfl⟩))) hd hr) hc hk hq
theorem Go.retF (X : Stand p l e R s m args below meth c T locs cells slots) (hx : p.tables.exec = Jvm.exec) {pc : Nat} {Ls : Array Slot} {st : List Value} {z : UInt32} (hret : meth.sig.returnType = some .float) (hlk : meth.locks = false) (hd : decode c.code pc = .ok (.freturn, 1))
    {Qv : Option Value → Heap → List Loc → Prop} {kc ks : Nat} (hc : cells ≤ kc) (hk : slots ≤ ks) (hq : Qv (some (.float z)) T.heap locs) : Go p e below (Ret s Qv kc ks) (T.setTop (mkF m pc Ls ((.float z) :: st))) :=
  Go.done X (fun h => by rw [hret] at h; cases h) hlk (fun _ hr => retOut X hx hret rfl (Or.inr (Or.inr (Or.inr (Or.inl ⟨rfl, rfl, z, rfl⟩)))) hd hr) hc hk hq
theorem Go.retI (X : Stand p l e R s m args below meth c T locs cells slots) (hx : p.tables.exec = Jvm.exec) {pc : Nat} {Ls : Array Slot} {st : List Value} {z : Int32} (hret : meth.sig.returnType = some .int) (hlk : meth.locks = false) (hd : decode c.code pc = .ok (.ireturn, 1))
    {Qv : Option Value → Heap → List Loc → Prop} {kc ks : Nat} (hc : cells ≤ kc) (hk : slots ≤ ks) (hq : Qv (some (.int z)) T.heap locs) : Go p e below (Ret s Qv kc ks) (T.setTop (mkF m pc Ls ((.int z) :: st))) :=
  Go.done X (fun h => by rw [hret] at h; cases h) hlk (fun _ hr => retOut X hx hret rfl (Or.inl ⟨rfl, Or.inl rfl, z, rfl⟩) hd hr) hc hk hq
theorem Go.retZ (X : Stand p l e R s m args below meth c T locs cells slots) (hx : p.tables.exec = Jvm.exec) {pc : Nat} {Ls : Array Slot} {st : List Value} {z : Int32} (hret : meth.sig.returnType = some .boolean) (hlk : meth.locks = false) (hd : decode c.code pc = .ok (.ireturn, 1)) (hz : z = 0 ∨ z = 1)
    {Qv : Option Value → Heap → List Loc → Prop} {kc ks : Nat} (hc : cells ≤ kc) (hk : slots ≤ ks) (hq : Qv (some (.int z)) T.heap locs) : Go p e below (Ret s Qv kc ks) (T.setTop (mkF m pc Ls ((.int z) :: st))) :=
  Go.done X (fun h => by rw [hret] at h; cases h) hlk (fun _ hr => retOut X hx hret (by rcases hz with rfl | rfl <;> rfl) (Or.inl ⟨rfl, Or.inr (Or.inl rfl), z, rfl⟩) hd hr) hc hk hq
theorem Go.retA (X : Stand p l e R s m args below meth c T locs cells slots) (hx : p.tables.exec = Jvm.exec) {pc : Nat} {Ls : Array Slot} {st : List Value} {v : Value} {t : FieldType} (hret : meth.sig.returnType = some t) (hlk : meth.locks = false) (hd : decode c.code pc = .ok (.areturn, 1)) (ht : t.isReference = true) (hv : v.isRef = true) (hn : narrow t v = v)
    {Qv : Option Value → Heap → List Loc → Prop} {kc ks : Nat} (hc : cells ≤ kc) (hk : slots ≤ ks) (hq : Qv (some v) T.heap locs) : Go p e below (Ret s Qv kc ks) (T.setTop (mkF m pc Ls (v :: st))) :=
  Go.done X (fun h => by rw [hret] at h; cases h) hlk (fun _ hr => retOut X hx hret hn (Or.inr (Or.inr (Or.inr (Or.inr ⟨rfl, ht, hv⟩)))) hd hr) hc hk hq
theorem enter {l : Launch} {Z : State} {y : MethodName} {bytes : ByteArray} {maxL : Nat} {ret : Option FieldType} {ws : List Jvm.Cond} {rm : Room} {as' : Array Value} {h0 : Heap} {Qv : Option Value → Heap → List Loc → Prop} {Ls : Array Slot} {kc ks : Nat}
    (hpn : plainFor y = true) (hef : ∀ m, entryFrame m as' maxL = mkF m 0 Ls [])
    (body : ∀ (p : Program) (e : Env) (s : State) (m : MethodId) (below : List Frame) (meth : Method) (c : Code) (s₁ : State), p.tables.exec = Jvm.exec → c.code = bytes → c.maxLocals = maxL → s.vm.findClass y.cls = some m.cls → meth.name = y.name → meth.sig.returnType = ret → meth.locks = false → Z.Warmed39 s.vm →
      Stand p l e rm s m as' below meth c s₁ [] 0 0 → s₁.heap = h0 → Go p e below (Ret s Qv kc ks) (s₁.setTop (mkF m 0 Ls []))) :
    MetFree l y (head1 (Jvm.Cond.code y bytes maxL ret :: ws) rm) (fun a U => a = as' ∧ Z.Warmed39 U.vm ∧ U.heap = h0) (fun _ _ _ _ _ => True) (fun _ U o U' => ∃ v L, o = .returned v ∧ Qv v U'.heap L ∧ FrameEnd U o U' L kc ks) := by
  refine MetFree.of_bodySF hpn hisR ?_
  intro p e s m args below meth c s₁ Bd hml0 hP hK
  obtain ⟨rfl, hZ, hh⟩ := hP
  have e0 : s₁.heap = h0 := by rw [← hh, Bd.state]; rfl
  obtain ⟨s₂, o, h1, h2, h3, h4⟩ := body p e s m below meth c s₁ Bd.exec Bd.bytes hml0 (findClass_of_methodNamed Bd.named) (name_of_methodNamed Bd.named Bd.method).1 Bd.returns (BodyLoose.notSynchronized Bd) hZ (Stand.of_body Bd) e0
  exact ⟨s₂, o, castTop (hef m) h1, h2, h3, h4⟩
theorem Go.iload (h : At T m c below) (hx : p.tables.exec = Jvm.exec) {pc q : Nat} {Ls : Array Slot} {st : List Value} {k : Nat} {v : Int32} (hd : decode c.code pc = .ok (.iload k, 2)) (hl : Ls[k]? = some (.val (.int v))) (hq : pc + 2 = q) (g : Go p e below Q (T.setTop (mkF m q Ls (.int v :: st)))) : Go p e below Q (T.setTop (mkF m pc Ls st)) := by
  subst hq; exact Go.of (fun _ r => XS.iload h hx rfl hd hl r) g
theorem Go.iloadN (h : At T m c below) (hx : p.tables.exec = Jvm.exec) {pc q : Nat} {Ls : Array Slot} {st : List Value} {k : Fin 4} {v : Int32} (hd : decode c.code pc = .ok (.iload_n k, 1)) (hl : Ls[k.val]? = some (.val (.int v))) (hq : pc + 1 = q) (g : Go p e below Q (T.setTop (mkF m q Ls (.int v :: st)))) : Go p e below Q (T.setTop (mkF m pc Ls st)) := by
  subst hq; exact Go.of (fun _ r => XS.iloadN h hx rfl hd hl r) g
theorem Go.istore (h : At T m c below) (hx : p.tables.exec = Jvm.exec) {pc q : Nat} {Ls : Array Slot} {st : List Value} {k : Nat} {v : Int32} {l2 : Array Slot} (hd : decode c.code pc = .ok (.istore k, 2)) (hl : storeLocals Ls k (.int v) = some l2) (hq : pc + 2 = q) (g : Go p e below Q (T.setTop (mkF m q l2 st))) : Go p e below Q (T.setTop (mkF m pc Ls (.int v :: st))) := by
  subst hq; exact Go.of (fun _ r => XS.istore h hx rfl hd rfl hl r) g
theorem Go.istoreN (h : At T m c below) (hx : p.tables.exec = Jvm.exec) {pc q : Nat} {Ls : Array Slot} {st : List Value} {k : Fin 4} {v : Int32} {l2 : Array Slot} (hd : decode c.code pc = .ok (.istore_n k, 1)) (hl : storeLocals Ls k.val (.int v) = some l2) (hq : pc + 1 = q) (g : Go p e below Q (T.setTop (mkF m q l2 st))) : Go p e below Q (T.setTop (mkF m pc Ls (.int v :: st))) := by
  subst hq; exact Go.of (fun _ r => XS.istoreN h hx rfl hd rfl hl r) g
theorem Go.lload (h : At T m c below) (hx : p.tables.exec = Jvm.exec) {pc q : Nat} {Ls : Array Slot} {st : List Value} {k : Nat} {v : Int64} (hd : decode c.code pc = .ok (.lload k, 2)) (hl : Ls[k]? = some (.val (.long v))) (hq : pc + 2 = q) (g : Go p e below Q (T.setTop (mkF m q Ls (.long v :: st)))) : Go p e below Q (T.setTop (mkF m pc Ls st)) := by
  subst hq; exact Go.of (fun _ r => XS.lload h hx rfl hd hl r) g
theorem Go.lloadN (h : At T m c below) (hx : p.tables.exec = Jvm.exec) {pc q : Nat} {Ls : Array Slot} {st : List Value} {k : Fin 4} {v : Int64} (hd : decode c.code pc = .ok (.lload_n k, 1)) (hl : Ls[k.val]? = some (.val (.long v))) (hq : pc + 1 = q) (g : Go p e below Q (T.setTop (mkF m q Ls (.long v :: st)))) : Go p e below Q (T.setTop (mkF m pc Ls st)) := by
  subst hq; exact Go.of (fun _ r => XS.lloadN h hx rfl hd hl r) g
theorem Go.lstore (h : At T m c below) (hx : p.tables.exec = Jvm.exec) {pc q : Nat} {Ls : Array Slot} {st : List Value} {k : Nat} {v : Int64} {l2 : Array Slot} (hd : decode c.code pc = .ok (.lstore k, 2)) (hl : storeLocals Ls k (.long v) = some l2) (hq : pc + 2 = q) (g : Go p e below Q (T.setTop (mkF m q l2 st))) : Go p e below Q (T.setTop (mkF m pc Ls (.long v :: st))) := by
  subst hq; exact Go.of (fun _ r => XS.lstore h hx rfl hd rfl hl r) g
theorem Go.lstoreN (h : At T m c below) (hx : p.tables.exec = Jvm.exec) {pc q : Nat} {Ls : Array Slot} {st : List Value} {k : Fin 4} {v : Int64} {l2 : Array Slot} (hd : decode c.code pc = .ok (.lstore_n k, 1)) (hl : storeLocals Ls k.val (.long v) = some l2) (hq : pc + 1 = q) (g : Go p e below Q (T.setTop (mkF m q l2 st))) : Go p e below Q (T.setTop (mkF m pc Ls (.long v :: st))) := by
  subst hq; exact Go.of (fun _ r => XS.lstoreN h hx rfl hd rfl hl r) g
theorem Go.dload (h : At T m c below) (hx : p.tables.exec = Jvm.exec) {pc q : Nat} {Ls : Array Slot} {st : List Value} {k : Nat} {v : UInt64} (hd : decode c.code pc = .ok (.dload k, 2)) (hl : Ls[k]? = some (.val (.double v))) (hq : pc + 2 = q) (g : Go p e below Q (T.setTop (mkF m q Ls (.double v :: st)))) : Go p e below Q (T.setTop (mkF m pc Ls st)) := by
  subst hq; exact Go.of (fun _ r => XS.dload h hx rfl hd hl r) g
theorem Go.dloadN (h : At T m c below) (hx : p.tables.exec = Jvm.exec) {pc q : Nat} {Ls : Array Slot} {st : List Value} {k : Fin 4} {v : UInt64} (hd : decode c.code pc = .ok (.dload_n k, 1)) (hl : Ls[k.val]? = some (.val (.double v))) (hq : pc + 1 = q) (g : Go p e below Q (T.setTop (mkF m q Ls (.double v :: st)))) : Go p e below Q (T.setTop (mkF m pc Ls st)) := by
  subst hq; exact Go.of (fun _ r => XS.dloadN h hx rfl hd hl r) g
theorem Go.dstore (h : At T m c below) (hx : p.tables.exec = Jvm.exec) {pc q : Nat} {Ls : Array Slot} {st : List Value} {k : Nat} {v : UInt64} {l2 : Array Slot} (hd : decode c.code pc = .ok (.dstore k, 2)) (hl : storeLocals Ls k (.double v) = some l2) (hq : pc + 2 = q) (g : Go p e below Q (T.setTop (mkF m q l2 st))) : Go p e below Q (T.setTop (mkF m pc Ls (.double v :: st))) := by
  subst hq; exact Go.of (fun _ r => XS.dstore h hx rfl hd rfl hl r) g
theorem Go.dstoreN (h : At T m c below) (hx : p.tables.exec = Jvm.exec) {pc q : Nat} {Ls : Array Slot} {st : List Value} {k : Fin 4} {v : UInt64} {l2 : Array Slot} (hd : decode c.code pc = .ok (.dstore_n k, 1)) (hl : storeLocals Ls k.val (.double v) = some l2) (hq : pc + 1 = q) (g : Go p e below Q (T.setTop (mkF m q l2 st))) : Go p e below Q (T.setTop (mkF m pc Ls (.double v :: st))) := by
  subst hq; exact Go.of (fun _ r => XS.dstoreN h hx rfl hd rfl hl r) g
theorem Go.fload (h : At T m c below) (hx : p.tables.exec = Jvm.exec) {pc q : Nat} {Ls : Array Slot} {st : List Value} {k : Nat} {v : UInt32} (hd : decode c.code pc = .ok (.fload k, 2)) (hl : Ls[k]? = some (.val (.float v))) (hq : pc + 2 = q) (g : Go p e below Q (T.setTop (mkF m q Ls (.float v :: st)))) : Go p e below Q (T.setTop (mkF m pc Ls st)) := by
  subst hq; exact Go.of (fun _ r => XS.fload h hx rfl hd hl r) g
theorem Go.floadN (h : At T m c below) (hx : p.tables.exec = Jvm.exec) {pc q : Nat} {Ls : Array Slot} {st : List Value} {k : Fin 4} {v : UInt32} (hd : decode c.code pc = .ok (.fload_n k, 1)) (hl : Ls[k.val]? = some (.val (.float v))) (hq : pc + 1 = q) (g : Go p e below Q (T.setTop (mkF m q Ls (.float v :: st)))) : Go p e below Q (T.setTop (mkF m pc Ls st)) := by
  subst hq; exact Go.of (fun _ r => XS.floadN h hx rfl hd hl r) g
theorem Go.fstore (h : At T m c below) (hx : p.tables.exec = Jvm.exec) {pc q : Nat} {Ls : Array Slot} {st : List Value} {k : Nat} {v : UInt32} {l2 : Array Slot} (hd : decode c.code pc = .ok (.fstore k, 2)) (hl : storeLocals Ls k (.float v) = some l2) (hq : pc + 2 = q) (g : Go p e below Q (T.setTop (mkF m q l2 st))) : Go p e below Q (T.setTop (mkF m pc Ls (.float v :: st))) := by
  subst hq; exact Go.of (fun _ r => XS.fstore h hx rfl hd rfl hl r) g
theorem Go.fstoreN (h : At T m c below) (hx : p.tables.exec = Jvm.exec) {pc q : Nat} {Ls : Array Slot} {st : List Value} {k : Fin 4} {v : UInt32} {l2 : Array Slot} (hd : decode c.code pc = .ok (.fstore_n k, 1)) (hl : storeLocals Ls k.val (.float v) = some l2) (hq : pc + 1 = q) (g : Go p e below Q (T.setTop (mkF m q l2 st))) : Go p e below Q (T.setTop (mkF m pc Ls (.float v :: st))) := by
  subst hq; exact Go.of (fun _ r => XS.fstoreN h hx rfl hd rfl hl r) g
theorem Go.aload (h : At T m c below) (hx : p.tables.exec = Jvm.exec) {pc q : Nat} {Ls : Array Slot} {st : List Value} {k : Nat} {v : Value} (hd : decode c.code pc = .ok (.aload k, 2)) (hl : Ls[k]? = some (.val v)) (hv : v.isRef = true) (hq : pc + 2 = q) (g : Go p e below Q (T.setTop (mkF m q Ls (v :: st)))) : Go p e below Q (T.setTop (mkF m pc Ls st)) := by
  subst hq; exact Go.of (fun _ r => XS.aload h hx rfl hd hl hv r) g
theorem Go.aloadN (h : At T m c below) (hx : p.tables.exec = Jvm.exec) {pc q : Nat} {Ls : Array Slot} {st : List Value} {k : Fin 4} {v : Value} (hd : decode c.code pc = .ok (.aload_n k, 1)) (hl : Ls[k.val]? = some (.val v)) (hv : v.isRef = true) (hq : pc + 1 = q) (g : Go p e below Q (T.setTop (mkF m q Ls (v :: st)))) : Go p e below Q (T.setTop (mkF m pc Ls st)) := by
  subst hq; exact Go.of (fun _ r => XS.aloadN h hx rfl hd hl hv r) g
theorem Go.astore (h : At T m c below) (hx : p.tables.exec = Jvm.exec) {pc q : Nat} {Ls : Array Slot} {st : List Value} {k : Nat} {v : Value} {l2 : Array Slot} (hd : decode c.code pc = .ok (.astore k, 2)) (hv : v.isRef = true) (hl : storeLocals Ls k v = some l2) (hq : pc + 2 = q) (g : Go p e below Q (T.setTop (mkF m q l2 st))) : Go p e below Q (T.setTop (mkF m pc Ls (v :: st))) := by
  subst hq; exact Go.of (fun _ r => XS.astore h hx rfl hd rfl hv hl r) g
theorem Go.astoreN (h : At T m c below) (hx : p.tables.exec = Jvm.exec) {pc q : Nat} {Ls : Array Slot} {st : List Value} {k : Fin 4} {v : Value} {l2 : Array Slot} (hd : decode c.code pc = .ok (.astore_n k, 1)) (hv : v.isRef = true) (hl : storeLocals Ls k.val v = some l2) (hq : pc + 1 = q) (g : Go p e below Q (T.setTop (mkF m q l2 st))) : Go p e below Q (T.setTop (mkF m pc Ls (v :: st))) := by
  subst hq; exact Go.of (fun _ r => XS.astoreN h hx rfl hd rfl hv hl r) g
theorem Go.iconst (h : At T m c below) (hx : p.tables.exec = Jvm.exec) {pc q : Nat} {Ls : Array Slot} {st : List Value} {i : Int} {v : Int32} (hd : decode c.code pc = .ok (.iconst i, 1)) (hv : Int32.ofInt i = v) (hq : pc + 1 = q) (g : Go p e below Q (T.setTop (mkF m q Ls (.int v :: st)))) : Go p e below Q (T.setTop (mkF m pc Ls st)) := by
  subst hq hv; exact Go.of (fun _ r => XS.iconst h hx rfl hd r) g
theorem Go.bipush (h : At T m c below) (hx : p.tables.exec = Jvm.exec) {pc q : Nat} {Ls : Array Slot} {st : List Value} {i : Int} {v : Int32} (hd : decode c.code pc = .ok (.bipush i, 2)) (hv : (Int8.ofInt i).toInt32 = v) (hq : pc + 2 = q) (g : Go p e below Q (T.setTop (mkF m q Ls (.int v :: st)))) : Go p e below Q (T.setTop (mkF m pc Ls st)) := by
  subst hq hv; exact Go.of (fun _ r => XS.bipush h hx rfl hd r) g
theorem Go.sipush (h : At T m c below) (hx : p.tables.exec = Jvm.exec) {pc q : Nat} {Ls : Array Slot} {st : List Value} {i : Int} {v : Int32} (hd : decode c.code pc = .ok (.sipush i, 3)) (hv : (Int16.ofInt i).toInt32 = v) (hq : pc + 3 = q) (g : Go p e below Q (T.setTop (mkF m q Ls (.int v :: st)))) : Go p e below Q (T.setTop (mkF m pc Ls st)) := by
  subst hq hv; exact Go.of (fun _ r => XS.sipush h hx rfl hd r) g
theorem Go.lconst (h : At T m c below) (hx : p.tables.exec = Jvm.exec) {pc q : Nat} {Ls : Array Slot} {st : List Value} {k : Fin 2} {v : Int64} (hd : decode c.code pc = .ok (.lconst k, 1)) (hv : Int64.ofNat k = v) (hq : pc + 1 = q) (g : Go p e below Q (T.setTop (mkF m q Ls (.long v :: st)))) : Go p e below Q (T.setTop (mkF m pc Ls st)) := by
  subst hq hv; exact Go.of (fun _ r => XS.lconst h hx rfl hd r) g
theorem Go.aconst (h : At T m c below) (hx : p.tables.exec = Jvm.exec) {pc q : Nat} {Ls : Array Slot} {st : List Value}  (hd : decode c.code pc = .ok (.aconst_null, 1)) (hq : pc + 1 = q) (g : Go p e below Q (T.setTop (mkF m q Ls (.null :: st)))) : Go p e below Q (T.setTop (mkF m pc Ls st)) := by
  subst hq; exact Go.of (fun _ r => XS.aconstNull h hx rfl hd r) g
theorem Go.dconst0 (h : At T m c below) (hx : p.tables.exec = Jvm.exec) {pc q : Nat} {Ls : Array Slot} {st : List Value} {v : UInt64} (hd : decode c.code pc = .ok (.dconst 0, 1)) (hv : FP.dconst0 = v) (hq : pc + 1 = q) (g : Go p e below Q (T.setTop (mkF m q Ls (.double v :: st)))) : Go p e below Q (T.setTop (mkF m pc Ls st)) := by
  subst hq; exact Go.of (fun _ r => XS.dconst0 h hx rfl hd hv r) g
theorem Go.dconst1 (h : At T m c below) (hx : p.tables.exec = Jvm.exec) {pc q : Nat} {Ls : Array Slot} {st : List Value} {v : UInt64} (hd : decode c.code pc = .ok (.dconst 1, 1)) (hv : FP.dconst1 = v) (hq : pc + 1 = q) (g : Go p e below Q (T.setTop (mkF m q Ls (.double v :: st)))) : Go p e below Q (T.setTop (mkF m pc Ls st)) := by
  subst hq; exact Go.of (fun _ r => XS.dconst1 h hx rfl hd hv r) g
theorem Go.fconst0 (h : At T m c below) (hx : p.tables.exec = Jvm.exec) {pc q : Nat} {Ls : Array Slot} {st : List Value} {v : UInt32} (hd : decode c.code pc = .ok (.fconst 0, 1)) (hv : FP.fconst0 = v) (hq : pc + 1 = q) (g : Go p e below Q (T.setTop (mkF m q Ls (.float v :: st)))) : Go p e below Q (T.setTop (mkF m pc Ls st)) := by
  subst hq; exact Go.of (fun _ r => XS.fconst0 h hx rfl hd hv r) g
theorem Go.fconst1 (h : At T m c below) (hx : p.tables.exec = Jvm.exec) {pc q : Nat} {Ls : Array Slot} {st : List Value} {v : UInt32} (hd : decode c.code pc = .ok (.fconst 1, 1)) (hv : FP.fconst1 = v) (hq : pc + 1 = q) (g : Go p e below Q (T.setTop (mkF m q Ls (.float v :: st)))) : Go p e below Q (T.setTop (mkF m pc Ls st)) := by
  subst hq; exact Go.of (fun _ r => XS.fconst1 h hx rfl hd hv r) g
theorem Go.iadd (h : At T m c below) (hx : p.tables.exec = Jvm.exec) {pc q : Nat} {Ls : Array Slot} {st : List Value} {x : Int32} {y : Int32} {v : Int32} (hd : decode c.code pc = .ok (.iadd, 1)) (hv : x + y = v) (hq : pc + 1 = q) (g : Go p e below Q (T.setTop (mkF m q Ls (.int v :: st)))) : Go p e below Q (T.setTop (mkF m pc Ls (.int y :: .int x :: st))) := by
  subst hq hv; exact Go.of (fun _ r => XS.iadd h hx rfl hd rfl r) g
theorem Go.isub (h : At T m c below) (hx : p.tables.exec = Jvm.exec) {pc q : Nat} {Ls : Array Slot} {st : List Value} {x : Int32} {y : Int32} {v : Int32} (hd : decode c.code pc = .ok (.isub, 1)) (hv : x - y = v) (hq : pc + 1 = q) (g : Go p e below Q (T.setTop (mkF m q Ls (.int v :: st)))) : Go p e below Q (T.setTop (mkF m pc Ls (.int y :: .int x :: st))) := by
  subst hq hv; exact Go.of (fun _ r => XS.isub h hx rfl hd rfl r) g
theorem Go.iand (h : At T m c below) (hx : p.tables.exec = Jvm.exec) {pc q : Nat} {Ls : Array Slot} {st : List Value} {x : Int32} {y : Int32} {v : Int32} (hd : decode c.code pc = .ok (.iand, 1)) (hv : x &&& y = v) (hq : pc + 1 = q) (g : Go p e below Q (T.setTop (mkF m q Ls (.int v :: st)))) : Go p e below Q (T.setTop (mkF m pc Ls (.int y :: .int x :: st))) := by
  subst hq hv; exact Go.of (fun _ r => XS.iand h hx rfl hd rfl r) g
theorem Go.imul (h : At T m c below) (hx : p.tables.exec = Jvm.exec) {pc q : Nat} {Ls : Array Slot} {st : List Value} {x : Int32} {y : Int32} {v : Int32} (hd : decode c.code pc = .ok (.imul, 1)) (hv : x * y = v) (hq : pc + 1 = q) (g : Go p e below Q (T.setTop (mkF m q Ls (.int v :: st)))) : Go p e below Q (T.setTop (mkF m pc Ls (.int y :: .int x :: st))) := by
  subst hq hv; exact Go.of (fun _ r => XS.imul h hx rfl hd rfl r) g
theorem Go.ixor (h : At T m c below) (hx : p.tables.exec = Jvm.exec) {pc q : Nat} {Ls : Array Slot} {st : List Value} {x : Int32} {y : Int32} {v : Int32} (hd : decode c.code pc = .ok (.ixor, 1)) (hv : x ^^^ y = v) (hq : pc + 1 = q) (g : Go p e below Q (T.setTop (mkF m q Ls (.int v :: st)))) : Go p e below Q (T.setTop (mkF m pc Ls (.int y :: .int x :: st))) := by
  subst hq hv; exact Go.of (fun _ r => XS.ixor h hx rfl hd rfl r) g
theorem Go.ior (h : At T m c below) (hx : p.tables.exec = Jvm.exec) {pc q : Nat} {Ls : Array Slot} {st : List Value} {x : Int32} {y : Int32} {v : Int32} (hd : decode c.code pc = .ok (.ior, 1)) (hv : x ||| y = v) (hq : pc + 1 = q) (g : Go p e below Q (T.setTop (mkF m q Ls (.int v :: st)))) : Go p e below Q (T.setTop (mkF m pc Ls (.int y :: .int x :: st))) := by
  subst hq hv; exact Go.of (fun _ r => XS.ior h hx rfl hd rfl r) g
theorem Go.ishl (h : At T m c below) (hx : p.tables.exec = Jvm.exec) {pc q : Nat} {Ls : Array Slot} {st : List Value} {x : Int32} {y : Int32} {v : Int32} (hd : decode c.code pc = .ok (.ishl, 1)) (hv : x <<< (y &&& 31) = v) (hq : pc + 1 = q) (g : Go p e below Q (T.setTop (mkF m q Ls (.int v :: st)))) : Go p e below Q (T.setTop (mkF m pc Ls (.int y :: .int x :: st))) := by
  subst hq hv; exact Go.of (fun _ r => XS.ishl h hx rfl hd rfl r) g
theorem Go.ishr (h : At T m c below) (hx : p.tables.exec = Jvm.exec) {pc q : Nat} {Ls : Array Slot} {st : List Value} {x : Int32} {y : Int32} {v : Int32} (hd : decode c.code pc = .ok (.ishr, 1)) (hv : x >>> (y &&& 31) = v) (hq : pc + 1 = q) (g : Go p e below Q (T.setTop (mkF m q Ls (.int v :: st)))) : Go p e below Q (T.setTop (mkF m pc Ls (.int y :: .int x :: st))) := by
  subst hq hv; exact Go.of (fun _ r => XS.ishr h hx rfl hd rfl r) g
theorem Go.iushr (h : At T m c below) (hx : p.tables.exec = Jvm.exec) {pc q : Nat} {Ls : Array Slot} {st : List Value} {x : Int32} {y : Int32} {v : Int32} (hd : decode c.code pc = .ok (.iushr, 1)) (hv : (x.toUInt32 >>> (y &&& 31).toUInt32).toInt32 = v) (hq : pc + 1 = q) (g : Go p e below Q (T.setTop (mkF m q Ls (.int v :: st)))) : Go p e below Q (T.setTop (mkF m pc Ls (.int y :: .int x :: st))) := by
  subst hq hv; exact Go.of (fun _ r => XS.iushr h hx rfl hd rfl r) g
theorem Go.idiv (h : At T m c below) (hx : p.tables.exec = Jvm.exec) {pc q : Nat} {Ls : Array Slot} {st : List Value} {x : Int32} {y : Int32} {v : Int32} (hd : decode c.code pc = .ok (.idiv, 1)) (hy : y ≠ 0) (hv : x / y = v) (hq : pc + 1 = q) (g : Go p e below Q (T.setTop (mkF m q Ls (.int v :: st)))) : Go p e below Q (T.setTop (mkF m pc Ls (.int y :: .int x :: st))) := by
  subst hq hv; exact Go.of (fun _ r => XS.idiv h hx rfl hd rfl hy r) g
theorem Go.irem (h : At T m c below) (hx : p.tables.exec = Jvm.exec) {pc q : Nat} {Ls : Array Slot} {st : List Value} {x : Int32} {y : Int32} {v : Int32} (hd : decode c.code pc = .ok (.irem, 1)) (hy : y ≠ 0) (hv : x - (x / y) * y = v) (hq : pc + 1 = q) (g : Go p e below Q (T.setTop (mkF m q Ls (.int v :: st)))) : Go p e below Q (T.setTop (mkF m pc Ls (.int y :: .int x :: st))) := by
  subst hq hv; exact Go.of (fun _ r => XS.irem h hx rfl hd rfl hy r) g
theorem Go.ladd (h : At T m c below) (hx : p.tables.exec = Jvm.exec) {pc q : Nat} {Ls : Array Slot} {st : List Value} {x : Int64} {y : Int64} {v : Int64} (hd : decode c.code pc = .ok (.ladd, 1)) (hv : x + y = v) (hq : pc + 1 = q) (g : Go p e below Q (T.setTop (mkF m q Ls (.long v :: st)))) : Go p e below Q (T.setTop (mkF m pc Ls (.long y :: .long x :: st))) := by
  subst hq hv; exact Go.of (fun _ r => XS.ladd h hx rfl hd rfl r) g
theorem Go.lsub (h : At T m c below) (hx : p.tables.exec = Jvm.exec) {pc q : Nat} {Ls : Array Slot} {st : List Value} {x : Int64} {y : Int64} {v : Int64} (hd : decode c.code pc = .ok (.lsub, 1)) (hv : x - y = v) (hq : pc + 1 = q) (g : Go p e below Q (T.setTop (mkF m q Ls (.long v :: st)))) : Go p e below Q (T.setTop (mkF m pc Ls (.long y :: .long x :: st))) := by
  subst hq hv; exact Go.of (fun _ r => XS.lsub h hx rfl hd rfl r) g
theorem Go.lmul (h : At T m c below) (hx : p.tables.exec = Jvm.exec) {pc q : Nat} {Ls : Array Slot} {st : List Value} {x : Int64} {y : Int64} {v : Int64} (hd : decode c.code pc = .ok (.lmul, 1)) (hv : x * y = v) (hq : pc + 1 = q) (g : Go p e below Q (T.setTop (mkF m q Ls (.long v :: st)))) : Go p e below Q (T.setTop (mkF m pc Ls (.long y :: .long x :: st))) := by
  subst hq hv; exact Go.of (fun _ r => XS.lmul h hx rfl hd rfl r) g
theorem Go.land (h : At T m c below) (hx : p.tables.exec = Jvm.exec) {pc q : Nat} {Ls : Array Slot} {st : List Value} {x : Int64} {y : Int64} {v : Int64} (hd : decode c.code pc = .ok (.land, 1)) (hv : x &&& y = v) (hq : pc + 1 = q) (g : Go p e below Q (T.setTop (mkF m q Ls (.long v :: st)))) : Go p e below Q (T.setTop (mkF m pc Ls (.long y :: .long x :: st))) := by
  subst hq hv; exact Go.of (fun _ r => XS.land h hx rfl hd rfl r) g
theorem Go.lor (h : At T m c below) (hx : p.tables.exec = Jvm.exec) {pc q : Nat} {Ls : Array Slot} {st : List Value} {x : Int64} {y : Int64} {v : Int64} (hd : decode c.code pc = .ok (.lor, 1)) (hv : x ||| y = v) (hq : pc + 1 = q) (g : Go p e below Q (T.setTop (mkF m q Ls (.long v :: st)))) : Go p e below Q (T.setTop (mkF m pc Ls (.long y :: .long x :: st))) := by
  subst hq hv; exact Go.of (fun _ r => XS.lor h hx rfl hd rfl r) g
theorem Go.lxor (h : At T m c below) (hx : p.tables.exec = Jvm.exec) {pc q : Nat} {Ls : Array Slot} {st : List Value} {x : Int64} {y : Int64} {v : Int64} (hd : decode c.code pc = .ok (.lxor, 1)) (hv : x ^^^ y = v) (hq : pc + 1 = q) (g : Go p e below Q (T.setTop (mkF m q Ls (.long v :: st)))) : Go p e below Q (T.setTop (mkF m pc Ls (.long y :: .long x :: st))) := by
  subst hq hv; exact Go.of (fun _ r => XS.lxor h hx rfl hd rfl r) g
theorem Go.lshl (h : At T m c below) (hx : p.tables.exec = Jvm.exec) {pc q : Nat} {Ls : Array Slot} {st : List Value} {x : Int64} {y : Int32} {v : Int64} (hd : decode c.code pc = .ok (.lshl, 1)) (hv : x <<< (y &&& 0x3f).toInt64 = v) (hq : pc + 1 = q) (g : Go p e below Q (T.setTop (mkF m q Ls (.long v :: st)))) : Go p e below Q (T.setTop (mkF m pc Ls (.int y :: .long x :: st))) := by
  subst hq hv; exact Go.of (fun _ r => XS.lshl h hx rfl hd rfl r) g
theorem Go.lshr (h : At T m c below) (hx : p.tables.exec = Jvm.exec) {pc q : Nat} {Ls : Array Slot} {st : List Value} {x : Int64} {y : Int32} {v : Int64} (hd : decode c.code pc = .ok (.lshr, 1)) (hv : x >>> (y &&& 0x3f).toInt64 = v) (hq : pc + 1 = q) (g : Go p e below Q (T.setTop (mkF m q Ls (.long v :: st)))) : Go p e below Q (T.setTop (mkF m pc Ls (.int y :: .long x :: st))) := by
  subst hq hv; exact Go.of (fun _ r => XS.lshr h hx rfl hd rfl r) g
theorem Go.lushr (h : At T m c below) (hx : p.tables.exec = Jvm.exec) {pc q : Nat} {Ls : Array Slot} {st : List Value} {x : Int64} {y : Int32} {v : Int64} (hd : decode c.code pc = .ok (.lushr, 1)) (hv : (x.toUInt64 >>> (y &&& 0x3f).toInt64.toUInt64).toInt64 = v) (hq : pc + 1 = q) (g : Go p e below Q (T.setTop (mkF m q Ls (.long v :: st)))) : Go p e below Q (T.setTop (mkF m pc Ls (.int y :: .long x :: st))) := by
  subst hq hv; exact Go.of (fun _ r => XS.lushr h hx rfl hd rfl r) g
theorem Go.ldiv (h : At T m c below) (hx : p.tables.exec = Jvm.exec) {pc q : Nat} {Ls : Array Slot} {st : List Value} {x : Int64} {y : Int64} {v : Int64} (hd : decode c.code pc = .ok (.ldiv, 1)) (hy : y ≠ 0) (hv : x / y = v) (hq : pc + 1 = q) (g : Go p e below Q (T.setTop (mkF m q Ls (.long v :: st)))) : Go p e below Q (T.setTop (mkF m pc Ls (.long y :: .long x :: st))) := by
  subst hq hv; exact Go.of (fun _ r => XS.ldiv h hx rfl hd rfl hy r) g
theorem Go.lrem (h : At T m c below) (hx : p.tables.exec = Jvm.exec) {pc q : Nat} {Ls : Array Slot} {st : List Value} {x : Int64} {y : Int64} {v : Int64} (hd : decode c.code pc = .ok (.lrem, 1)) (hy : y ≠ 0) (hv : x - (x / y) * y = v) (hq : pc + 1 = q) (g : Go p e below Q (T.setTop (mkF m q Ls (.long v :: st)))) : Go p e below Q (T.setTop (mkF m pc Ls (.long y :: .long x :: st))) := by
  subst hq hv; exact Go.of (fun _ r => XS.lrem h hx rfl hd rfl hy r) g
theorem Go.lcmp (h : At T m c below) (hx : p.tables.exec = Jvm.exec) {pc q : Nat} {Ls : Array Slot} {st : List Value} {x : Int64} {y : Int64} {v : Int32} (hd : decode c.code pc = .ok (.lcmp, 1)) (hv : lcmpW x y = v) (hq : pc + 1 = q) (g : Go p e below Q (T.setTop (mkF m q Ls (.int v :: st)))) : Go p e below Q (T.setTop (mkF m pc Ls (.long y :: .long x :: st))) := by
  subst hq hv; exact Go.of (fun _ r => XS.lcmp h hx rfl hd rfl r) g
theorem Go.ineg (h : At T m c below) (hx : p.tables.exec = Jvm.exec) {pc q : Nat} {Ls : Array Slot} {st : List Value} {x : Int32} {v : Int32} (hd : decode c.code pc = .ok (.ineg, 1)) (hv : -x = v) (hq : pc + 1 = q) (g : Go p e below Q (T.setTop (mkF m q Ls (.int v :: st)))) : Go p e below Q (T.setTop (mkF m pc Ls (.int x :: st))) := by
  subst hq hv; exact Go.of (fun _ r => XS.ineg h hx rfl hd rfl r) g
theorem Go.lneg (h : At T m c below) (hx : p.tables.exec = Jvm.exec) {pc q : Nat} {Ls : Array Slot} {st : List Value} {x : Int64} {v : Int64} (hd : decode c.code pc = .ok (.lneg, 1)) (hv : -x = v) (hq : pc + 1 = q) (g : Go p e below Q (T.setTop (mkF m q Ls (.long v :: st)))) : Go p e below Q (T.setTop (mkF m pc Ls (.long x :: st))) := by
  subst hq hv; exact Go.of (fun _ r => XS.lneg h hx rfl hd rfl r) g
theorem Go.i2l (h : At T m c below) (hx : p.tables.exec = Jvm.exec) {pc q : Nat} {Ls : Array Slot} {st : List Value} {x : Int32} {v : Int64} (hd : decode c.code pc = .ok (.i2l, 1)) (hv : x.toInt64 = v) (hq : pc + 1 = q) (g : Go p e below Q (T.setTop (mkF m q Ls (.long v :: st)))) : Go p e below Q (T.setTop (mkF m pc Ls (.int x :: st))) := by
  subst hq hv; exact Go.of (fun _ r => XS.i2l h hx rfl hd rfl r) g
theorem Go.l2i (h : At T m c below) (hx : p.tables.exec = Jvm.exec) {pc q : Nat} {Ls : Array Slot} {st : List Value} {x : Int64} {v : Int32} (hd : decode c.code pc = .ok (.l2i, 1)) (hv : x.toInt32 = v) (hq : pc + 1 = q) (g : Go p e below Q (T.setTop (mkF m q Ls (.int v :: st)))) : Go p e below Q (T.setTop (mkF m pc Ls (.long x :: st))) := by
  subst hq hv; exact Go.of (fun _ r => XS.l2i h hx rfl hd rfl r) g
theorem Go.i2d (h : At T m c below) (hx : p.tables.exec = Jvm.exec) {pc q : Nat} {Ls : Array Slot} {st : List Value} {x : Int32} {v : UInt64} (hd : decode c.code pc = .ok (.i2d, 1)) (hv : FP.i2d x = v) (hq : pc + 1 = q) (g : Go p e below Q (T.setTop (mkF m q Ls (.double v :: st)))) : Go p e below Q (T.setTop (mkF m pc Ls (.int x :: st))) := by
  subst hq; exact Go.of (fun _ r => XS.i2dS h hx rfl hd rfl hv r) g
theorem Go.l2d (h : At T m c below) (hx : p.tables.exec = Jvm.exec) {pc q : Nat} {Ls : Array Slot} {st : List Value} {x : Int64} {v : UInt64} (hd : decode c.code pc = .ok (.l2d, 1)) (hv : FP.l2d x = v) (hq : pc + 1 = q) (g : Go p e below Q (T.setTop (mkF m q Ls (.double v :: st)))) : Go p e below Q (T.setTop (mkF m pc Ls (.long x :: st))) := by
  subst hq; exact Go.of (fun _ r => XS.l2dS h hx rfl hd rfl hv r) g
theorem Go.d2i (h : At T m c below) (hx : p.tables.exec = Jvm.exec) {pc q : Nat} {Ls : Array Slot} {st : List Value} {x : UInt64} {v : Int32} (hd : decode c.code pc = .ok (.d2i, 1)) (hv : FP.d2i x = v) (hq : pc + 1 = q) (g : Go p e below Q (T.setTop (mkF m q Ls (.int v :: st)))) : Go p e below Q (T.setTop (mkF m pc Ls (.double x :: st))) := by
  subst hq; exact Go.of (fun _ r => XS.d2iS h hx rfl hd rfl hv r) g
theorem Go.d2l (h : At T m c below) (hx : p.tables.exec = Jvm.exec) {pc q : Nat} {Ls : Array Slot} {st : List Value} {x : UInt64} {v : Int64} (hd : decode c.code pc = .ok (.d2l, 1)) (hv : FP.d2l x = v) (hq : pc + 1 = q) (g : Go p e below Q (T.setTop (mkF m q Ls (.long v :: st)))) : Go p e below Q (T.setTop (mkF m pc Ls (.double x :: st))) := by
  subst hq; exact Go.of (fun _ r => XS.d2lS h hx rfl hd rfl hv r) g
theorem Go.dneg (h : At T m c below) (hx : p.tables.exec = Jvm.exec) {pc q : Nat} {Ls : Array Slot} {st : List Value} {x : UInt64} {v : UInt64} (hd : decode c.code pc = .ok (.dneg, 1)) (hv : FP.dneg x = v) (hq : pc + 1 = q) (g : Go p e below Q (T.setTop (mkF m q Ls (.double v :: st)))) : Go p e below Q (T.setTop (mkF m pc Ls (.double x :: st))) := by
  subst hq; exact Go.of (fun _ r => XS.dnegS h hx rfl hd rfl hv r) g
theorem Go.i2f (h : At T m c below) (hx : p.tables.exec = Jvm.exec) {pc q : Nat} {Ls : Array Slot} {st : List Value} {x : Int32} {v : UInt32} (hd : decode c.code pc = .ok (.i2f, 1)) (hv : FP.i2f x = v) (hq : pc + 1 = q) (g : Go p e below Q (T.setTop (mkF m q Ls (.float v :: st)))) : Go p e below Q (T.setTop (mkF m pc Ls (.int x :: st))) := by
  subst hq; exact Go.of (fun _ r => XS.i2fS h hx rfl hd rfl hv r) g
theorem Go.l2f (h : At T m c below) (hx : p.tables.exec = Jvm.exec) {pc q : Nat} {Ls : Array Slot} {st : List Value} {x : Int64} {v : UInt32} (hd : decode c.code pc = .ok (.l2f, 1)) (hv : FP.l2f x = v) (hq : pc + 1 = q) (g : Go p e below Q (T.setTop (mkF m q Ls (.float v :: st)))) : Go p e below Q (T.setTop (mkF m pc Ls (.long x :: st))) := by
  subst hq; exact Go.of (fun _ r => XS.l2fS h hx rfl hd rfl hv r) g
theorem Go.dadd (h : At T m c below) (hx : p.tables.exec = Jvm.exec) {pc q : Nat} {Ls : Array Slot} {st : List Value} {x y v : UInt64} (hd : decode c.code pc = .ok (.dadd, 1)) (hn : NoNaN64 (FP.dadd x y)) (hv : FP.dadd x y = v) (hq : pc + 1 = q) (g : Go p e below Q (T.setTop (mkF m q Ls (.double v :: st)))) : Go p e below Q (T.setTop (mkF m pc Ls (.double y :: .double x :: st))) := by
  subst hq; exact Go.of (fun _ r => XS.daddS h hx rfl hd rfl hn hv r) g
theorem Go.dsub (h : At T m c below) (hx : p.tables.exec = Jvm.exec) {pc q : Nat} {Ls : Array Slot} {st : List Value} {x y v : UInt64} (hd : decode c.code pc = .ok (.dsub, 1)) (hn : NoNaN64 (FP.dsub x y)) (hv : FP.dsub x y = v) (hq : pc + 1 = q) (g : Go p e below Q (T.setTop (mkF m q Ls (.double v :: st)))) : Go p e below Q (T.setTop (mkF m pc Ls (.double y :: .double x :: st))) := by
  subst hq; exact Go.of (fun _ r => XS.dsubS h hx rfl hd rfl hn hv r) g
theorem Go.dmul (h : At T m c below) (hx : p.tables.exec = Jvm.exec) {pc q : Nat} {Ls : Array Slot} {st : List Value} {x y v : UInt64} (hd : decode c.code pc = .ok (.dmul, 1)) (hn : NoNaN64 (FP.dmul x y)) (hv : FP.dmul x y = v) (hq : pc + 1 = q) (g : Go p e below Q (T.setTop (mkF m q Ls (.double v :: st)))) : Go p e below Q (T.setTop (mkF m pc Ls (.double y :: .double x :: st))) := by
  subst hq; exact Go.of (fun _ r => XS.dmulS h hx rfl hd rfl hn hv r) g
theorem Go.ddiv (h : At T m c below) (hx : p.tables.exec = Jvm.exec) {pc q : Nat} {Ls : Array Slot} {st : List Value} {x y v : UInt64} (hd : decode c.code pc = .ok (.ddiv, 1)) (hn : NoNaN64 (FP.ddiv x y)) (hv : FP.ddiv x y = v) (hq : pc + 1 = q) (g : Go p e below Q (T.setTop (mkF m q Ls (.double v :: st)))) : Go p e below Q (T.setTop (mkF m pc Ls (.double y :: .double x :: st))) := by
  subst hq; exact Go.of (fun _ r => XS.ddivS h hx rfl hd rfl hn hv r) g
theorem Go.dcmp (h : At T m c below) (hx : p.tables.exec = Jvm.exec) {pc q : Nat} {Ls : Array Slot} {st : List Value} {o : CmpOp} {x y : UInt64} {v : Int32} (hd : decode c.code pc = .ok (.dcmp o, 1)) (hv : cmpValue (FP.dcmp x y) o = v) (hq : pc + 1 = q) (g : Go p e below Q (T.setTop (mkF m q Ls (.int v :: st)))) : Go p e below Q (T.setTop (mkF m pc Ls (.double y :: .double x :: st))) := by
  subst hq; exact Go.of (fun _ r => XS.dcmpS h hx rfl hd rfl hv r) g
theorem Go.fcmp (h : At T m c below) (hx : p.tables.exec = Jvm.exec) {pc q : Nat} {Ls : Array Slot} {st : List Value} {o : CmpOp} {x y : UInt32} {v : Int32} (hd : decode c.code pc = .ok (.fcmp o, 1)) (hv : cmpValue (FP.fcmp x y) o = v) (hq : pc + 1 = q) (g : Go p e below Q (T.setTop (mkF m q Ls (.int v :: st)))) : Go p e below Q (T.setTop (mkF m pc Ls (.float y :: .float x :: st))) := by
  subst hq; exact Go.of (fun _ r => XS.fcmpS h hx rfl hd rfl hv r) g
theorem Go.dup (h : At T m c below) (hx : p.tables.exec = Jvm.exec) {pc q : Nat} {Ls : Array Slot} {st : List Value} {v : Value} (hd : decode c.code pc = .ok (.dup, 1)) (hc : v.category = 1) (hq : pc + 1 = q) (g : Go p e below Q (T.setTop (mkF m q Ls (v :: v :: st)))) : Go p e below Q (T.setTop (mkF m pc Ls (v :: st))) := by
  subst hq; exact Go.of (fun _ r => XS.dup h hx rfl hd rfl hc r) g
theorem Go.dup2 (h : At T m c below) (hx : p.tables.exec = Jvm.exec) {pc q : Nat} {Ls : Array Slot} {st : List Value} {v w : Value} (hd : decode c.code pc = .ok (.dup2, 1)) (hc : v.category = 1) (hc2 : w.category = 1) (hq : pc + 1 = q) (g : Go p e below Q (T.setTop (mkF m q Ls (v :: w :: v :: w :: st)))) : Go p e below Q (T.setTop (mkF m pc Ls (v :: w :: st))) := by
  subst hq; exact Go.of (fun _ r => Jvm.Free.XT.dup2 h hx rfl hd rfl hc hc2 r) g
theorem Go.pop (h : At T m c below) (hx : p.tables.exec = Jvm.exec) {pc q : Nat} {Ls : Array Slot} {st : List Value} {v : Value} (hd : decode c.code pc = .ok (.pop, 1)) (hc : v.category = 1) (hq : pc + 1 = q) (g : Go p e below Q (T.setTop (mkF m q Ls st))) : Go p e below Q (T.setTop (mkF m pc Ls (v :: st))) := by
  subst hq; exact Go.of (fun _ r => XS.pop h hx rfl hd rfl hc r) g
theorem step_dup2x1 {tb : Tables} [Ours tb] {target : State} {g : JFrame} (h : At T m c below) (hx : tb.exec = Jvm.exec) (hg : g.method = m) {x : Int64} {b : Value} {rest : List Value} (hd : decode c.code g.pc = .ok (.dup2_x1, 1)) (hs : g.stack = .long x :: b :: rest) (hb : b.category = 1)
    (hr : Steps tb e below (T.setTop { g with pc := g.pc + 1, stack := .long x :: b :: .long x :: rest }) target) : Steps tb e below (T.setTop g) target := by
  subst hg
  jvm_step h [h.top, hx, hd, hs, hb, Value.category]
  exact ⟨hb, hr⟩
theorem Go.dup2x1 (h : At T m c below) (hx : p.tables.exec = Jvm.exec) {pc q : Nat} {Ls : Array Slot} {st : List Value} {x : Int64} {b : Value} (hd : decode c.code pc = .ok (.dup2_x1, 1)) (hb : b.category = 1) (hq : pc + 1 = q) (g : Go p e below Q (T.setTop (mkF m q Ls (.long x :: b :: .long x :: st)))) : Go p e below Q (T.setTop (mkF m pc Ls (.long x :: b :: st))) := by
  subst hq; exact Go.of (fun _ r => step_dup2x1 h hx rfl hd rfl hb r) g
theorem Go.iinc (h : At T m c below) (hx : p.tables.exec = Jvm.exec) {pc q : Nat} {Ls : Array Slot} {st : List Value} {k : Nat} {cst : Int} {x v : Int32} {l2 : Array Slot} (hd : decode c.code pc = .ok (.iinc k cst, 3)) (hl : Ls[k]? = some (.val (.int x))) (hv : x + Int32.ofInt cst = v) (hl2 : storeLocals Ls k (.int v) = some l2) (hq : pc + 3 = q) (g : Go p e below Q (T.setTop (mkF m q l2 st))) : Go p e below Q (T.setTop (mkF m pc Ls st)) := by
  subst hq hv; exact Go.of (fun _ r => XS.iinc h hx rfl hd hl hl2 r) g
theorem Go.goto (h : At T m c below) (hx : p.tables.exec = Jvm.exec) {pc q : Nat} {Ls : Array Slot} {st : List Value} {o : Int} (hd : decode c.code pc = .ok (.goto o, 3)) (ho : 0 ≤ (pc : Int) + o) (hq : ((pc : Int) + o).toNat = q) (g : Go p e below Q (T.setTop (mkF m q Ls st))) : Go p e below Q (T.setTop (mkF m pc Ls st)) := Go.of (fun _ r => XS.goto h hx rfl rfl hd ho hq r) g
theorem Go.ifY (h : At T m c below) (hx : p.tables.exec = Jvm.exec) {pc q : Nat} {Ls : Array Slot} {st : List Value} {cd : ClassFile.Cond} {x : Int32} {o : Int} (hd : decode c.code pc = .ok (.ifCond cd o, 3)) (hc : ifCond.holds cd x = true) (ho : 0 ≤ (pc : Int) + o) (hq : ((pc : Int) + o).toNat = q) (g : Go p e below Q (T.setTop (mkF m q Ls st))) : Go p e below Q (T.setTop (mkF m pc Ls (.int x :: st))) := Go.of (fun _ r => XS.ifYes h hx rfl rfl hd rfl hc ho hq r) g
theorem Go.ifN (h : At T m c below) (hx : p.tables.exec = Jvm.exec) {pc q : Nat} {Ls : Array Slot} {st : List Value} {cd : ClassFile.Cond} {x : Int32} {o : Int} (hd : decode c.code pc = .ok (.ifCond cd o, 3)) (hc : ifCond.holds cd x = false) (hq : pc + 3 = q) (g : Go p e below Q (T.setTop (mkF m q Ls st))) : Go p e below Q (T.setTop (mkF m pc Ls (.int x :: st))) := by
  subst hq; exact Go.of (fun _ r => XS.ifNo h hx rfl hd rfl hc r) g
theorem Go.icmpY (h : At T m c below) (hx : p.tables.exec = Jvm.exec) {pc q : Nat} {Ls : Array Slot} {st : List Value} {cd : ClassFile.Cond} {x y : Int32} {o : Int} (hd : decode c.code pc = .ok (.if_icmp cd o, 3)) (hc : if_icmp.holds cd x y = true) (ho : 0 ≤ (pc : Int) + o) (hq : ((pc : Int) + o).toNat = q) (g : Go p e below Q (T.setTop (mkF m q Ls st))) : Go p e below Q (T.setTop (mkF m pc Ls (.int y :: .int x :: st))) := Go.of (fun _ r => XS.icmpYes h hx rfl rfl hd rfl hc ho hq r) g
theorem Go.icmpN (h : At T m c below) (hx : p.tables.exec = Jvm.exec) {pc q : Nat} {Ls : Array Slot} {st : List Value} {cd : ClassFile.Cond} {x y : Int32} {o : Int} (hd : decode c.code pc = .ok (.if_icmp cd o, 3)) (hc : if_icmp.holds cd x y = false) (hq : pc + 3 = q) (g : Go p e below Q (T.setTop (mkF m q Ls st))) : Go p e below Q (T.setTop (mkF m pc Ls (.int y :: .int x :: st))) := by
  subst hq; exact Go.of (fun _ r => XS.icmpNo h hx rfl hd rfl hc r) g
theorem Go.acmpY (h : At T m c below) (hx : p.tables.exec = Jvm.exec) {pc q : Nat} {Ls : Array Slot} {st : List Value} {cd : ClassFile.ACond} {a b : Addr} {o : Int} (hd : decode c.code pc = .ok (.if_acmp cd o, 3)) (hc : if_acmp.holds cd (some a) (some b) = true) (ho : 0 ≤ (pc : Int) + o) (hq : ((pc : Int) + o).toNat = q) (g : Go p e below Q (T.setTop (mkF m q Ls st))) : Go p e below Q (T.setTop (mkF m pc Ls (.ref b :: .ref a :: st))) := Go.of (fun _ r => XS.acmpYes h hx rfl rfl hd rfl hc ho hq r) g
theorem Go.acmpN (h : At T m c below) (hx : p.tables.exec = Jvm.exec) {pc q : Nat} {Ls : Array Slot} {st : List Value} {cd : ClassFile.ACond} {a b : Addr} {o : Int} (hd : decode c.code pc = .ok (.if_acmp cd o, 3)) (hc : if_acmp.holds cd (some a) (some b) = false) (hq : pc + 3 = q) (g : Go p e below Q (T.setTop (mkF m q Ls st))) : Go p e below Q (T.setTop (mkF m pc Ls (.ref b :: .ref a :: st))) := by
  subst hq; exact Go.of (fun _ r => XS.acmpNo h hx rfl hd rfl hc r) g
theorem Go.nullY (h : At T m c below) (hx : p.tables.exec = Jvm.exec) {pc q : Nat} {Ls : Array Slot} {st : List Value} {o : Int} (hd : decode c.code pc = .ok (.ifnull o, 3)) (ho : 0 ≤ (pc : Int) + o) (hq : ((pc : Int) + o).toNat = q) (g : Go p e below Q (T.setTop (mkF m q Ls st))) : Go p e below Q (T.setTop (mkF m pc Ls (.null :: st))) := Go.of (fun _ r => XS.ifnullYes h hx rfl rfl hd rfl ho hq r) g
theorem Go.nullN (h : At T m c below) (hx : p.tables.exec = Jvm.exec) {pc q : Nat} {Ls : Array Slot} {st : List Value} {o : Int} {b : Addr} (hd : decode c.code pc = .ok (.ifnull o, 3)) (hq : pc + 3 = q) (g : Go p e below Q (T.setTop (mkF m q Ls st))) : Go p e below Q (T.setTop (mkF m pc Ls (.ref b :: st))) := by
  subst hq; exact Go.of (fun _ r => XS.ifnullNo h hx rfl hd rfl r) g
theorem Go.nonnullY (h : At T m c below) (hx : p.tables.exec = Jvm.exec) {pc q : Nat} {Ls : Array Slot} {st : List Value} {o : Int} {b : Addr} (hd : decode c.code pc = .ok (.ifnonnull o, 3)) (ho : 0 ≤ (pc : Int) + o) (hq : ((pc : Int) + o).toNat = q) (g : Go p e below Q (T.setTop (mkF m q Ls st))) : Go p e below Q (T.setTop (mkF m pc Ls (.ref b :: st))) := Go.of (fun _ r => XS.ifnonnullYes h hx rfl rfl hd rfl ho hq r) g
theorem Go.nonnullN (h : At T m c below) (hx : p.tables.exec = Jvm.exec) {pc q : Nat} {Ls : Array Slot} {st : List Value} {o : Int} (hd : decode c.code pc = .ok (.ifnonnull o, 3)) (hq : pc + 3 = q) (g : Go p e below Q (T.setTop (mkF m q Ls st))) : Go p e below Q (T.setTop (mkF m pc Ls (.null :: st))) := by
  subst hq; exact Go.of (fun _ r => XS.ifnonnullNo h hx rfl hd rfl r) g
theorem Go.ldcI (X : Stand p l e R s m args below meth c T locs cells slots) (hx : p.tables.exec = Jvm.exec) {own : String} {index : Nat} {v : Int32} (hown : s.vm.findClass own = some m.cls) (w : (Jvm.Cond.constant own index v).before args s = true) {pc q : Nat} {Ls : Array Slot} {st : List Value} (hd : decode c.code pc = .ok (.ldc index, 2)) (hq : pc + 2 = q) (g : Go p e below Q (T.setTop (mkF m q Ls (.int v :: st)))) : Go p e below Q (T.setTop (mkF m pc Ls st)) := by
  subst hq; exact Go.of (fun _ r => X.ldcInt hx hown w (g := mkF m pc Ls st) rfl hd _ r) g
theorem Go.ldc2J (X : Stand p l e R s m args below meth c T locs cells slots) (hx : p.tables.exec = Jvm.exec) {own : String} {index : Nat} {v : Int64} (hown : s.vm.findClass own = some m.cls) (w : (Jvm.Cond.constantLong own index v).before args s = true) {pc q : Nat} {Ls : Array Slot} {st : List Value} (hd : decode c.code pc = .ok (.ldc2_w index, 3)) (hq : pc + 3 = q) (g : Go p e below Q (T.setTop (mkF m q Ls (.long v :: st)))) : Go p e below Q (T.setTop (mkF m pc Ls st)) := by
  subst hq; exact Go.of (fun _ r => X.ldc2Long hx hown w (g := mkF m pc Ls st) rfl hd _ r) g
theorem Go.ldc2D (X : Stand p l e R s m args below meth c T locs cells slots) (hx : p.tables.exec = Jvm.exec) {own : String} {index : Nat} {v : UInt64} (hown : s.vm.findClass own = some m.cls) (w : (Jvm.Cond.constantDouble own index v).before args s = true) {pc q : Nat} {Ls : Array Slot} {st : List Value} (hd : decode c.code pc = .ok (.ldc2_w index, 3)) (hq : pc + 3 = q) (g : Go p e below Q (T.setTop (mkF m q Ls (.double v :: st)))) : Go p e below Q (T.setTop (mkF m pc Ls st)) := by
  subst hq; exact Go.of (fun _ r => X.ldc2DoubleC hx hown w (g := mkF m pc Ls st) rfl hd _ r) g
theorem Go.ldcF (X : Stand p l e R s m args below meth c T locs cells slots) (hx : p.tables.exec = Jvm.exec) {own : String} {index : Nat} {v : UInt32} (hown : s.vm.findClass own = some m.cls) (w : (Jvm.Cond.constantFloat own index v).before args s = true) {pc q : Nat} {Ls : Array Slot} {st : List Value} (hd : decode c.code pc = .ok (.ldc index, 2)) (hq : pc + 2 = q) (g : Go p e below Q (T.setTop (mkF m q Ls (.float v :: st)))) : Go p e below Q (T.setTop (mkF m pc Ls st)) := by
  subst hq; exact Go.of (fun _ r => X.ldcFloatC hx hown w (g := mkF m pc Ls st) rfl hd _ r) g
end OwnGo

/-! own layer 3: steps that touch the heap, and calls by contract, in the same forward form -/
section OwnHeap
variable {p : Program} {l : Launch} {e : Env} {R : Room} {s : State} {m : MethodId} {args : Array Value} {below : List Frame} {meth : Method} {c : Code} {T : State} {locs : List Loc} {cells slots : Nat} {Q : Outcome → State → Prop} {Z : State} {a0 : Array Value} {h : Heap}
/-- a callee's contract at one call -/
abbrev Con (l : Launch) (Z : State) (y : MethodName) (bytes : ByteArray) (maxL : Nat) (ret : Option FieldType) (rm : Room) (as' : Array Value) (h : Heap) (Qv : Option Value → Heap → List Loc → Prop) : Prop :=
  MetFree l y (head1 [Jvm.Cond.code y bytes maxL ret] rm) (fun a U => a = as' ∧ Z.Warmed39 U.vm ∧ U.heap = h) (fun _ _ _ _ _ => True) (fun _ U o U' => ∃ v L, o = .returned v ∧ Qv v U'.heap L ∧ FrameEnd U o U' L rm.cells rm.slots)
theorem Go.new (X : Stand p l e R s m args below meth c T locs cells slots) (hx : p.tables.exec = Jvm.exec) (hZ : Z.Warmed39 s.vm) {own C : String} {index n : Nat} (hown : s.vm.findClass own = some m.cls) (w : (Jvm.Cond.classLink own index C).before a0 Z = true) (wi : (Jvm.Cond.instantiable C n).before a0 Z = true) (wz : (Jvm.Cond.initialized C).before a0 Z = true) (eT : T.heap = h)
    {pc q : Nat} {Ls : Array Slot} {st : List Value} (hd : decode c.code pc = .ok (.new index, 3)) (hc : cells + 1 ≤ R.cells) (hl : slots + n ≤ R.slots) (hq : pc + 3 = q)
    (k : ∀ (T' : State) (h' : Heap) (a : Addr), a = h.size → Stand p l e R s m args below meth c T' locs (cells + 1) (slots + n) → T'.heap = h' → Ext h h' → Exa Z h' a C → (∀ {O nm d : String} {ty : FieldType}, Laid Z a0 C O nm d → parseFieldDescriptor d = some ty → Fld Z h' a O nm d (defaultValue ty)) →
      Go p e below Q (T'.setTop (mkF m q Ls (.ref a :: st)))) : Go p e below Q (T.setTop (mkF m pc Ls st)) := by
  subst hq
  obtain ⟨T', h', X', e', E', A', D', -, st'⟩ := newO X hx hZ hown w wi wz eT (g := mkF m pc Ls st) rfl hd hc hl
  exact Go.of st' (k T' h' _ rfl X' e' E' A' D')
theorem Go.getf (X : Stand p l e R s m args below meth c T locs cells slots) (hx : p.tables.exec = Jvm.exec) (hZ : Z.Warmed39 s.vm) {own O n d : String} {index : Nat} (hown : s.vm.findClass own = some m.cls) (w : (Jvm.Cond.fieldLink own index O n d).before a0 Z = true) (eT : T.heap = h) {a : Addr} {v : Value} (F : Fld Z h a O n d v)
    {pc q : Nat} {Ls : Array Slot} {st : List Value} (hd : decode c.code pc = .ok (.getfield index, 3)) (hq : pc + 3 = q)
    (k : ∀ T' : State, Stand p l e R s m args below meth c T' locs cells slots → T'.heap = h → Go p e below Q (T'.setTop (mkF m q Ls (v :: st)))) : Go p e below Q (T.setTop (mkF m pc Ls (.ref a :: st))) := by
  subst hq
  obtain ⟨T', X', e', st'⟩ := getF X hx hZ hown (host := "") (Or.inl w) Via.refl eT F (g := mkF m pc Ls (.ref a :: st)) rfl rfl hd
  exact Go.of st' (k T' X' e')
theorem Go.gets (X : Stand p l e R s m args below meth c T locs cells slots) (hx : p.tables.exec = Jvm.exec) (hZ : Z.Warmed39 s.vm) {own O n d : String} {index : Nat} (hown : s.vm.findClass own = some m.cls) (w : (Jvm.Cond.fieldLink own index O n d).before a0 Z = true) (eT : T.heap = h) {v : Value} (F : Sta Z h O n d v)
    {pc q : Nat} {Ls : Array Slot} {st : List Value} (hd : decode c.code pc = .ok (.getstatic index, 3)) (hq : pc + 3 = q)
    (k : ∀ T' : State, Stand p l e R s m args below meth c T' locs cells slots → T'.heap = h → Go p e below Q (T'.setTop (mkF m q Ls (v :: st)))) : Go p e below Q (T.setTop (mkF m pc Ls st)) := by
  subst hq
  obtain ⟨T', X', e', st'⟩ := getS X hx hZ hown (host := "") w Via.refl eT F (g := mkF m pc Ls st) rfl hd
  exact Go.of st' (k T' X' e')
theorem Go.putf (X : Stand p l e R s m args below meth c T locs cells slots) (hx : p.tables.exec = Jvm.exec) (hZ : Z.Warmed39 s.vm) {own O n d C : String} {index kk : Nat} {ty : FieldType} (hown : s.vm.findClass own = some m.cls) (w : (Jvm.Cond.fieldLink own index O n d).before a0 Z = true) (eT : T.heap = h) {a : Addr} {v old : Value} (F : Fld Z h a O n d old) (E : Exa Z h a C)
    (L : (Jvm.Cond.lays C O n d).before a0 Z = true ∨ ((Jvm.Cond.laysFinal C O n d).before a0 Z = true ∧ own = O ∧ meth.name = "<init>")) (wi : (Jvm.Cond.instantiable C kk).before a0 Z = true) (hty : parseFieldDescriptor d = some ty) (hn : narrow ty v = v) (hf : fits ty v = true)
    {pc q : Nat} {Ls : Array Slot} {st : List Value} (hd : decode c.code pc = .ok (.putfield index, 3)) (hq : pc + 3 = q)
    (k : ∀ (T' : State) (h' : Heap), Stand p l e R s m args below meth c T' (locs ++ [⟨a, Jvm.RoadKit.slotOf Z O n d⟩]) cells slots → T'.heap = h' → Wr h h' a (Jvm.RoadKit.slotOf Z O n d) v → Go p e below Q (T'.setTop (mkF m q Ls st))) : Go p e below Q (T.setTop (mkF m pc Ls (v :: .ref a :: st))) := by
  subst hq
  obtain ⟨T', h', X', e', W', st'⟩ := putF X hx hZ hown (host := "") (Or.inl w) Via.refl eT F E L wi hty hn hf (g := mkF m pc Ls (v :: .ref a :: st)) rfl rfl hd
  exact Go.of st' (k T' h' X' e' W')
theorem Go.init (X : Stand p l e R s m args below meth c T locs cells slots) (hx : p.tables.exec = Jvm.exec) (hZ : Z.Warmed39 s.vm) {own : String} {index : Nat} (hown : s.vm.findClass own = some m.cls) (w1 : (Jvm.Cond.methodLink own index Lib.objectInit).before a0 Z = true) (w2 : (Jvm.Cond.instanceMethod Lib.objectInit).before a0 Z = true) (w3 : (Jvm.Cond.code Lib.objectInit ⟨#[0xb1]⟩ 1 none).before a0 Z = true) (eT : T.heap = h)
    {pc q : Nat} {Ls : Array Slot} {st : List Value} {a : Addr} {W : Nat} (hd : decode c.code pc = .ok (.invokespecial index, 3)) (hsz : Ls.size = c.maxLocals) (hf : 1 ≤ R.frames) (hW : (st.map fun v => v.category).sum ≤ W) (hl : W + 12 ≤ R.locals) (hq : pc + 3 = q)
    (k : ∀ T' : State, Stand p l e R s m args below meth c T' locs cells slots → T'.heap = h → Go p e below Q (T'.setTop (mkF m q Ls st))) : Go p e below Q (T.setTop (mkF m pc Ls (.ref a :: st))) := by
  subst hq
  obtain ⟨T', X', e', st'⟩ := initO X hx hZ hown w1 w2 w3 eT (g := mkF m pc Ls (.ref a :: st)) rfl hsz rfl hd hf (W := W) (by show 2 * 0 + _ ≤ _; omega) hl
  exact Go.of st' (k T' X' e')
theorem Go.special (X : Stand p l e R s m args below meth c T locs cells slots) (hx : p.tables.exec = Jvm.exec) (hZ : Z.Warmed39 s.vm) {own : String} {index : Nat} {y : MethodName} (hy1 : y.name = "<init>") (hown : s.vm.findClass own = some m.cls) (w1 : (Jvm.Cond.methodLink own index y).before a0 Z = true) (w2 : (Jvm.Cond.instanceMethod y).before a0 Z = true)
    {bytes : ByteArray} {maxL : Nat} (w3 : (Jvm.Cond.code y bytes maxL none).before a0 Z = true) (wz : (Jvm.Cond.initialized y.cls).before a0 Z = true) (hy : y.cls ≠ "java/lang/invoke/MethodHandle" ∧ y.cls ≠ "java/lang/invoke/VarHandle")
    {rm : Room} {as' : Array Value} {Qv : Option Value → Heap → List Loc → Prop} (hM : Con l Z y bytes maxL none rm as' h Qv) (eT : T.heap = h) {pc q : Nat} {Ls : Array Slot} {st : List Value} {a : Addr} {argsL rest : List Value} {W : Nat} (hd : decode c.code pc = .ok (.invokespecial index, 3))
    (hst : st = argsL.reverse ++ .ref a :: rest) (has : as' = (.ref a :: argsL).toArray) (hlen : ∀ sig, parseMethodDescriptor y.desc = some sig → argsL.length = sig.parameters.length) (hsz : Ls.size = c.maxLocals) (hW : (rest.map fun v => v.category).sum ≤ W)
    (hf : rm.frames + 1 ≤ R.frames) (hl : W + (maxL + 11) + rm.locals ≤ R.locals) (hc : cells + rm.cells ≤ R.cells) (hs : slots + rm.slots ≤ R.slots) (hq : pc + 3 = q)
    (k : ∀ (T' : State) (L : List Loc) (v : Option Value), Stand p l e R s m args below meth c T' (locs ++ L) (cells + rm.cells) (slots + rm.slots) → Qv v T'.heap L → Go p e below Q (T'.setTop (mkF m q Ls (v.toList ++ rest)))) : Go p e below Q (T.setTop (mkF m pc Ls st)) := by
  subst hq hst has
  obtain ⟨v, vm₁, ⟨T', L', k', n'⟩, -, X', ⟨Lc, hQ, l1, y1, z1⟩, st'⟩ := X.specialBack hx (y := y) hy1 hown (mvT hZ w1) (mvT hZ w2) (mvT hZ w3) hy (backOf (W := W) hM hZ w3 wz hf hl) (g := mkF m pc Ls (argsL.reverse ++ .ref a :: rest)) rfl hsz (Steps.refl _) (a := a) (argsL := argsL) (rest := rest) hlen rfl (by show 2 * 0 + _ ≤ _; omega) hd (fun _ _ => ⟨rfl, eT, hc, hs⟩)
  dsimp only [Pt.U, Pt.locs, Pt.cells, Pt.slots] at X' l1 y1 z1 st' hQ
  subst l1 y1 z1
  exact Go.tr st' (k T' Lc v X' hQ)
theorem Go.virtual (X : Stand p l e R s m args below meth c T locs cells slots) (hx : p.tables.exec = Jvm.exec) (hZ : Z.Warmed39 s.vm) {own C : String} {index : Nat} {y : MethodName} (hown : s.vm.findClass own = some m.cls) (w1 : (Jvm.Cond.methodLink own index y).before a0 Z = true) (w2 : (Jvm.Cond.declares y).before a0 Z = true) (w3 : (Jvm.Cond.selects C y y).before a0 Z = true) (w4 : (Jvm.Cond.instanceMethod y).before a0 Z = true)
    {bytes : ByteArray} {maxL : Nat} {ret : Option FieldType} (w5 : (Jvm.Cond.code y bytes maxL ret).before a0 Z = true) (wz : (Jvm.Cond.initialized y.cls).before a0 Z = true) (hy : y.cls ≠ "java/lang/invoke/MethodHandle" ∧ y.cls ≠ "java/lang/invoke/VarHandle")
    {rm : Room} {as' : Array Value} {Qv : Option Value → Heap → List Loc → Prop} (hM : Con l Z y bytes maxL ret rm as' h Qv) (eT : T.heap = h) {a : Addr} (E : Exa Z h a C) {pc q : Nat} {Ls : Array Slot} {st : List Value} {argsL rest : List Value} {W : Nat} (hd : decode c.code pc = .ok (.invokevirtual index, 3))
    (hst : st = argsL.reverse ++ .ref a :: rest) (has : as' = (.ref a :: argsL).toArray) (hlen : ∀ sig, parseMethodDescriptor y.desc = some sig → argsL.length = sig.parameters.length) (hsz : Ls.size = c.maxLocals) (hW : (rest.map fun v => v.category).sum ≤ W)
    (hf : rm.frames + 1 ≤ R.frames) (hl : W + (maxL + 11) + rm.locals ≤ R.locals) (hc : cells + rm.cells ≤ R.cells) (hs : slots + rm.slots ≤ R.slots) (hq : pc + 3 = q)
    (k : ∀ (T' : State) (L : List Loc) (v : Option Value), Stand p l e R s m args below meth c T' (locs ++ L) (cells + rm.cells) (slots + rm.slots) → Qv v T'.heap L → Go p e below Q (T'.setTop (mkF m q Ls (v.toList ++ rest)))) : Go p e below Q (T.setTop (mkF m pc Ls st)) := by
  subst hq hst has
  obtain ⟨cq, kq, qa, -, qc⟩ := isOf hZ eT E
  obtain ⟨v, vm₁, ⟨T', L', k', n'⟩, -, X', ⟨Lc, hQ, l1, y1, z1⟩, st'⟩ := X.virtualBack hx (y := y) (z := y) hown (mvT hZ w1) (mvT hZ w2) (notFace_of_selects (args := #[]) (mvT hZ w3)) (mvT hZ w3) (mvT hZ w4) hy (backOf (W := W) hM hZ w5 wz hf hl) qa qc (g := mkF m pc Ls (argsL.reverse ++ .ref a :: rest)) rfl hsz (Steps.refl _) (argsL := argsL) (rest := rest) hlen rfl (by show 2 * 0 + _ ≤ _; omega) hd (fun _ _ => ⟨rfl, eT, hc, hs⟩)
  dsimp only [Pt.U, Pt.locs, Pt.cells, Pt.slots] at X' l1 y1 z1 st' hQ
  subst l1 y1 z1
  exact Go.tr st' (k T' Lc v X' hQ)
theorem Go.static (X : Stand p l e R s m args below meth c T locs cells slots) (hx : p.tables.exec = Jvm.exec) (hZ : Z.Warmed39 s.vm) {own : String} {index : Nat} {y : MethodName} (hown : s.vm.findClass own = some m.cls) (w1 : (Jvm.Cond.methodLink own index y).before a0 Z = true) (w2 : (Jvm.Cond.static y).before a0 Z = true)
    {bytes : ByteArray} {maxL : Nat} {ret : Option FieldType} (w3 : (Jvm.Cond.code y bytes maxL ret).before a0 Z = true) (wz : (Jvm.Cond.initialized y.cls).before a0 Z = true) (hy : y.cls ≠ "java/lang/invoke/MethodHandle" ∧ y.cls ≠ "java/lang/invoke/VarHandle")
    {rm : Room} {as' : Array Value} {Qv : Option Value → Heap → List Loc → Prop} (hM : Con l Z y bytes maxL ret rm as' h Qv) (eT : T.heap = h) {pc q : Nat} {Ls : Array Slot} {st : List Value} {argsL rest : List Value} {W : Nat} (hd : decode c.code pc = .ok (.invokestatic index, 3))
    (hst : st = argsL.reverse ++ rest) (has : as' = argsL.toArray) (hlen : ∀ sig, parseMethodDescriptor y.desc = some sig → argsL.length = sig.parameters.length) (hsz : Ls.size = c.maxLocals) (hW : (rest.map fun v => v.category).sum ≤ W)
    (hf : rm.frames + 1 ≤ R.frames) (hl : W + (maxL + 11) + rm.locals ≤ R.locals) (hc : cells + rm.cells ≤ R.cells) (hs : slots + rm.slots ≤ R.slots) (hq : pc + 3 = q)
    (k : ∀ (T' : State) (L : List Loc) (v : Option Value), Stand p l e R s m args below meth c T' (locs ++ L) (cells + rm.cells) (slots + rm.slots) → Qv v T'.heap L → Go p e below Q (T'.setTop (mkF m q Ls (v.toList ++ rest)))) : Go p e below Q (T.setTop (mkF m pc Ls st)) := by
  subst hq hst has
  obtain ⟨v, vm₁, ⟨T', L', k', n'⟩, -, X', ⟨Lc, hQ, l1, y1, z1⟩, st'⟩ := Jvm.LawKit.callS X hx (y := y) hown (mvT hZ w1) (mvT hZ w2) (mvT hZ wz) (mvT hZ w3) hy (backOf (W := W) hM hZ w3 wz hf hl) (g := mkF m pc Ls (argsL.reverse ++ rest)) rfl hsz (argsL := argsL) (rest := rest) hlen rfl (by show 2 * 0 + _ ≤ _; omega) hd (fun _ _ => ⟨rfl, eT, hc, hs⟩)
  dsimp only [Pt.U, Pt.locs, Pt.cells, Pt.slots] at X' l1 y1 z1 st' hQ
  subst l1 y1 z1
  exact Go.of st' (k T' Lc v X' hQ)
/-- a static call that a payer of the library answers, and that leaves all as it was -/
theorem Go.nat (X : Stand p l e R s m args below meth c T locs cells slots) (hx : p.tables.exec = Jvm.exec) (hZ : Z.Warmed39 s.vm) {own : String} {index : Nat} {y : MethodName} (hown : s.vm.findClass own = some m.cls) (w1 : (Jvm.Cond.methodLink own index y).before a0 Z = true) (w2 : (Jvm.Cond.static y).before a0 Z = true) (w3 : (Jvm.Cond.initialized y.cls).before a0 Z = true)
    {by0 : ByteArray} {ml : Nat} {rt : Option FieldType} (w4 : (Jvm.Cond.code y by0 ml rt).before a0 Z = true) (hy : y.cls ≠ "java/lang/invoke/MethodHandle" ∧ y.cls ≠ "java/lang/invoke/VarHandle") (eT : T.heap = h) {W : Nat} {F : Array Value → Prop} {val : Value}
    (hK : (Jvm.Cond.code y by0 ml rt).before args s = true → Back l R p e below s args y 3 W (fun A a' => A.cells ≤ R.cells ∧ A.slots ≤ R.slots ∧ F a') (fun A _ v B => v = some val ∧ B = A))
    {pc q : Nat} {Ls : Array Slot} {st : List Value} {argsL rest : List Value} (hd : decode c.code pc = .ok (.invokestatic index, 3)) (hst : st = argsL.reverse ++ rest) (hlen : ∀ sig, parseMethodDescriptor y.desc = some sig → argsL.length = sig.parameters.length) (hsz : Ls.size = c.maxLocals) (hW : (rest.map fun v => v.category).sum ≤ W)
    (hc : cells ≤ R.cells) (hs : slots ≤ R.slots) (hF : F argsL.toArray) (hq : pc + 3 = q)
    (k : ∀ T' : State, Stand p l e R s m args below meth c T' locs cells slots → T'.heap = h → Go p e below Q (T'.setTop (mkF m q Ls (val :: rest)))) : Go p e below Q (T.setTop (mkF m pc Ls st)) := by
  subst hq hst
  obtain ⟨T', X', e', st'⟩ := natS X hx hZ hown w1 w2 w3 w4 hy eT hK (g := mkF m pc Ls (argsL.reverse ++ rest)) rfl hsz hlen rfl (by show 2 * 0 + _ ≤ _; omega) hd hc hs hF rfl
  exact Go.of st' (k T' X' e')
/-! words of the sheet by their place -/
theorem word {ts : List Jvm.Cond} (hw : ∀ d ∈ ts, d.before a0 Z = true) {d : Jvm.Cond} (i : Nat) (hi : ts[i]? = some d) : d.before a0 Z = true := hw _ (List.mem_of_getElem? hi)
end OwnHeap

theorem pd0 : parseMethodDescriptor "(DD)Z" = some ⟨[.double, .double], some .boolean⟩ := by decide +kernel

section OwnLaw
open Jvm.FP Jvm.FP.Core Jvm.Free.Fl
/-- what goesLeft gives: by the receiver's being the first constant, and the comparison -/
def own_left (first : Prop) [Decidable first] (v : Int32) : Int32 := if first then (if 0 < v then 0 else 1) else (if v < 0 then 1 else 0)
/-- v is the double of the whole number a -/
def own_is (v : UInt64) (a : Int64) : Prop := DFin v ∧ Zv v = a.toInt * P2 1074
theorem own_is_l2d {a : Int64} {v : UInt64} (h : FP.l2d a = v) (h1 : -4294967296 ≤ a.toInt ∧ a.toInt ≤ 4294967296) : own_is v a := by
  subst h; exact ⟨l2d_dfin a, l2d_eq (by omega)⟩
theorem own_is_neg0 {a : Int64} (h : a = 0) : own_is 9223372036854775808 a := by
  subst h; exact ⟨(fin_bits _).mpr (by decide), by decide +kernel⟩
theorem own_cmp {v t : UInt64} {a b : Int64} (hv : own_is v a) (ht : own_is t b) (o : CmpOp) : (a < b → cmpValue (FP.dcmp v t) o = -1) ∧ (a = b → cmpValue (FP.dcmp v t) o = 0) ∧ (b < a → cmpValue (FP.dcmp v t) o = 1) := by
  have hU := P2_pos 1074
  refine ⟨fun h => cmp_lt hv.1 ht.1 o ?_, fun h => cmp_eq hv.1 ht.1 o ?_, fun h => cmp_gt hv.1 ht.1 o ?_⟩
  · rw [hv.2, ht.2]; exact Int.mul_lt_mul_of_pos_right (Int64.lt_iff_toInt_lt.mp h) hU
  · rw [hv.2, ht.2, h]
  · rw [hv.2, ht.2]; exact Int.mul_lt_mul_of_pos_right (Int64.lt_iff_toInt_lt.mp h) hU
theorem own_most {v t : UInt64} {a b : Int64} (hv : own_is v a) (ht : own_is t b) : (b < a → own_left True (cmpValue (FP.dcmp v t) .g) = 0) ∧ (¬ b < a → own_left True (cmpValue (FP.dcmp v t) .g) = 1) := by
  obtain ⟨c1, c2, c3⟩ := own_cmp hv ht .g
  refine ⟨fun h => ?_, fun h => ?_⟩
  · rw [c3 h]; rfl
  · by_cases h2 : a = b
    · rw [c2 h2]; rfl
    · rw [c1 (Int64.lt_iff_toInt_lt.mpr (by have h3 := Int.not_lt.mp (fun z => h (Int64.lt_iff_toInt_lt.mpr z)); have h4 : ¬ a.toInt = b.toInt := fun z => h2 (Int64.toInt_inj.mp z); omega))]; rfl
theorem own_below {v t : UInt64} {a b : Int64} (hv : own_is v a) (ht : own_is t b) : (a < b → own_left False (cmpValue (FP.dcmp v t) .g) = 1) ∧ (¬ a < b → own_left False (cmpValue (FP.dcmp v t) .g) = 0) := by
  obtain ⟨c1, c2, c3⟩ := own_cmp hv ht .g
  refine ⟨fun h => ?_, fun h => ?_⟩
  · rw [c1 h]; rfl
  · by_cases h2 : a = b
    · rw [c2 h2]; rfl
    · rw [c3 (Int64.lt_iff_toInt_lt.mpr (by have h3 := Int.not_lt.mp (fun z => h (Int64.lt_iff_toInt_lt.mpr z)); have h4 : ¬ a.toInt = b.toInt := fun z => h2 (Int64.toInt_inj.mp z); omega))]; rfl
theorem own_left01 (first : Prop) [Decidable first] (v : Int32) : own_left first v = 0 ∨ own_left first v = 1 := by
  unfold own_left; split <;> split <;> first | exact Or.inl rfl | exact Or.inr rfl
theorem own_b32 (a : Int32) {v : Int64} (h : a.toInt64 = v) : -2147483648 ≤ v.toInt ∧ v.toInt ≤ 2147483647 := by
  subst h; rw [c_i2l]; have := rng32 a; omega
theorem own_wide {v : Int64} (h : -2147483648 ≤ v.toInt ∧ v.toInt ≤ 2147483647) : -4294967296 ≤ v.toInt ∧ v.toInt ≤ 4294967296 := by omega
theorem own_succ {v u : Int64} (h : -2147483648 ≤ v.toInt ∧ v.toInt ≤ 2147483647) (e : v + 1 = u) : -4294967296 ≤ u.toInt ∧ u.toInt ≤ 4294967296 := by
  subst e; have g := c_ladd v 1; have r := rng64 (v + 1); have o : (1 : Int64).toInt = 1 := rfl; omega
theorem own_pred {v u : Int64} (h : -2147483648 ≤ v.toInt ∧ v.toInt ≤ 2147483647) (e : v - 1 = u) : -4294967296 ≤ u.toInt ∧ u.toInt ≤ 4294967296 := by
  subst e; have g := c_lsub v 1; have r := rng64 (v - 1); have o : (1 : Int64).toInt = 1 := rfl; omega
end OwnLaw

theorem own_left_t {P : Prop} [Decidable P] {v r : Int32} (h : P) (e : own_left True v = r) : own_left P v = r := by
  rw [← e]; unfold own_left; rw [if_pos h, if_pos trivial]
theorem own_left_f {P : Prop} [Decidable P] {v r : Int32} (h : ¬ P) (e : own_left False v = r) : own_left P v = r := by
  rw [← e]; unfold own_left; rw [if_neg h, if_neg (fun z => z)]

theorem d1_0 : decode prog_89_method_4_code 0 = .ok (.aload_n 0, 1) := by decide +kernel
theorem d1_1 : decode prog_89_method_4_code 1 = .ok (.getstatic 3, 3) := by decide +kernel
theorem d1_4 : decode prog_89_method_4_code 4 = .ok (.if_acmp .ne 17, 3) := by decide +kernel
theorem d1_7 : decode prog_89_method_4_code 7 = .ok (.dload_n 1, 1) := by decide +kernel
theorem d1_8 : decode prog_89_method_4_code 8 = .ok (.dload_n 3, 1) := by decide +kernel
theorem d1_9 : decode prog_89_method_4_code 9 = .ok (.dcmp .g, 1) := by decide +kernel
theorem d1_10 : decode prog_89_method_4_code 10 = .ok (.ifCond .gt 7, 3) := by decide +kernel
theorem d1_13 : decode prog_89_method_4_code 13 = .ok (.iconst 1, 1) := by decide +kernel
theorem d1_14 : decode prog_89_method_4_code 14 = .ok (.goto 18, 3) := by decide +kernel
theorem d1_17 : decode prog_89_method_4_code 17 = .ok (.iconst 0, 1) := by decide +kernel
theorem d1_18 : decode prog_89_method_4_code 18 = .ok (.goto 14, 3) := by decide +kernel
theorem d1_21 : decode prog_89_method_4_code 21 = .ok (.dload_n 1, 1) := by decide +kernel
theorem d1_22 : decode prog_89_method_4_code 22 = .ok (.dload_n 3, 1) := by decide +kernel
theorem d1_23 : decode prog_89_method_4_code 23 = .ok (.dcmp .g, 1) := by decide +kernel
theorem d1_24 : decode prog_89_method_4_code 24 = .ok (.ifCond .ge 7, 3) := by decide +kernel
theorem d1_27 : decode prog_89_method_4_code 27 = .ok (.iconst 1, 1) := by decide +kernel
theorem d1_28 : decode prog_89_method_4_code 28 = .ok (.goto 4, 3) := by decide +kernel
theorem d1_31 : decode prog_89_method_4_code 31 = .ok (.iconst 0, 1) := by decide +kernel
theorem d1_32 : decode prog_89_method_4_code 32 = .ok (.ireturn, 1) := by decide +kernel
set_option maxRecDepth 65536 in
set_option maxHeartbeats 40000000 in
theorem rm_left (l : Launch) (Z : State) (a0 : Array Value) (hw : ∀ d ∈ tables_1, d.before a0 Z = true) (a1 : Addr) (x : UInt64) (y : UInt64) (b0 : Addr) (h0 : Heap) (n0 : Nat) (Z0 : n0 ≤ h0.size) (S0 : Sta Z h0 "com/example/rank2/rank2/rerank/AdditiveTreesModel$Comparison" "AT_MOST" "Lcom/example/rank2/rank2/rerank/AdditiveTreesModel$Comparison;" (.ref b0)) :
    Con l Z (⟨"com/example/rank2/rank2/rerank/AdditiveTreesModel$Comparison", "goesLeft", "(DD)Z"⟩ : MethodName) prog_89_method_4_code 5 (some .boolean) ({ frames := 0, cells := 0, slots := 0, locals := 0 } : Room) #[(.ref a1), (.double x), (.double y)] h0 (fun v h L => v = some (.int (own_left (a1 = b0) (cmpValue (FP.dcmp x y) .g))) ∧ Fr n0 L ∧ h = h0) := by
  refine enter (l := l) (Z := Z) (y := (⟨"com/example/rank2/rank2/rerank/AdditiveTreesModel$Comparison", "goesLeft", "(DD)Z"⟩ : MethodName)) (bytes := prog_89_method_4_code) (maxL := 5) (ret := (some .boolean)) (ws := []) (rm := ({ frames := 0, cells := 0, slots := 0, locals := 0 } : Room)) (as' := #[(.ref a1), (.double x), (.double y)]) (h0 := h0) (Qv := (fun v h L => v = some (.int (own_left (a1 = b0) (cmpValue (FP.dcmp x y) .g))) ∧ Fr n0 L ∧ h = h0)) (kc := 0) (ks := 0) (by first | exact plainFor_of_name (by first | (simp [plainName, overriddenIn]; done) | decide +kernel) | decide +kernel) (Ls := #[.val (.ref a1), .val (.double x), .second, .val (.double y), .second]) (fun m => by first | (simp [entryFrame, mkF, argsToLocals, Value.category]; done) | rfl) ?_
  intro p e s m below meth c s₁ hx hby hml hown hnm hret hlk hZ X0 e0
  have hown : s.vm.findClass "com/example/rank2/rank2/rerank/AdditiveTreesModel$Comparison" = some m.cls := hown
  have hml : c.maxLocals = 5 := hml
  have N0 := Fr.nil n0
  refine Go.aloadN X0.here hx (Jvm.hb hby d1_0) rfl rfl (q := 1) rfl ?_
  refine Go.gets X0 hx hZ hown (word hw 8 rfl) e0 S0 (Jvm.hb hby d1_1) (q := 4) rfl ?_
  intro T101 X101 e101
  by_cases hc4 : a1 = b0
  · -- pc 4: a1 = b0
    refine Go.acmpN X101.here hx (Jvm.hb hby d1_4) (by simp [if_acmp.holds, hc4]) (q := 7) rfl ?_
    refine Go.dloadN X101.here hx (Jvm.hb hby d1_7) rfl (q := 8) rfl ?_
    refine Go.dloadN X101.here hx (Jvm.hb hby d1_8) rfl (q := 9) rfl ?_
    obtain ⟨u9, hu9⟩ : ∃ zq, cmpValue (FP.dcmp x y) .g = zq := ⟨_, rfl⟩
    refine Go.dcmp X101.here hx (Jvm.hb hby d1_9) hu9 (q := 10) rfl ?_
    by_cases hc10 : (0 : Int32) < u9
    · -- pc 10: (0 : Int32) < u9
      refine Go.ifY X101.here hx (Jvm.hb hby d1_10) ((if0 _ _).trans (tlt hc10).2.2.1) (by decide) (q := 17) rfl ?_
      refine Go.iconst X101.here hx (Jvm.hb hby d1_17) (v := (0 : Int32)) rfl (q := 18) rfl ?_
      refine Go.goto X101.here hx (Jvm.hb hby d1_18) (by decide) (q := 32) rfl ?_
      refine Go.retZ X101 hx hret hlk (Jvm.hb hby d1_32) (Or.inl rfl) (by decide) (by decide) ?_
      exact ⟨by rw [hu9, own_left, if_pos hc4, if_pos hc10], N0, e101⟩
    · -- pc 10: not (0 : Int32) < u9
      refine Go.ifN X101.here hx (Jvm.hb hby d1_10) ((if0 _ _).trans (flt hc10).2.2.1) (q := 13) rfl ?_
      refine Go.iconst X101.here hx (Jvm.hb hby d1_13) (v := (1 : Int32)) rfl (q := 14) rfl ?_
      refine Go.goto X101.here hx (Jvm.hb hby d1_14) (by decide) (q := 32) rfl ?_
      refine Go.retZ X101 hx hret hlk (Jvm.hb hby d1_32) (Or.inr rfl) (by decide) (by decide) ?_
      exact ⟨by rw [hu9, own_left, if_pos hc4, if_neg hc10], N0, e101⟩
  · -- pc 4: not a1 = b0
    refine Go.acmpY X101.here hx (Jvm.hb hby d1_4) (by simp [if_acmp.holds, hc4]) (by decide) (q := 21) rfl ?_
    refine Go.dloadN X101.here hx (Jvm.hb hby d1_21) rfl (q := 22) rfl ?_
    refine Go.dloadN X101.here hx (Jvm.hb hby d1_22) rfl (q := 23) rfl ?_
    obtain ⟨u23, hu23⟩ : ∃ zq, cmpValue (FP.dcmp x y) .g = zq := ⟨_, rfl⟩
    refine Go.dcmp X101.here hx (Jvm.hb hby d1_23) hu23 (q := 24) rfl ?_
    by_cases hc24 : u23 < (0 : Int32)
    · -- pc 24: u23 < (0 : Int32)
      refine Go.ifN X101.here hx (Jvm.hb hby d1_24) ((if0 _ _).trans (tlt hc24).2.1) (q := 27) rfl ?_
      refine Go.iconst X101.here hx (Jvm.hb hby d1_27) (v := (1 : Int32)) rfl (q := 28) rfl ?_
      refine Go.goto X101.here hx (Jvm.hb hby d1_28) (by decide) (q := 32) rfl ?_
      refine Go.retZ X101 hx hret hlk (Jvm.hb hby d1_32) (Or.inr rfl) (by decide) (by decide) ?_
      exact ⟨by rw [hu23, own_left, if_neg hc4, if_pos hc24], N0, e101⟩
    · -- pc 24: not u23 < (0 : Int32)
      refine Go.ifY X101.here hx (Jvm.hb hby d1_24) ((if0 _ _).trans (flt hc24).2.1) (by decide) (q := 31) rfl ?_
      refine Go.iconst X101.here hx (Jvm.hb hby d1_31) (v := (0 : Int32)) rfl (q := 32) rfl ?_
      refine Go.retZ X101 hx hret hlk (Jvm.hb hby d1_32) (Or.inl rfl) (by decide) (by decide) ?_
      exact ⟨by rw [hu23, own_left, if_neg hc4, if_neg hc24], N0, e101⟩
set_option maxRecDepth 65536 in
set_option maxHeartbeats 40000000 in
theorem rm_law (l : Launch) (Z : State) (a0 : Array Value) (hw : ∀ d ∈ tables_1, d.before a0 Z = true) (ws : List Jvm.Cond) (q1 : Int32) (q2 : Int32) (q3 : Int32) (b0 : Addr) (b1 : Addr) (h0 : Heap) (n0 : Nat) (Z0 : n0 ≤ h0.size) (S0 : Sta Z h0 "com/example/rank2/rank2/rerank/AdditiveTreesModel$Comparison" "AT_MOST" "Lcom/example/rank2/rank2/rerank/AdditiveTreesModel$Comparison;" (.ref b0)) (S1 : Sta Z h0 "com/example/rank2/rank2/rerank/AdditiveTreesModel$Comparison" "BELOW" "Lcom/example/rank2/rank2/rerank/AdditiveTreesModel$Comparison;" (.ref b1)) (E0 : Exa Z h0 b0 "com/example/rank2/rank2/rerank/AdditiveTreesModel$Comparison") (E1 : Exa Z h0 b1 "com/example/rank2/rank2/rerank/AdditiveTreesModel$Comparison") (hne : b0 ≠ b1) :
    MetFree l x (head1 (Jvm.Cond.code x code maxLocals ret :: ws) room_1) (fun a U => a = #[(.int q1), (.int q2), (.int q3)] ∧ Z.Warmed39 U.vm ∧ U.heap = h0) (fun _ _ _ _ _ => True) (fun _ U o U' => ∃ v L, o = .returned v ∧ (fun v h L => v = some (.int (1 : Int32)) ∧ Fr n0 L) v U'.heap L ∧ FrameEnd U o U' L 0 0) := by
  refine enter (l := l) (Z := Z) (y := x) (bytes := code) (maxL := maxLocals) (ret := ret) (ws := ws) (rm := room_1) (as' := #[(.int q1), (.int q2), (.int q3)]) (h0 := h0) (Qv := (fun v h L => v = some (.int (1 : Int32)) ∧ Fr n0 L)) (kc := 0) (ks := 0) (by first | exact plainFor_of_name (by first | (simp [plainName, overriddenIn]; done) | decide +kernel) | decide +kernel) (Ls := #[.val (.int q1), .val (.int q2), .val (.int q3), .unset, .unset, .unset, .unset, .unset, .unset, .unset, .unset, .unset, .unset, .unset, .unset]) (fun m => by first | (simp [entryFrame, mkF, argsToLocals, Value.category, maxLocals]; done) | rfl) ?_
  intro p e s m below meth c s₁ hx hby hml hown hnm hret hlk hZ X0 e0
  have hown : s.vm.findClass "com/example/rank2/rank2/rerank/ComparisonGoesLeftPinLaw" = some m.cls := hown
  have hml : c.maxLocals = 15 := hml
  have N0 := Fr.nil n0
  refine Go.iloadN X0.here hx (Jvm.hb hby at_0) rfl (q := 1) rfl ?_
  refine Go.iconst X0.here hx (Jvm.hb hby at_1) (v := (1 : Int32)) rfl (q := 2) rfl ?_
  obtain ⟨u2, hu2⟩ : ∃ zq, q3 &&& (1 : Int32) = zq := ⟨_, rfl⟩
  refine Go.iand X0.here hx (Jvm.hb hby at_2) hu2 (q := 3) rfl ?_
  by_cases hc3 : u2 = (0 : Int32)
  · -- pc 3: u2 = (0 : Int32)
    refine Go.ifN X0.here hx (Jvm.hb hby at_3) ((if0 _ _).trans (teq hc3).2) (q := 6) rfl ?_
    refine Go.iconst X0.here hx (Jvm.hb hby at_6) (v := (1 : Int32)) rfl (q := 7) rfl ?_
    refine Go.goto X0.here hx (Jvm.hb hby at_7) (by decide) (q := 11) rfl ?_
    refine Go.istoreN X0.here hx (Jvm.hb hby at_11) (l2 := #[.val (.int q1), .val (.int q2), .val (.int q3), .val (.int (1 : Int32)), .unset, .unset, .unset, .unset, .unset, .unset, .unset, .unset, .unset, .unset, .unset]) rfl (q := 12) rfl ?_
    refine Go.iloadN X0.here hx (Jvm.hb hby at_12) rfl (q := 13) rfl ?_
    have hc13_103 : ¬ ((1 : Int32) = (0 : Int32)) := by decide
    refine Go.ifN X0.here hx (Jvm.hb hby at_13) ((if0 _ _).trans (feq hc13_103).1) (q := 16) rfl ?_
    refine Go.gets X0 hx hZ hown (word hw 0 rfl) e0 S0 (Jvm.hb hby at_16) (q := 19) rfl ?_
    intro T104 X104 e104
    refine Go.goto X104.here hx (Jvm.hb hby at_19) (by decide) (q := 25) rfl ?_
    refine Go.astore X104.here hx (Jvm.hb hby at_25) rfl (l2 := #[.val (.int q1), .val (.int q2), .val (.int q3), .val (.int (1 : Int32)), .val (.ref b0), .unset, .unset, .unset, .unset, .unset, .unset, .unset, .unset, .unset, .unset]) rfl (q := 27) rfl ?_
    refine Go.iloadN X104.here hx (Jvm.hb hby at_27) rfl (q := 28) rfl ?_
    obtain ⟨u28, hu28⟩ : ∃ zq, Int32.toInt64 q1 = zq := ⟨_, rfl⟩
    refine Go.i2l X104.here hx (Jvm.hb hby at_28) hu28 (q := 29) rfl ?_
    have hva := own_b32 q1 hu28
    refine Go.lstore X104.here hx (Jvm.hb hby at_29) (l2 := #[.val (.int q1), .val (.int q2), .val (.int q3), .val (.int (1 : Int32)), .val (.ref b0), .val (.long u28), .second, .unset, .unset, .unset, .unset, .unset, .unset, .unset, .unset]) rfl (q := 31) rfl ?_
    refine Go.iloadN X104.here hx (Jvm.hb hby at_31) rfl (q := 32) rfl ?_
    refine Go.iconst X104.here hx (Jvm.hb hby at_32) (v := (1 : Int32)) rfl (q := 33) rfl ?_
    obtain ⟨u33, hu33⟩ : ∃ zq, (Int32.toUInt32 q3 >>> Int32.toUInt32 ((1 : Int32) &&& 31)).toInt32 = zq := ⟨_, rfl⟩
    refine Go.iushr X104.here hx (Jvm.hb hby at_33) hu33 (q := 34) rfl ?_
    refine Go.iconst X104.here hx (Jvm.hb hby at_34) (v := (3 : Int32)) rfl (q := 35) rfl ?_
    obtain ⟨u35, hu35⟩ : ∃ zq, u33 &&& (3 : Int32) = zq := ⟨_, rfl⟩
    refine Go.iand X104.here hx (Jvm.hb hby at_35) hu35 (q := 36) rfl ?_
    refine Go.istore X104.here hx (Jvm.hb hby at_36) (l2 := #[.val (.int q1), .val (.int q2), .val (.int q3), .val (.int (1 : Int32)), .val (.ref b0), .val (.long u28), .second, .val (.int u35), .unset, .unset, .unset, .unset, .unset, .unset, .unset]) rfl (q := 38) rfl ?_
    refine Go.iload X104.here hx (Jvm.hb hby at_38) rfl (q := 40) rfl ?_
    have J76 : ∀ (tb : Int64), (-4294967296 ≤ tb.toInt ∧ tb.toInt ≤ 4294967296) → Go p e below (Ret s (fun v h L => v = some (.int (1 : Int32)) ∧ Fr n0 L) 0 0) (T104.setTop (mkF m 76 #[.val (.int q1), .val (.int q2), .val (.int q3), .val (.int (1 : Int32)), .val (.ref b0), .val (.long u28), .second, .val (.int u35), .unset, .unset, .unset, .unset, .unset, .unset, .unset] [(.long tb)])) := by
      intro tb hbb
      refine Go.lstore X104.here hx (Jvm.hb hby at_76) (l2 := #[.val (.int q1), .val (.int q2), .val (.int q3), .val (.int (1 : Int32)), .val (.ref b0), .val (.long u28), .second, .val (.int u35), .val (.long tb), .second, .unset, .unset, .unset, .unset, .unset]) rfl (q := 78) rfl ?_
      refine Go.iloadN X104.here hx (Jvm.hb hby at_78) rfl (q := 79) rfl ?_
      refine Go.bipush X104.here hx (Jvm.hb hby at_79) (v := (8 : Int32)) rfl (q := 81) rfl ?_
      obtain ⟨u81, hu81⟩ : ∃ zq, q3 &&& (8 : Int32) = zq := ⟨_, rfl⟩
      refine Go.iand X104.here hx (Jvm.hb hby at_81) hu81 (q := 82) rfl ?_
      have J101 : ∀ (vv : UInt64), (own_is vv u28) → Go p e below (Ret s (fun v h L => v = some (.int (1 : Int32)) ∧ Fr n0 L) 0 0) (T104.setTop (mkF m 101 #[.val (.int q1), .val (.int q2), .val (.int q3), .val (.int (1 : Int32)), .val (.ref b0), .val (.long u28), .second, .val (.int u35), .val (.long tb), .second, .unset, .unset, .unset, .unset, .unset] [(.double vv)])) := by
        intro vv hvv
        refine Go.dstore X104.here hx (Jvm.hb hby at_101) (l2 := #[.val (.int q1), .val (.int q2), .val (.int q3), .val (.int (1 : Int32)), .val (.ref b0), .val (.long u28), .second, .val (.int u35), .val (.long tb), .second, .val (.double vv), .second, .unset, .unset, .unset]) rfl (q := 103) rfl ?_
        refine Go.iloadN X104.here hx (Jvm.hb hby at_103) rfl (q := 104) rfl ?_
        refine Go.bipush X104.here hx (Jvm.hb hby at_104) (v := (16 : Int32)) rfl (q := 106) rfl ?_
        obtain ⟨u106, hu106⟩ : ∃ zq, q3 &&& (16 : Int32) = zq := ⟨_, rfl⟩
        refine Go.iand X104.here hx (Jvm.hb hby at_106) hu106 (q := 107) rfl ?_
        have J126 : ∀ (vt : UInt64), (own_is vt tb) → Go p e below (Ret s (fun v h L => v = some (.int (1 : Int32)) ∧ Fr n0 L) 0 0) (T104.setTop (mkF m 126 #[.val (.int q1), .val (.int q2), .val (.int q3), .val (.int (1 : Int32)), .val (.ref b0), .val (.long u28), .second, .val (.int u35), .val (.long tb), .second, .val (.double vv), .second, .unset, .unset, .unset] [(.double vt)])) := by
          intro vt hvt
          refine Go.dstore X104.here hx (Jvm.hb hby at_126) (l2 := #[.val (.int q1), .val (.int q2), .val (.int q3), .val (.int (1 : Int32)), .val (.ref b0), .val (.long u28), .second, .val (.int u35), .val (.long tb), .second, .val (.double vv), .second, .val (.double vt), .second, .unset]) rfl (q := 128) rfl ?_
          refine Go.iloadN X104.here hx (Jvm.hb hby at_128) rfl (q := 129) rfl ?_
          have hc129_106 : ¬ ((1 : Int32) = (0 : Int32)) := by decide
          refine Go.ifN X104.here hx (Jvm.hb hby at_129) ((if0 _ _).trans (feq hc129_106).1) (q := 132) rfl ?_
          refine Go.lload X104.here hx (Jvm.hb hby at_132) rfl (q := 134) rfl ?_
          refine Go.lload X104.here hx (Jvm.hb hby at_134) rfl (q := 136) rfl ?_
          obtain ⟨u136, hu136⟩ : ∃ zq, lcmpW u28 tb = zq := ⟨_, rfl⟩
          refine Go.lcmp X104.here hx (Jvm.hb hby at_136) hu136 (q := 137) rfl ?_
          by_cases hc137 : tb < u28
          · -- pc 137: tb < u28
            refine Go.ifY X104.here hx (Jvm.hb hby at_137) ((if0 _ _).trans (tlt (hu136 ▸ (lw_gt _ _).mpr hc137)).2.2.1) (by decide) (q := 144) rfl ?_
            refine Go.iconst X104.here hx (Jvm.hb hby at_144) (v := (0 : Int32)) rfl (q := 145) rfl ?_
            refine Go.goto X104.here hx (Jvm.hb hby at_145) (by decide) (q := 161) rfl ?_
            refine Go.istore X104.here hx (Jvm.hb hby at_161) (l2 := #[.val (.int q1), .val (.int q2), .val (.int q3), .val (.int (1 : Int32)), .val (.ref b0), .val (.long u28), .second, .val (.int u35), .val (.long tb), .second, .val (.double vv), .second, .val (.double vt), .second, .val (.int (0 : Int32))]) rfl (q := 163) rfl ?_
            refine Go.aload X104.here hx (Jvm.hb hby at_163) rfl rfl (q := 165) rfl ?_
            refine Go.dload X104.here hx (Jvm.hb hby at_165) rfl (q := 167) rfl ?_
            refine Go.dload X104.here hx (Jvm.hb hby at_167) rfl (q := 169) rfl ?_
            refine Go.virtual X104 hx hZ (y := (⟨"com/example/rank2/rank2/rerank/AdditiveTreesModel$Comparison", "goesLeft", "(DD)Z"⟩ : MethodName)) hown (word hw 3 rfl) (word hw 4 rfl) (word hw 6 rfl) (word hw 5 rfl) (word hw 7 rfl) (word hw 1 rfl) (by decide) (rm_left l Z a0 hw b0 vv vt b0 h0 n0 Z0 S0) e104 E0  (argsL := [(.double vv), (.double vt)]) (rest := []) (W := 0) (Jvm.hb hby at_169) rfl rfl (lenOf (pd0) rfl) (by rw [hml]; rfl) (Nat.le_of_eq rfl) (by decide) (by decide) (by decide) (by decide) (q := 172) rfl ?_
            intro T108 L108 w108 X108 hQ108
            obtain ⟨rfl, M108, q108⟩ := hQ108
            have N108 := Fr.app N0 M108
            show Go p e below _ (T108.setTop (mkF m 172 #[.val (.int q1), .val (.int q2), .val (.int q3), .val (.int (1 : Int32)), .val (.ref b0), .val (.long u28), .second, .val (.int u35), .val (.long tb), .second, .val (.double vv), .second, .val (.double vt), .second, .val (.int (0 : Int32))] [(.int (own_left (b0 = b0) (cmpValue (FP.dcmp vv vt) .g)))]))
            obtain ⟨res, hres⟩ : ∃ zq, (own_left (b0 = b0) (cmpValue (FP.dcmp vv vt) .g)) = zq := ⟨_, rfl⟩
            rw [hres]
            refine Go.iload X108.here hx (Jvm.hb hby at_172) rfl (q := 174) rfl ?_
            have hc174 : res = (0 : Int32) := by rw [← hres]; exact own_left_t rfl ((own_most hvv hvt).1 hc137)
            refine Go.icmpN X108.here hx (Jvm.hb hby at_174) (teq hc174).2 (q := 177) rfl ?_
            refine Go.iconst X108.here hx (Jvm.hb hby at_177) (v := (1 : Int32)) rfl (q := 178) rfl ?_
            refine Go.goto X108.here hx (Jvm.hb hby at_178) (by decide) (q := 182) rfl ?_
            refine Go.retZ X108 hx hret hlk (Jvm.hb hby at_182) (Or.inr rfl) (by decide) (by decide) ?_
            exact ⟨rfl, N108⟩
          · -- pc 137: not tb < u28
            refine Go.ifN X104.here hx (Jvm.hb hby at_137) ((if0 _ _).trans (flt (fun z => hc137 ((lw_gt _ _).mp (hu136.symm ▸ z)))).2.2.1) (q := 140) rfl ?_
            refine Go.iconst X104.here hx (Jvm.hb hby at_140) (v := (1 : Int32)) rfl (q := 141) rfl ?_
            refine Go.goto X104.here hx (Jvm.hb hby at_141) (by decide) (q := 161) rfl ?_
            refine Go.istore X104.here hx (Jvm.hb hby at_161) (l2 := #[.val (.int q1), .val (.int q2), .val (.int q3), .val (.int (1 : Int32)), .val (.ref b0), .val (.long u28), .second, .val (.int u35), .val (.long tb), .second, .val (.double vv), .second, .val (.double vt), .second, .val (.int (1 : Int32))]) rfl (q := 163) rfl ?_
            refine Go.aload X104.here hx (Jvm.hb hby at_163) rfl rfl (q := 165) rfl ?_
            refine Go.dload X104.here hx (Jvm.hb hby at_165) rfl (q := 167) rfl ?_
            refine Go.dload X104.here hx (Jvm.hb hby at_167) rfl (q := 169) rfl ?_
            refine Go.virtual X104 hx hZ (y := (⟨"com/example/rank2/rank2/rerank/AdditiveTreesModel$Comparison", "goesLeft", "(DD)Z"⟩ : MethodName)) hown (word hw 3 rfl) (word hw 4 rfl) (word hw 6 rfl) (word hw 5 rfl) (word hw 7 rfl) (word hw 1 rfl) (by decide) (rm_left l Z a0 hw b0 vv vt b0 h0 n0 Z0 S0) e104 E0  (argsL := [(.double vv), (.double vt)]) (rest := []) (W := 0) (Jvm.hb hby at_169) rfl rfl (lenOf (pd0) rfl) (by rw [hml]; rfl) (Nat.le_of_eq rfl) (by decide) (by decide) (by decide) (by decide) (q := 172) rfl ?_
            intro T110 L110 w110 X110 hQ110
            obtain ⟨rfl, M110, q110⟩ := hQ110
            have N110 := Fr.app N0 M110
            show Go p e below _ (T110.setTop (mkF m 172 #[.val (.int q1), .val (.int q2), .val (.int q3), .val (.int (1 : Int32)), .val (.ref b0), .val (.long u28), .second, .val (.int u35), .val (.long tb), .second, .val (.double vv), .second, .val (.double vt), .second, .val (.int (1 : Int32))] [(.int (own_left (b0 = b0) (cmpValue (FP.dcmp vv vt) .g)))]))
            obtain ⟨res, hres⟩ : ∃ zq, (own_left (b0 = b0) (cmpValue (FP.dcmp vv vt) .g)) = zq := ⟨_, rfl⟩
            rw [hres]
            refine Go.iload X110.here hx (Jvm.hb hby at_172) rfl (q := 174) rfl ?_
            have hc174 : res = (1 : Int32) := by rw [← hres]; exact own_left_t rfl ((own_most hvv hvt).2 hc137)
            refine Go.icmpN X110.here hx (Jvm.hb hby at_174) (teq hc174).2 (q := 177) rfl ?_
            refine Go.iconst X110.here hx (Jvm.hb hby at_177) (v := (1 : Int32)) rfl (q := 178) rfl ?_
            refine Go.goto X110.here hx (Jvm.hb hby at_178) (by decide) (q := 182) rfl ?_
            refine Go.retZ X110 hx hret hlk (Jvm.hb hby at_182) (Or.inr rfl) (by decide) (by decide) ?_
            exact ⟨rfl, N110⟩
        by_cases hc107 : u106 = (0 : Int32)
        · -- pc 107: u106 = (0 : Int32)
          refine Go.ifY X104.here hx (Jvm.hb hby at_107) ((if0 _ _).trans (teq hc107).1) (by decide) (q := 123) rfl ?_
          refine Go.lload X104.here hx (Jvm.hb hby at_123) rfl (q := 125) rfl ?_
          obtain ⟨u125, hu125⟩ : ∃ zq, FP.l2d tb = zq := ⟨_, rfl⟩
          refine Go.l2d X104.here hx (Jvm.hb hby at_125) hu125 (q := 126) rfl ?_
          exact J126 u125 (own_is_l2d hu125 hbb)
        · -- pc 107: not u106 = (0 : Int32)
          refine Go.ifN X104.here hx (Jvm.hb hby at_107) ((if0 _ _).trans (feq hc107).1) (q := 110) rfl ?_
          refine Go.lload X104.here hx (Jvm.hb hby at_110) rfl (q := 112) rfl ?_
          refine Go.lconst X104.here hx (Jvm.hb hby at_112) (v := (0 : Int64)) rfl (q := 113) rfl ?_
          obtain ⟨u113, hu113⟩ : ∃ zq, lcmpW tb (0 : Int64) = zq := ⟨_, rfl⟩
          refine Go.lcmp X104.here hx (Jvm.hb hby at_113) hu113 (q := 114) rfl ?_
          by_cases hc114 : tb = (0 : Int64)
          · -- pc 114: tb = (0 : Int64)
            refine Go.ifN X104.here hx (Jvm.hb hby at_114) ((if0 _ _).trans (teq (hu113 ▸ (lw_eq _ _).mpr hc114)).2) (q := 117) rfl ?_
            refine Go.ldc2D X104 hx hown (mvT hZ (word hw 11 rfl)) (Jvm.hb hby at_117) (q := 120) rfl ?_
            refine Go.goto X104.here hx (Jvm.hb hby at_120) (by decide) (q := 126) rfl ?_
            exact J126 (9223372036854775808 : UInt64) (own_is_neg0 hc114)
          · -- pc 114: not tb = (0 : Int64)
            refine Go.ifY X104.here hx (Jvm.hb hby at_114) ((if0 _ _).trans (feq (fun z => hc114 ((lw_eq _ _).mp (hu113.symm ▸ z)))).2) (by decide) (q := 123) rfl ?_
            refine Go.lload X104.here hx (Jvm.hb hby at_123) rfl (q := 125) rfl ?_
            obtain ⟨u125, hu125⟩ : ∃ zq, FP.l2d tb = zq := ⟨_, rfl⟩
            refine Go.l2d X104.here hx (Jvm.hb hby at_125) hu125 (q := 126) rfl ?_
            exact J126 u125 (own_is_l2d hu125 hbb)
      by_cases hc82 : u81 = (0 : Int32)
      · -- pc 82: u81 = (0 : Int32)
        refine Go.ifY X104.here hx (Jvm.hb hby at_82) ((if0 _ _).trans (teq hc82).1) (by decide) (q := 98) rfl ?_
        refine Go.lload X104.here hx (Jvm.hb hby at_98) rfl (q := 100) rfl ?_
        obtain ⟨u100, hu100⟩ : ∃ zq, FP.l2d u28 = zq := ⟨_, rfl⟩
        refine Go.l2d X104.here hx (Jvm.hb hby at_100) hu100 (q := 101) rfl ?_
        exact J101 u100 (own_is_l2d hu100 (own_wide hva))
      · -- pc 82: not u81 = (0 : Int32)
        refine Go.ifN X104.here hx (Jvm.hb hby at_82) ((if0 _ _).trans (feq hc82).1) (q := 85) rfl ?_
        refine Go.lload X104.here hx (Jvm.hb hby at_85) rfl (q := 87) rfl ?_
        refine Go.lconst X104.here hx (Jvm.hb hby at_87) (v := (0 : Int64)) rfl (q := 88) rfl ?_
        obtain ⟨u88, hu88⟩ : ∃ zq, lcmpW u28 (0 : Int64) = zq := ⟨_, rfl⟩
        refine Go.lcmp X104.here hx (Jvm.hb hby at_88) hu88 (q := 89) rfl ?_
        by_cases hc89 : u28 = (0 : Int64)
        · -- pc 89: u28 = (0 : Int64)
          refine Go.ifN X104.here hx (Jvm.hb hby at_89) ((if0 _ _).trans (teq (hu88 ▸ (lw_eq _ _).mpr hc89)).2) (q := 92) rfl ?_
          refine Go.ldc2D X104 hx hown (mvT hZ (word hw 11 rfl)) (Jvm.hb hby at_92) (q := 95) rfl ?_
          refine Go.goto X104.here hx (Jvm.hb hby at_95) (by decide) (q := 101) rfl ?_
          exact J101 (9223372036854775808 : UInt64) (own_is_neg0 hc89)
        · -- pc 89: not u28 = (0 : Int64)
          refine Go.ifY X104.here hx (Jvm.hb hby at_89) ((if0 _ _).trans (feq (fun z => hc89 ((lw_eq _ _).mp (hu88.symm ▸ z)))).2) (by decide) (q := 98) rfl ?_
          refine Go.lload X104.here hx (Jvm.hb hby at_98) rfl (q := 100) rfl ?_
          obtain ⟨u100, hu100⟩ : ∃ zq, FP.l2d u28 = zq := ⟨_, rfl⟩
          refine Go.l2d X104.here hx (Jvm.hb hby at_100) hu100 (q := 101) rfl ?_
          exact J101 u100 (own_is_l2d hu100 (own_wide hva))
    by_cases hc40 : u35 = (0 : Int32)
    · -- pc 40: u35 = (0 : Int32)
      refine Go.ifN X104.here hx (Jvm.hb hby at_40) ((if0 _ _).trans (teq hc40).2) (q := 43) rfl ?_
      refine Go.iloadN X104.here hx (Jvm.hb hby at_43) rfl (q := 44) rfl ?_
      obtain ⟨u44, hu44⟩ : ∃ zq, Int32.toInt64 q2 = zq := ⟨_, rfl⟩
      refine Go.i2l X104.here hx (Jvm.hb hby at_44) hu44 (q := 45) rfl ?_
      refine Go.goto X104.here hx (Jvm.hb hby at_45) (by decide) (q := 76) rfl ?_
      exact J76 u44 (own_wide (own_b32 q2 hu44))
    · -- pc 40: not u35 = (0 : Int32)
      refine Go.ifY X104.here hx (Jvm.hb hby at_40) ((if0 _ _).trans (feq hc40).2) (by decide) (q := 48) rfl ?_
      refine Go.iload X104.here hx (Jvm.hb hby at_48) rfl (q := 50) rfl ?_
      refine Go.iconst X104.here hx (Jvm.hb hby at_50) (v := (1 : Int32)) rfl (q := 51) rfl ?_
      by_cases hc51 : u35 = (1 : Int32)
      · -- pc 51: u35 = (1 : Int32)
        refine Go.icmpN X104.here hx (Jvm.hb hby at_51) (teq hc51).2 (q := 54) rfl ?_
        refine Go.lload X104.here hx (Jvm.hb hby at_54) rfl (q := 56) rfl ?_
        refine Go.goto X104.here hx (Jvm.hb hby at_56) (by decide) (q := 76) rfl ?_
        exact J76 u28 (own_wide hva)
      · -- pc 51: not u35 = (1 : Int32)
        refine Go.icmpY X104.here hx (Jvm.hb hby at_51) (feq hc51).2 (by decide) (q := 59) rfl ?_
        refine Go.iload X104.here hx (Jvm.hb hby at_59) rfl (q := 61) rfl ?_
        refine Go.iconst X104.here hx (Jvm.hb hby at_61) (v := (2 : Int32)) rfl (q := 62) rfl ?_
        by_cases hc62 : u35 = (2 : Int32)
        · -- pc 62: u35 = (2 : Int32)
          refine Go.icmpN X104.here hx (Jvm.hb hby at_62) (teq hc62).2 (q := 65) rfl ?_
          refine Go.lload X104.here hx (Jvm.hb hby at_65) rfl (q := 67) rfl ?_
          refine Go.lconst X104.here hx (Jvm.hb hby at_67) (v := (1 : Int64)) rfl (q := 68) rfl ?_
          obtain ⟨u68, hu68⟩ : ∃ zq, u28 + (1 : Int64) = zq := ⟨_, rfl⟩
          refine Go.ladd X104.here hx (Jvm.hb hby at_68) hu68 (q := 69) rfl ?_
          refine Go.goto X104.here hx (Jvm.hb hby at_69) (by decide) (q := 76) rfl ?_
          exact J76 u68 (own_succ hva hu68)
        · -- pc 62: not u35 = (2 : Int32)
          refine Go.icmpY X104.here hx (Jvm.hb hby at_62) (feq hc62).2 (by decide) (q := 72) rfl ?_
          refine Go.lload X104.here hx (Jvm.hb hby at_72) rfl (q := 74) rfl ?_
          refine Go.lconst X104.here hx (Jvm.hb hby at_74) (v := (1 : Int64)) rfl (q := 75) rfl ?_
          obtain ⟨u75, hu75⟩ : ∃ zq, u28 - (1 : Int64) = zq := ⟨_, rfl⟩
          refine Go.lsub X104.here hx (Jvm.hb hby at_75) hu75 (q := 76) rfl ?_
          exact J76 u75 (own_pred hva hu75)
  · -- pc 3: not u2 = (0 : Int32)
    refine Go.ifY X0.here hx (Jvm.hb hby at_3) ((if0 _ _).trans (feq hc3).2) (by decide) (q := 10) rfl ?_
    refine Go.iconst X0.here hx (Jvm.hb hby at_10) (v := (0 : Int32)) rfl (q := 11) rfl ?_
    refine Go.istoreN X0.here hx (Jvm.hb hby at_11) (l2 := #[.val (.int q1), .val (.int q2), .val (.int q3), .val (.int (0 : Int32)), .unset, .unset, .unset, .unset, .unset, .unset, .unset, .unset, .unset, .unset, .unset]) rfl (q := 12) rfl ?_
    refine Go.iloadN X0.here hx (Jvm.hb hby at_12) rfl (q := 13) rfl ?_
    have hc13_120 : (0 : Int32) = (0 : Int32) := by decide
    refine Go.ifY X0.here hx (Jvm.hb hby at_13) ((if0 _ _).trans (teq hc13_120).1) (by decide) (q := 22) rfl ?_
    refine Go.gets X0 hx hZ hown (word hw 9 rfl) e0 S1 (Jvm.hb hby at_22) (q := 25) rfl ?_
    intro T121 X121 e121
    refine Go.astore X121.here hx (Jvm.hb hby at_25) rfl (l2 := #[.val (.int q1), .val (.int q2), .val (.int q3), .val (.int (0 : Int32)), .val (.ref b1), .unset, .unset, .unset, .unset, .unset, .unset, .unset, .unset, .unset, .unset]) rfl (q := 27) rfl ?_
    refine Go.iloadN X121.here hx (Jvm.hb hby at_27) rfl (q := 28) rfl ?_
    obtain ⟨u28, hu28⟩ : ∃ zq, Int32.toInt64 q1 = zq := ⟨_, rfl⟩
    refine Go.i2l X121.here hx (Jvm.hb hby at_28) hu28 (q := 29) rfl ?_
    have hva := own_b32 q1 hu28
    refine Go.lstore X121.here hx (Jvm.hb hby at_29) (l2 := #[.val (.int q1), .val (.int q2), .val (.int q3), .val (.int (0 : Int32)), .val (.ref b1), .val (.long u28), .second, .unset, .unset, .unset, .unset, .unset, .unset, .unset, .unset]) rfl (q := 31) rfl ?_
    refine Go.iloadN X121.here hx (Jvm.hb hby at_31) rfl (q := 32) rfl ?_
    refine Go.iconst X121.here hx (Jvm.hb hby at_32) (v := (1 : Int32)) rfl (q := 33) rfl ?_
    obtain ⟨u33, hu33⟩ : ∃ zq, (Int32.toUInt32 q3 >>> Int32.toUInt32 ((1 : Int32) &&& 31)).toInt32 = zq := ⟨_, rfl⟩
    refine Go.iushr X121.here hx (Jvm.hb hby at_33) hu33 (q := 34) rfl ?_
    refine Go.iconst X121.here hx (Jvm.hb hby at_34) (v := (3 : Int32)) rfl (q := 35) rfl ?_
    obtain ⟨u35, hu35⟩ : ∃ zq, u33 &&& (3 : Int32) = zq := ⟨_, rfl⟩
    refine Go.iand X121.here hx (Jvm.hb hby at_35) hu35 (q := 36) rfl ?_
    refine Go.istore X121.here hx (Jvm.hb hby at_36) (l2 := #[.val (.int q1), .val (.int q2), .val (.int q3), .val (.int (0 : Int32)), .val (.ref b1), .val (.long u28), .second, .val (.int u35), .unset, .unset, .unset, .unset, .unset, .unset, .unset]) rfl (q := 38) rfl ?_
    refine Go.iload X121.here hx (Jvm.hb hby at_38) rfl (q := 40) rfl ?_
    have J76 : ∀ (tb : Int64), (-4294967296 ≤ tb.toInt ∧ tb.toInt ≤ 4294967296) → Go p e below (Ret s (fun v h L => v = some (.int (1 : Int32)) ∧ Fr n0 L) 0 0) (T121.setTop (mkF m 76 #[.val (.int q1), .val (.int q2), .val (.int q3), .val (.int (0 : Int32)), .val (.ref b1), .val (.long u28), .second, .val (.int u35), .unset, .unset, .unset, .unset, .unset, .unset, .unset] [(.long tb)])) := by
      intro tb hbb
      refine Go.lstore X121.here hx (Jvm.hb hby at_76) (l2 := #[.val (.int q1), .val (.int q2), .val (.int q3), .val (.int (0 : Int32)), .val (.ref b1), .val (.long u28), .second, .val (.int u35), .val (.long tb), .second, .unset, .unset, .unset, .unset, .unset]) rfl (q := 78) rfl ?_
      refine Go.iloadN X121.here hx (Jvm.hb hby at_78) rfl (q := 79) rfl ?_
      refine Go.bipush X121.here hx (Jvm.hb hby at_79) (v := (8 : Int32)) rfl (q := 81) rfl ?_
      obtain ⟨u81, hu81⟩ : ∃ zq, q3 &&& (8 : Int32) = zq := ⟨_, rfl⟩
      refine Go.iand X121.here hx (Jvm.hb hby at_81) hu81 (q := 82) rfl ?_
      have J101 : ∀ (vv : UInt64), (own_is vv u28) → Go p e below (Ret s (fun v h L => v = some (.int (1 : Int32)) ∧ Fr n0 L) 0 0) (T121.setTop (mkF m 101 #[.val (.int q1), .val (.int q2), .val (.int q3), .val (.int (0 : Int32)), .val (.ref b1), .val (.long u28), .second, .val (.int u35), .val (.long tb), .second, .unset, .unset, .unset, .unset, .unset] [(.double vv)])) := by
        intro vv hvv
        refine Go.dstore X121.here hx (Jvm.hb hby at_101) (l2 := #[.val (.int q1), .val (.int q2), .val (.int q3), .val (.int (0 : Int32)), .val (.ref b1), .val (.long u28), .second, .val (.int u35), .val (.long tb), .second, .val (.double vv), .second, .unset, .unset, .unset]) rfl (q := 103) rfl ?_
        refine Go.iloadN X121.here hx (Jvm.hb hby at_103) rfl (q := 104) rfl ?_
        refine Go.bipush X121.here hx (Jvm.hb hby at_104) (v := (16 : Int32)) rfl (q := 106) rfl ?_
        obtain ⟨u106, hu106⟩ : ∃ zq, q3 &&& (16 : Int32) = zq := ⟨_, rfl⟩
        refine Go.iand X121.here hx (Jvm.hb hby at_106) hu106 (q := 107) rfl ?_
        have J126 : ∀ (vt : UInt64), (own_is vt tb) → Go p e below (Ret s (fun v h L => v = some (.int (1 : Int32)) ∧ Fr n0 L) 0 0) (T121.setTop (mkF m 126 #[.val (.int q1), .val (.int q2), .val (.int q3), .val (.int (0 : Int32)), .val (.ref b1), .val (.long u28), .second, .val (.int u35), .val (.long tb), .second, .val (.double vv), .second, .unset, .unset, .unset] [(.double vt)])) := by
          intro vt hvt
          refine Go.dstore X121.here hx (Jvm.hb hby at_126) (l2 := #[.val (.int q1), .val (.int q2), .val (.int q3), .val (.int (0 : Int32)), .val (.ref b1), .val (.long u28), .second, .val (.int u35), .val (.long tb), .second, .val (.double vv), .second, .val (.double vt), .second, .unset]) rfl (q := 128) rfl ?_
          refine Go.iloadN X121.here hx (Jvm.hb hby at_128) rfl (q := 129) rfl ?_
          have hc129_123 : (0 : Int32) = (0 : Int32) := by decide
          refine Go.ifY X121.here hx (Jvm.hb hby at_129) ((if0 _ _).trans (teq hc129_123).1) (by decide) (q := 148) rfl ?_
          refine Go.lload X121.here hx (Jvm.hb hby at_148) rfl (q := 150) rfl ?_
          refine Go.lload X121.here hx (Jvm.hb hby at_150) rfl (q := 152) rfl ?_
          obtain ⟨u152, hu152⟩ : ∃ zq, lcmpW u28 tb = zq := ⟨_, rfl⟩
          refine Go.lcmp X121.here hx (Jvm.hb hby at_152) hu152 (q := 153) rfl ?_
          by_cases hc153 : u28 < tb
          · -- pc 153: u28 < tb
            refine Go.ifN X121.here hx (Jvm.hb hby at_153) ((if0 _ _).trans (tlt (hu152 ▸ (lw_lt _ _).mpr hc153)).2.1) (q := 156) rfl ?_
            refine Go.iconst X121.here hx (Jvm.hb hby at_156) (v := (1 : Int32)) rfl (q := 157) rfl ?_
            refine Go.goto X121.here hx (Jvm.hb hby at_157) (by decide) (q := 161) rfl ?_
            refine Go.istore X121.here hx (Jvm.hb hby at_161) (l2 := #[.val (.int q1), .val (.int q2), .val (.int q3), .val (.int (0 : Int32)), .val (.ref b1), .val (.long u28), .second, .val (.int u35), .val (.long tb), .second, .val (.double vv), .second, .val (.double vt), .second, .val (.int (1 : Int32))]) rfl (q := 163) rfl ?_
            refine Go.aload X121.here hx (Jvm.hb hby at_163) rfl rfl (q := 165) rfl ?_
            refine Go.dload X121.here hx (Jvm.hb hby at_165) rfl (q := 167) rfl ?_
            refine Go.dload X121.here hx (Jvm.hb hby at_167) rfl (q := 169) rfl ?_
            refine Go.virtual X121 hx hZ (y := (⟨"com/example/rank2/rank2/rerank/AdditiveTreesModel$Comparison", "goesLeft", "(DD)Z"⟩ : MethodName)) hown (word hw 3 rfl) (word hw 4 rfl) (word hw 6 rfl) (word hw 5 rfl) (word hw 7 rfl) (word hw 1 rfl) (by decide) (rm_left l Z a0 hw b1 vv vt b0 h0 n0 Z0 S0) e121 E1  (argsL := [(.double vv), (.double vt)]) (rest := []) (W := 0) (Jvm.hb hby at_169) rfl rfl (lenOf (pd0) rfl) (by rw [hml]; rfl) (Nat.le_of_eq rfl) (by decide) (by decide) (by decide) (by decide) (q := 172) rfl ?_
            intro T125 L125 w125 X125 hQ125
            obtain ⟨rfl, M125, q125⟩ := hQ125
            have N125 := Fr.app N0 M125
            show Go p e below _ (T125.setTop (mkF m 172 #[.val (.int q1), .val (.int q2), .val (.int q3), .val (.int (0 : Int32)), .val (.ref b1), .val (.long u28), .second, .val (.int u35), .val (.long tb), .second, .val (.double vv), .second, .val (.double vt), .second, .val (.int (1 : Int32))] [(.int (own_left (b1 = b0) (cmpValue (FP.dcmp vv vt) .g)))]))
            obtain ⟨res, hres⟩ : ∃ zq, (own_left (b1 = b0) (cmpValue (FP.dcmp vv vt) .g)) = zq := ⟨_, rfl⟩
            rw [hres]
            refine Go.iload X125.here hx (Jvm.hb hby at_172) rfl (q := 174) rfl ?_
            have hc174 : res = (1 : Int32) := by rw [← hres]; exact own_left_f hne.symm ((own_below hvv hvt).1 hc153)
            refine Go.icmpN X125.here hx (Jvm.hb hby at_174) (teq hc174).2 (q := 177) rfl ?_
            refine Go.iconst X125.here hx (Jvm.hb hby at_177) (v := (1 : Int32)) rfl (q := 178) rfl ?_
            refine Go.goto X125.here hx (Jvm.hb hby at_178) (by decide) (q := 182) rfl ?_
            refine Go.retZ X125 hx hret hlk (Jvm.hb hby at_182) (Or.inr rfl) (by decide) (by decide) ?_
            exact ⟨rfl, N125⟩
          · -- pc 153: not u28 < tb
            refine Go.ifY X121.here hx (Jvm.hb hby at_153) ((if0 _ _).trans (flt (fun z => hc153 ((lw_lt _ _).mp (hu152.symm ▸ z)))).2.1) (by decide) (q := 160) rfl ?_
            refine Go.iconst X121.here hx (Jvm.hb hby at_160) (v := (0 : Int32)) rfl (q := 161) rfl ?_
            refine Go.istore X121.here hx (Jvm.hb hby at_161) (l2 := #[.val (.int q1), .val (.int q2), .val (.int q3), .val (.int (0 : Int32)), .val (.ref b1), .val (.long u28), .second, .val (.int u35), .val (.long tb), .second, .val (.double vv), .second, .val (.double vt), .second, .val (.int (0 : Int32))]) rfl (q := 163) rfl ?_
            refine Go.aload X121.here hx (Jvm.hb hby at_163) rfl rfl (q := 165) rfl ?_
            refine Go.dload X121.here hx (Jvm.hb hby at_165) rfl (q := 167) rfl ?_
            refine Go.dload X121.here hx (Jvm.hb hby at_167) rfl (q := 169) rfl ?_
            refine Go.virtual X121 hx hZ (y := (⟨"com/example/rank2/rank2/rerank/AdditiveTreesModel$Comparison", "goesLeft", "(DD)Z"⟩ : MethodName)) hown (word hw 3 rfl) (word hw 4 rfl) (word hw 6 rfl) (word hw 5 rfl) (word hw 7 rfl) (word hw 1 rfl) (by decide) (rm_left l Z a0 hw b1 vv vt b0 h0 n0 Z0 S0) e121 E1  (argsL := [(.double vv), (.double vt)]) (rest := []) (W := 0) (Jvm.hb hby at_169) rfl rfl (lenOf (pd0) rfl) (by rw [hml]; rfl) (Nat.le_of_eq rfl) (by decide) (by decide) (by decide) (by decide) (q := 172) rfl ?_
            intro T127 L127 w127 X127 hQ127
            obtain ⟨rfl, M127, q127⟩ := hQ127
            have N127 := Fr.app N0 M127
            show Go p e below _ (T127.setTop (mkF m 172 #[.val (.int q1), .val (.int q2), .val (.int q3), .val (.int (0 : Int32)), .val (.ref b1), .val (.long u28), .second, .val (.int u35), .val (.long tb), .second, .val (.double vv), .second, .val (.double vt), .second, .val (.int (0 : Int32))] [(.int (own_left (b1 = b0) (cmpValue (FP.dcmp vv vt) .g)))]))
            obtain ⟨res, hres⟩ : ∃ zq, (own_left (b1 = b0) (cmpValue (FP.dcmp vv vt) .g)) = zq := ⟨_, rfl⟩
            rw [hres]
            refine Go.iload X127.here hx (Jvm.hb hby at_172) rfl (q := 174) rfl ?_
            have hc174 : res = (0 : Int32) := by rw [← hres]; exact own_left_f hne.symm ((own_below hvv hvt).2 hc153)
            refine Go.icmpN X127.here hx (Jvm.hb hby at_174) (teq hc174).2 (q := 177) rfl ?_
            refine Go.iconst X127.here hx (Jvm.hb hby at_177) (v := (1 : Int32)) rfl (q := 178) rfl ?_
            refine Go.goto X127.here hx (Jvm.hb hby at_178) (by decide) (q := 182) rfl ?_
            refine Go.retZ X127 hx hret hlk (Jvm.hb hby at_182) (Or.inr rfl) (by decide) (by decide) ?_
            exact ⟨rfl, N127⟩
        by_cases hc107 : u106 = (0 : Int32)
        · -- pc 107: u106 = (0 : Int32)
          refine Go.ifY X121.here hx (Jvm.hb hby at_107) ((if0 _ _).trans (teq hc107).1) (by decide) (q := 123) rfl ?_
          refine Go.lload X121.here hx (Jvm.hb hby at_123) rfl (q := 125) rfl ?_
          obtain ⟨u125, hu125⟩ : ∃ zq, FP.l2d tb = zq := ⟨_, rfl⟩
          refine Go.l2d X121.here hx (Jvm.hb hby at_125) hu125 (q := 126) rfl ?_
          exact J126 u125 (own_is_l2d hu125 hbb)
        · -- pc 107: not u106 = (0 : Int32)
          refine Go.ifN X121.here hx (Jvm.hb hby at_107) ((if0 _ _).trans (feq hc107).1) (q := 110) rfl ?_
          refine Go.lload X121.here hx (Jvm.hb hby at_110) rfl (q := 112) rfl ?_
          refine Go.lconst X121.here hx (Jvm.hb hby at_112) (v := (0 : Int64)) rfl (q := 113) rfl ?_
          obtain ⟨u113, hu113⟩ : ∃ zq, lcmpW tb (0 : Int64) = zq := ⟨_, rfl⟩
          refine Go.lcmp X121.here hx (Jvm.hb hby at_113) hu113 (q := 114) rfl ?_
          by_cases hc114 : tb = (0 : Int64)
          · -- pc 114: tb = (0 : Int64)
            refine Go.ifN X121.here hx (Jvm.hb hby at_114) ((if0 _ _).trans (teq (hu113 ▸ (lw_eq _ _).mpr hc114)).2) (q := 117) rfl ?_
            refine Go.ldc2D X121 hx hown (mvT hZ (word hw 11 rfl)) (Jvm.hb hby at_117) (q := 120) rfl ?_
            refine Go.goto X121.here hx (Jvm.hb hby at_120) (by decide) (q := 126) rfl ?_
            exact J126 (9223372036854775808 : UInt64) (own_is_neg0 hc114)
          · -- pc 114: not tb = (0 : Int64)
            refine Go.ifY X121.here hx (Jvm.hb hby at_114) ((if0 _ _).trans (feq (fun z => hc114 ((lw_eq _ _).mp (hu113.symm ▸ z)))).2) (by decide) (q := 123) rfl ?_
            refine Go.lload X121.here hx (Jvm.hb hby at_123) rfl (q := 125) rfl ?_
            obtain ⟨u125, hu125⟩ : ∃ zq, FP.l2d tb = zq := ⟨_, rfl⟩
            refine Go.l2d X121.here hx (Jvm.hb hby at_125) hu125 (q := 126) rfl ?_
            exact J126 u125 (own_is_l2d hu125 hbb)
      by_cases hc82 : u81 = (0 : Int32)
      · -- pc 82: u81 = (0 : Int32)
        refine Go.ifY X121.here hx (Jvm.hb hby at_82) ((if0 _ _).trans (teq hc82).1) (by decide) (q := 98) rfl ?_
        refine Go.lload X121.here hx (Jvm.hb hby at_98) rfl (q := 100) rfl ?_
        obtain ⟨u100, hu100⟩ : ∃ zq, FP.l2d u28 = zq := ⟨_, rfl⟩
        refine Go.l2d X121.here hx (Jvm.hb hby at_100) hu100 (q := 101) rfl ?_
        exact J101 u100 (own_is_l2d hu100 (own_wide hva))
      · -- pc 82: not u81 = (0 : Int32)
        refine Go.ifN X121.here hx (Jvm.hb hby at_82) ((if0 _ _).trans (feq hc82).1) (q := 85) rfl ?_
        refine Go.lload X121.here hx (Jvm.hb hby at_85) rfl (q := 87) rfl ?_
        refine Go.lconst X121.here hx (Jvm.hb hby at_87) (v := (0 : Int64)) rfl (q := 88) rfl ?_
        obtain ⟨u88, hu88⟩ : ∃ zq, lcmpW u28 (0 : Int64) = zq := ⟨_, rfl⟩
        refine Go.lcmp X121.here hx (Jvm.hb hby at_88) hu88 (q := 89) rfl ?_
        by_cases hc89 : u28 = (0 : Int64)
        · -- pc 89: u28 = (0 : Int64)
          refine Go.ifN X121.here hx (Jvm.hb hby at_89) ((if0 _ _).trans (teq (hu88 ▸ (lw_eq _ _).mpr hc89)).2) (q := 92) rfl ?_
          refine Go.ldc2D X121 hx hown (mvT hZ (word hw 11 rfl)) (Jvm.hb hby at_92) (q := 95) rfl ?_
          refine Go.goto X121.here hx (Jvm.hb hby at_95) (by decide) (q := 101) rfl ?_
          exact J101 (9223372036854775808 : UInt64) (own_is_neg0 hc89)
        · -- pc 89: not u28 = (0 : Int64)
          refine Go.ifY X121.here hx (Jvm.hb hby at_89) ((if0 _ _).trans (feq (fun z => hc89 ((lw_eq _ _).mp (hu88.symm ▸ z)))).2) (by decide) (q := 98) rfl ?_
          refine Go.lload X121.here hx (Jvm.hb hby at_98) rfl (q := 100) rfl ?_
          obtain ⟨u100, hu100⟩ : ∃ zq, FP.l2d u28 = zq := ⟨_, rfl⟩
          refine Go.l2d X121.here hx (Jvm.hb hby at_100) hu100 (q := 101) rfl ?_
          exact J101 u100 (own_is_l2d hu100 (own_wide hva))
    by_cases hc40 : u35 = (0 : Int32)
    · -- pc 40: u35 = (0 : Int32)
      refine Go.ifN X121.here hx (Jvm.hb hby at_40) ((if0 _ _).trans (teq hc40).2) (q := 43) rfl ?_
      refine Go.iloadN X121.here hx (Jvm.hb hby at_43) rfl (q := 44) rfl ?_
      obtain ⟨u44, hu44⟩ : ∃ zq, Int32.toInt64 q2 = zq := ⟨_, rfl⟩
      refine Go.i2l X121.here hx (Jvm.hb hby at_44) hu44 (q := 45) rfl ?_
      refine Go.goto X121.here hx (Jvm.hb hby at_45) (by decide) (q := 76) rfl ?_
      exact J76 u44 (own_wide (own_b32 q2 hu44))
    · -- pc 40: not u35 = (0 : Int32)
      refine Go.ifY X121.here hx (Jvm.hb hby at_40) ((if0 _ _).trans (feq hc40).2) (by decide) (q := 48) rfl ?_
      refine Go.iload X121.here hx (Jvm.hb hby at_48) rfl (q := 50) rfl ?_
      refine Go.iconst X121.here hx (Jvm.hb hby at_50) (v := (1 : Int32)) rfl (q := 51) rfl ?_
      by_cases hc51 : u35 = (1 : Int32)
      · -- pc 51: u35 = (1 : Int32)
        refine Go.icmpN X121.here hx (Jvm.hb hby at_51) (teq hc51).2 (q := 54) rfl ?_
        refine Go.lload X121.here hx (Jvm.hb hby at_54) rfl (q := 56) rfl ?_
        refine Go.goto X121.here hx (Jvm.hb hby at_56) (by decide) (q := 76) rfl ?_
        exact J76 u28 (own_wide hva)
      · -- pc 51: not u35 = (1 : Int32)
        refine Go.icmpY X121.here hx (Jvm.hb hby at_51) (feq hc51).2 (by decide) (q := 59) rfl ?_
        refine Go.iload X121.here hx (Jvm.hb hby at_59) rfl (q := 61) rfl ?_
        refine Go.iconst X121.here hx (Jvm.hb hby at_61) (v := (2 : Int32)) rfl (q := 62) rfl ?_
        by_cases hc62 : u35 = (2 : Int32)
        · -- pc 62: u35 = (2 : Int32)
          refine Go.icmpN X121.here hx (Jvm.hb hby at_62) (teq hc62).2 (q := 65) rfl ?_
          refine Go.lload X121.here hx (Jvm.hb hby at_65) rfl (q := 67) rfl ?_
          refine Go.lconst X121.here hx (Jvm.hb hby at_67) (v := (1 : Int64)) rfl (q := 68) rfl ?_
          obtain ⟨u68, hu68⟩ : ∃ zq, u28 + (1 : Int64) = zq := ⟨_, rfl⟩
          refine Go.ladd X121.here hx (Jvm.hb hby at_68) hu68 (q := 69) rfl ?_
          refine Go.goto X121.here hx (Jvm.hb hby at_69) (by decide) (q := 76) rfl ?_
          exact J76 u68 (own_succ hva hu68)
        · -- pc 62: not u35 = (2 : Int32)
          refine Go.icmpY X121.here hx (Jvm.hb hby at_62) (feq hc62).2 (by decide) (q := 72) rfl ?_
          refine Go.lload X121.here hx (Jvm.hb hby at_72) rfl (q := 74) rfl ?_
          refine Go.lconst X121.here hx (Jvm.hb hby at_74) (v := (1 : Int64)) rfl (q := 75) rfl ?_
          obtain ⟨u75, hu75⟩ : ∃ zq, u28 - (1 : Int64) = zq := ⟨_, rfl⟩
          refine Go.lsub X121.here hx (Jvm.hb hby at_75) hu75 (q := 76) rfl ?_
          exact J76 u75 (own_pred hva hu75)
set_option maxRecDepth 65536 in
set_option maxHeartbeats 40000000 in
theorem comes_1 {Post : Tables → Env → Array Value → State → Outcome → State → Prop} (hpost : ∀ tb e args s v u, (limb_1_1.after args s (.returned v) u = true ∧ limb_1_2.after args s (.returned v) u = true ∧ True) → FrameEnd s (.returned v) u (Jvm.fieldLocs frame_1_writes args s ++ Jvm.arrayLocs frame_1_arrays args s ++ Jvm.staticLocs frame_1_statics s) 0 0 → Post tb e args s (.returned v) u) :
    ArmFor flags0 classFile x code maxLocals ret World_1 tables_1 room_1 Calls_1 rest_1 Pre_1 Post := by
  intro l hfl _ _ p e ha hc hk s m args below hf hA hF happ hP
  obtain ⟨hcalls, hrest, hpre⟩ := hP
  obtain ⟨-, -, -, hnamed, -, -, -, hat⟩ := (Spec.applies_iff hf).mp happ
  obtain ⟨hg, hn⟩ := and_e (Cond.before_iff.mp (show (Jvm.Cond.and given_1 narrow_1).before args s = true from hpre))
  obtain ⟨g0, hg⟩ := and_e hg
  obtain ⟨w0, w1, w2, rfl⟩ : ∃ w0 w1 w2 : Value, args = #[w0, w1, w2] := by
    have hs : args.size = 3 := by simpa [Cond.value, given_1] using g0
    obtain ⟨L⟩ := args
    match L, hs with
    | [w0, w1, w2], _ => exact ⟨w0, w1, w2, rfl⟩
  have hw := fun d (hd : d ∈ tables_1) => atoms_spec (ws := Jvm.Cond.code x code maxLocals ret :: tables_1) hat d (List.mem_cons_of_mem _ hd)
  obtain ⟨g1, hg⟩ := and_e hg
  obtain ⟨i0, e0⟩ := is_v g1
  obtain rfl : w0 = (.int i0) := Option.some.inj e0
  obtain ⟨g2, hg⟩ := and_e hg
  obtain ⟨i1, e1⟩ := is_v g2
  obtain rfl : w1 = (.int i1) := Option.some.inj e1
  obtain ⟨i2, e2⟩ := is_v hg
  obtain rfl : w2 = (.int i2) := Option.some.inj e2
  obtain ⟨n1, hn⟩ := and_e hn
  obtain ⟨n2, hn⟩ := and_e hn
  obtain ⟨n3, n4⟩ := and_e hn
  obtain ⟨b0, ev0⟩ := exa_v n1
  obtain ⟨b1, ev1⟩ := exa_v n2
  have hne : b0 ≠ b1 := fun z => by
    have f1 := eqv_i (Term.int_eval 1) n3
    have f0 := eqv_i (Term.int_eval 0) n4
    rw [fld_at ev1, ← z, ← fld_at (t := (Jvm.Term.static "com/example/rank2/rank2/rerank/AdditiveTreesModel$Comparison" "AT_MOST" "Lcom/example/rank2/rank2/rerank/AdditiveTreesModel$Comparison;")) ev0, f0] at f1
    exact absurd f1 (by decide)
  obtain ⟨n, o, h1, h2, h3, _, L, rfl, ⟨rfl, N⟩, hq⟩ := rm_law l s _ hw tables_1 i0 i1 i2 b0 b1 s.heap s.heap.size (Nat.le_refl _) (Sta.start ev0 (Or.inr ⟨word hw 1 rfl, word hw 2 rfl⟩)) (Sta.start ev1 (Or.inr ⟨word hw 1 rfl, word hw 10 rfl⟩)) (Exa.start ev0 n1) (Exa.start ev1 n2) hne p e ha hc hk s m _ below hf ((Spec.applies_iff_loose hf).mp happ).1 ⟨rfl, State.Warmed39.refl s, rfl⟩ trivial
  refine ⟨n, _, h1, h2, h3, hpost _ _ _ _ _ _ ⟨Cond.after_iff.mpr rfl, Cond.after_iff.mpr (eq_i res_at (Term.int_eval (1)) rfl), trivial⟩ ⟨hq.1, hq.2.1, (hq.2.2.sift fun y hy => Or.inr (N y hy)).mono (by decide) (by decide)⟩⟩
theorem main_1_1 : Claimed_1_1 := comes_1 fun _ _ _ _ _ _ h hF => ⟨h.1, hF⟩
theorem main_1_2 : Claimed_1_2 := comes_1 fun _ _ _ _ _ _ h hF => ⟨h.2.1, hF⟩
end Jvm.Pilot.@@N@@
namespace Jvm.Pilot.@@N@@
open Jvm Jvm.ClassFile Sem Op Lib Jvm.Free Jvm.Stand Jvm.Pilot.@@N@@.Jvm.D
/-! MADE BY PROGRAM (witnessworld.py) out of the Statement's table words and the real class files: 12 classes; the members and pool entries that the words name. The judged class is class 1, her method 1. -/
namespace start1
open Jvm.ClassFile
def u (s : String) : CpInfo := .utf8 (stringToUtf16 s)
/-- a pool by its gaps: so many unusable entries, then the entry; so many at the end -/
def gap : Nat → List CpInfo → List CpInfo
  | 0, r => r
  | n + 1, r => .unusable :: gap n r
def poolList (es : List (Nat × CpInfo)) (last : Nat) : List CpInfo := es.foldr (fun e r => gap e.1 (e.2 :: r)) (gap last [])
def pool (es : List (Nat × CpInfo)) (last : Nat) : Array CpInfo := ⟨poolList es last⟩
def fileOf (pool : Array CpInfo) (this : Nat) (attrs : Array Attribute := #[]) (ms : Array MethodInfo := #[]) (fl : Nat := 33) (sup : Nat := 0) (ifs : Array Nat := #[]) (fds : Array FieldInfo := #[]) : ClassFile where
  minorVersion := 0
  majorVersion := 65
  constantPool := pool
  accessFlags := fl
  thisClass := this
  superClass := sup
  interfaces := ifs
  fields := fds
  methods := ms
  attributes := attrs
def plain (name : String) (sup : Option ClassId) : Class where
  name := name
  kind := .ordinary
  loader := none
  accessFlags := 33
  super := sup
  interfaces := #[]
  cf := none
  fields := #[]
  methods := #[]
  instanceTypes := #[]
  staticTypes := #[]
  resolved := #[]
  callSites := []
  init := .initialized
  statics := none
  mirror := none

def pool0 : Array CpInfo := pool [(5, u "<init>"), (0, u "()V"), (1, .class_ 10), (1, u "java/lang/Object")] 113

def k0m0 : Method := { name := "<init>", desc := "()V", sig := { parameters := [], returnType := none }, accessFlags := 1, code := none }
/-- java/lang/Object -/
def k0 : Class := { plain "java/lang/Object" none with
  accessFlags := 33
  interfaces := #[]
  cf := some (fileOf pool0 8 #[] #[{ accessFlags := 1, nameIndex := 5, descriptorIndex := 6, attributes := #[] }] 33 0 #[] #[])
  fields := #[]
  methods := #[k0m0]
  instanceTypes := #[]
  staticTypes := #[]
  resolved := Array.replicate 124 none
  statics := none }

def pool1 : Array CpInfo := pool [(2, .class_ 4), (1, u "java/lang/Object"), (0, u "<init>"), (0, u "()V"), (0, .fieldref 8 9), (0, .class_ 10), (0, .nameAndType 11 12), (0, u "com/example/rank2/rank2/rerank/AdditiveTreesModel$Comparison"), (0, u "AT_MOST"), (0, u "Lcom/example/rank2/rank2/rerank/AdditiveTreesModel$Comparison;"), (0, .fieldref 8 14), (0, .nameAndType 15 12), (0, u "BELOW"), (0, .double 9223372036854775808), (1, .methodref 8 19), (0, .nameAndType 20 21), (0, u "goesLeft"), (0, u "(DD)Z"), (0, .class_ 23), (0, u "com/example/rank2/rank2/rerank/ComparisonGoesLeftPinLaw"), (2, u "law"), (0, u "(III)Z")] 7

def k1m0 : Method := { name := "<init>", desc := "()V", sig := { parameters := [], returnType := none }, accessFlags := 1, code := none }
def k1c1 : Code := { maxStack := 5, maxLocals := 15, code := code, exceptionTable := #[], attributes := #[] }
def k1m1 : Method := { name := "law", desc := "(III)Z", sig := { parameters := [.int, .int, .int], returnType := some .boolean }, accessFlags := 9, code := some k1c1 }
/-- com/example/rank2/rank2/rerank/ComparisonGoesLeftPinLaw -/
def k1 : Class := { plain "com/example/rank2/rank2/rerank/ComparisonGoesLeftPinLaw" (some 0) with
  accessFlags := 49
  interfaces := #[]
  cf := some (fileOf pool1 22 #[] #[{ accessFlags := 1, nameIndex := 5, descriptorIndex := 6, attributes := #[] }, { accessFlags := 9, nameIndex := 26, descriptorIndex := 27, attributes := #[] }] 49 2 #[] #[])
  fields := #[]
  methods := #[k1m0, k1m1]
  instanceTypes := #[]
  staticTypes := #[]
  resolved := Array.replicate 35 none
  statics := none }

def pool2 : Array CpInfo := pool [(1, .class_ 2), (0, u "java/lang/constant/Constable"), (0, .class_ 4), (0, u "java/lang/Object")] 6

/-- java/lang/constant/Constable -/
def k2 : Class := { plain "java/lang/constant/Constable" (some 0) with
  accessFlags := 1537
  interfaces := #[]
  cf := some (fileOf pool2 1 #[] #[] 1537 3 #[] #[])
  fields := #[]
  methods := #[]
  instanceTypes := #[]
  staticTypes := #[]
  resolved := Array.replicate 11 none
  statics := none }

def pool3 : Array CpInfo := pool [(1, .class_ 2), (0, u "java/lang/Comparable"), (0, .class_ 4), (0, u "java/lang/Object")] 7

/-- java/lang/Comparable -/
def k3 : Class := { plain "java/lang/Comparable" (some 0) with
  accessFlags := 1537
  interfaces := #[]
  cf := some (fileOf pool3 1 #[] #[] 1537 3 #[] #[])
  fields := #[]
  methods := #[]
  instanceTypes := #[]
  staticTypes := #[]
  resolved := Array.replicate 12 none
  statics := none }

def pool4 : Array CpInfo := pool [(1, .class_ 2), (0, u "java/io/Serializable"), (0, .class_ 4), (0, u "java/lang/Object")] 2

/-- java/io/Serializable -/
def k4 : Class := { plain "java/io/Serializable" (some 0) with
  accessFlags := 1537
  interfaces := #[]
  cf := some (fileOf pool4 1 #[] #[] 1537 3 #[] #[])
  fields := #[]
  methods := #[]
  instanceTypes := #[]
  staticTypes := #[]
  resolved := Array.replicate 7 none
  statics := none }

def pool5 : Array CpInfo := pool [(2, .class_ 4), (1, u "java/lang/Enum"), (0, u "name"), (0, u "Ljava/lang/String;"), (2, u "ordinal"), (0, u "I"), (1, .class_ 14), (1, u "java/lang/Object"), (4, u "hash"), (86, .class_ 108), (1, u "java/lang/Enum$EnumDesc"), (2, .class_ 112), (0, u "java/lang/constant/Constable"), (0, .class_ 114), (0, u "java/lang/Comparable"), (0, .class_ 116), (0, u "java/io/Serializable")] 87

/-- java/lang/Enum -/
def k5 : Class := { plain "java/lang/Enum" (some 0) with
  accessFlags := 1057
  interfaces := #[2, 3, 4]
  cf := some (fileOf pool5 2 #[.nestMembers #[106]] #[] 1057 12 #[111, 113, 115] #[{ accessFlags := 18, nameIndex := 5, descriptorIndex := 6, attributes := #[] }, { accessFlags := 18, nameIndex := 9, descriptorIndex := 10, attributes := #[] }, { accessFlags := 2, nameIndex := 19, descriptorIndex := 10, attributes := #[] }])
  fields := #[{ name := "name", type := (.object "java/lang/String"), accessFlags := 18, slot := 0, constantValue := 0 }, { name := "ordinal", type := .int, accessFlags := 18, slot := 1, constantValue := 0 }, { name := "hash", type := .int, accessFlags := 2, slot := 2, constantValue := 0 }]
  methods := #[]
  instanceTypes := #[(.object "java/lang/String"), .int, .int]
  staticTypes := #[]
  resolved := Array.replicate 204 none
  statics := none }

def pool6 : Array CpInfo := pool [(1, .class_ 2), (0, u "com/example/rank2/rank2/rerank/AdditiveTreesModel$Comparison"), (0, .fieldref 1 4), (0, .nameAndType 5 6), (0, u "AT_MOST"), (0, u "Lcom/example/rank2/rank2/rerank/AdditiveTreesModel$Comparison;"), (2, u "BELOW"), (2, u "$VALUES"), (0, u "[Lcom/example/rank2/rank2/rerank/AdditiveTreesModel$Comparison;"), (6, .class_ 22), (1, u "java/lang/Enum"), (8, u "left"), (0, u "Ljava/lang/String;"), (2, u "right"), (24, u "goesLeft"), (0, u "(DD)Z"), (7, .class_ 70), (0, u "com/example/rank2/rank2/rerank/AdditiveTreesModel")] 2

def k6c0 : Code := { maxStack := 4, maxLocals := 5, code := prog_89_method_4_code, exceptionTable := #[], attributes := #[] }
def k6m0 : Method := { name := "goesLeft", desc := "(DD)Z", sig := { parameters := [.double, .double], returnType := some .boolean }, accessFlags := 0, code := some k6c0 }
/-- com/example/rank2/rank2/rerank/AdditiveTreesModel$Comparison -/
def k6 : Class := { plain "com/example/rank2/rank2/rerank/AdditiveTreesModel$Comparison" (some 5) with
  accessFlags := 16433
  interfaces := #[]
  cf := some (fileOf pool6 1 #[.nestHost 69] #[{ accessFlags := 0, nameIndex := 60, descriptorIndex := 61, attributes := #[] }] 16433 20 #[] #[{ accessFlags := 16409, nameIndex := 5, descriptorIndex := 6, attributes := #[] }, { accessFlags := 16409, nameIndex := 9, descriptorIndex := 6, attributes := #[] }, { accessFlags := 18, nameIndex := 31, descriptorIndex := 32, attributes := #[] }, { accessFlags := 18, nameIndex := 35, descriptorIndex := 32, attributes := #[] }, { accessFlags := 4122, nameIndex := 12, descriptorIndex := 13, attributes := #[] }])
  fields := #[{ name := "AT_MOST", type := (.object "com/example/rank2/rank2/rerank/AdditiveTreesModel$Comparison"), accessFlags := 16409, slot := 0, constantValue := 0 }, { name := "BELOW", type := (.object "com/example/rank2/rank2/rerank/AdditiveTreesModel$Comparison"), accessFlags := 16409, slot := 1, constantValue := 0 }, { name := "left", type := (.object "java/lang/String"), accessFlags := 18, slot := 3, constantValue := 0 }, { name := "right", type := (.object "java/lang/String"), accessFlags := 18, slot := 4, constantValue := 0 }, { name := "$VALUES", type := (.array (.object "com/example/rank2/rank2/rerank/AdditiveTreesModel$Comparison")), accessFlags := 4122, slot := 2, constantValue := 0 }]
  methods := #[k6m0]
  instanceTypes := #[(.object "java/lang/String"), .int, .int, (.object "java/lang/String"), (.object "java/lang/String")]
  staticTypes := #[(.object "com/example/rank2/rank2/rerank/AdditiveTreesModel$Comparison"), (.object "com/example/rank2/rank2/rerank/AdditiveTreesModel$Comparison"), (.array (.object "com/example/rank2/rank2/rerank/AdditiveTreesModel$Comparison"))]
  resolved := Array.replicate 73 none
  statics := some 0 }

def pool7 : Array CpInfo := pool [(1, u "java/lang/Cloneable"), (0, .class_ 1), (0, u "java/lang/Object"), (0, .class_ 3)] 3

/-- java/lang/Cloneable -/
def k7 : Class := { plain "java/lang/Cloneable" (some 0) with
  accessFlags := 1537
  interfaces := #[]
  cf := some (fileOf pool7 2 #[] #[] 1537 4 #[] #[])
  fields := #[]
  methods := #[]
  instanceTypes := #[]
  staticTypes := #[]
  resolved := Array.replicate 8 none
  statics := none }

/-- the primitive byte -/
def k8 : Class := { plain "byte" none with kind := .primitive 'B', accessFlags := 0x411 }
/-- [B -/
def k9 : Class := { plain "[B" (some 0) with kind := .array 8 .byte, interfaces := #[7, 4], accessFlags := 1041 }

/-- the primitive int -/
def k10 : Class := { plain "int" none with kind := .primitive 'I', accessFlags := 0x411 }
/-- [I -/
def k11 : Class := { plain "[I" (some 0) with kind := .array 10 .int, interfaces := #[7, 4], accessFlags := 1041 }

def heap : Heap := #[{ cls := 6, slots := #[.ref 1, .ref 2, .null], vm := .statics 6 },
  { cls := 6, slots := #[.null, .int 0, .int 0, .null, .null], vm := .none },
  { cls := 6, slots := #[.null, .int 1, .int 0, .null, .null], vm := .none }]
def classes : Array Class := #[k0, k1, k2, k3, k4, k5, k6, k7, k8, k9, k10, k11]
def interned : List (Array UInt16 × Addr) := []
def slotsUsed : Nat := 13
def theMethod : MethodId := ⟨1, 1⟩
def args0 : Array Value := #[.int 5, .int 7, .int 1]
def aboutOver (below : List Frame) : State where
  vm := { classes := classes, interned := interned.toArray }
  heap := heap
  slotsUsed := slotsUsed
  threads := #[{ frames := .invoking theMethod args0 :: below }]
def below0 : List Frame := [.native { method := ⟨0, 0⟩, args := #[] }]
def about1 : State := aboutOver below0
def p0 : Program := .bare "" "" ""
def e0 : Env := launch0.env 0 0 0
theorem w_frames : about1.frames = Frame.invoking theMethod args0 :: below0 := rfl
set_option maxRecDepth 65536 in
theorem w_args : argsFit about1.vm theMethod args0 = true := by decide +kernel
set_option maxRecDepth 65536 in
theorem w_heap : heapFits about1 = true := by decide +kernel
set_option maxRecDepth 65536 in
theorem w_runnable : about1.curStatus? = some .runnable := by decide +kernel
set_option maxRecDepth 65536 in
theorem w_alone : about1.alone = true := by decide +kernel
set_option maxRecDepth 65536 in
theorem w_named : about1.methodNamed? x = some theMethod := by decide +kernel
set_option maxRecDepth 65536 in
theorem w_hears : about1.hears theMethod below0 = true := by decide +kernel
set_option maxRecDepth 65536 in
theorem w_ripe : about1.ripe theMethod args0 below0 = true := by decide +kernel
theorem w_running : about1.status = .running := rfl
set_option maxRecDepth 65536 in
theorem w_room : about1.hasRoom e0.platform room_1 = true :=
  launch0.hasRoom_least _ room_1 (by decide +kernel) (by decide +kernel) (by decide +kernel) (by decide +kernel) (by decide +kernel) (by decide +kernel)
theorem allAtoms_all (ts : List Jvm.Cond) (a : Array Jvm.Value) (st : Jvm.State) : (allAtoms ts).before a st = ts.all (fun c => c.before a st) := by
  induction ts with
  | nil => rfl
  | cons c t ih =>
    show (Jvm.Cond.and c (allAtoms t)).before a st = _
    rw [Jvm.Cond.before_and, ih, List.all_cons]
def words1 : List Jvm.Cond := Jvm.Cond.code x code maxLocals ret :: tables_1
/-- a 'code' word, met by the world's own term for the bytes: nothing is compared byte by byte -/
theorem code_word {y : MethodName} {bytes : ByteArray} {mx : Nat} {rt : Option FieldType} {a : Array Value} {s : State} {m : MethodId} {meth : Method} {c : Code} (h1 : s.methodNamed? y = some m) (h2 : s.vm.method? m = some meth) (h3 : meth.code = some c) (h4 : c.code = bytes)
    (h5 : (c.maxLocals == mx && c.exceptionTable.isEmpty && decide (c.maxStack ≤ mostOperands) && decide (meth.sig.returnType = rt) && !meth.locks && decide (parseMethodDescriptor y.desc = some meth.sig)) = true) : (Jvm.Cond.code y bytes mx rt).before a s = true := by
  simp only [Bool.and_eq_true, beq_iff_eq, Bool.not_eq_true', decide_eq_true_eq] at h5
  obtain ⟨⟨⟨⟨⟨g1, g2⟩, g3⟩, g4⟩, g5⟩, g6⟩ := h5
  simp [Cond.before, Cond.holds, Cond.value, h1, h2, h3, h4, g1, g2, g3, g4, g5, g6]
def isCode : Jvm.Cond → Bool
  | .code _ _ _ _ => true
  | _ => false
theorem all_split {L : List Jvm.Cond} {P : Jvm.Cond → Bool} (h1 : L.all (fun c => isCode c || P c) = true) (h2 : ∀ c ∈ L.filter isCode, P c = true) : L.all P = true := by
  refine List.all_eq_true.mpr fun c hc => ?_
  have h := List.all_eq_true.mp h1 c hc
  rcases Bool.eq_false_or_eq_true (isCode c) with hi | hi
  · exact h2 c (List.mem_filter.mpr ⟨hc, hi⟩)
  · simpa [hi] using h
set_option maxRecDepth 65536 in
theorem w_c0 : (Jvm.Cond.code x code maxLocals ret).before args0 about1 = true := code_word (m := ⟨1, 1⟩) (meth := k1m1) (c := k1c1) (by decide +kernel) rfl rfl rfl (by decide +kernel)
set_option maxRecDepth 65536 in
theorem w_c1 : (Jvm.Cond.code ({ cls := "com/example/rank2/rank2/rerank/AdditiveTreesModel$Comparison", name := "goesLeft", desc := "(DD)Z" } : Jvm.MethodName) prog_89_method_4_code (5 : Nat) (Option.some Jvm.ClassFile.FieldType.boolean)).before args0 about1 = true := code_word (m := ⟨6, 0⟩) (meth := k6m0) (c := k6c0) (by decide +kernel) rfl rfl rfl (by decide +kernel)
def codes1 : List Jvm.Cond := [Jvm.Cond.code x code maxLocals ret, Jvm.Cond.code ({ cls := "com/example/rank2/rank2/rerank/AdditiveTreesModel$Comparison", name := "goesLeft", desc := "(DD)Z" } : Jvm.MethodName) prog_89_method_4_code (5 : Nat) (Option.some Jvm.ClassFile.FieldType.boolean)]
set_option maxRecDepth 65536 in
theorem codes_eq : words1.filter isCode = codes1 := rfl
theorem w_codes : ∀ c ∈ words1.filter isCode, c.before args0 about1 = true := by
  rw [codes_eq]
  intro c hc
  simp only [codes1, List.mem_cons, List.not_mem_nil, or_false] at hc
  rcases hc with rfl | rfl
  · exact w_c0
  · exact w_c1
set_option maxRecDepth 65536 in
theorem w_t1 : words1.all (fun c => isCode c || c.before args0 about1) = true := by decide +kernel
theorem w_tables : (allAtoms (Jvm.Cond.code x code maxLocals ret :: tables_1)).before args0 about1 = true := by
  rw [allAtoms_all]
  show words1.all (fun c => c.before args0 about1) = true
  refine all_split ?_ w_codes
  rw [w_t1]
set_option maxRecDepth 65536 in
theorem w_case : (Jvm.Cond.and given_1 narrow_1).before args0 about1 = true := by decide +kernel
theorem w_applies : (headSpec (Jvm.Cond.code x code maxLocals ret :: tables_1) room_1).applies x e0.platform about1 = true :=
  (Spec.applies_iff w_frames).mpr ⟨w_running, w_runnable, w_alone, w_named, w_hears, w_ripe, w_room, w_tables⟩
theorem atStart : AtStart classFile x code maxLocals ret World_1 tables_1 room_1 Calls_1 rest_1 Pre_1 launch0 p0 e0 about1 theMethod args0 below0 :=
  ⟨lists_1, trivial, launch0.admits_env _ _ _, launch0.least_env, fairChoices_fair.cas, fairChoices_fair.clock, w_frames, w_args, w_heap, w_applies, trivial, trivial, w_case⟩
end start1
theorem witness_1 : WitnessClaimed_1 := ⟨start1.p0, start1.e0, start1.about1, start1.theMethod, start1.args0, start1.below0, start1.atStart⟩
end Jvm.Pilot.@@N@@
