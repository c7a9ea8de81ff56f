import PyProof.Rows.All
import PyProof.NeKinds
import PyProof.ExcBaseAll.ValueError
import PyProof.IsiH_tuple
import PyProof.ZipIter
import PyProof.SumWalkG
import PyProof.TypeOfCall
import PyProof.TupleOfSeq
import PyProof.StrReplace2
import PyProof.Rows.RaiseClass
import Flt.RightMore
import Flt.Canon
import Flt.Ops
import Flt.RightSqrt
import Flt.Calls
import Flt.Sum
import KE.KUnpack
import KE.KFromBytes
import KE.KLcPair
import KE.KSetIn
import KE.KTypeOf
import OpenK.AllK
import Wide.All
import PySem.Challenge.RW_ij0063_01
set_option Elab.async false
section
set_option exponentiation.threshold 3000
namespace Mine
open PySem PySem.Float64

/-- the float x holds the whole number n (either zero) -/
noncomputable def IsF (x : UInt64) (n : Int) : Prop := ∃ a m e, decode x = .fin a m e ∧ val x = n * 2 ^ 1074

theorem sgn_decide (w : Int) : sgn (decide (w < 0)) w.natAbs = w := by
  unfold sgn
  by_cases h : w < 0
  · simp only [h, decide_true, if_true]; omega
  · simp only [h, decide_false]; simp; omega

/-- a whole number up to 2 ^ 53 is a float's value -/
theorem rep (N : Nat) (h : N ≤ 2 ^ 53) : ∃ t, t < infMag ∧ V t = N * 2 ^ 1074 := by
  by_cases h0 : N = 0
  · subst h0; exact ⟨0, by decide, by rw [V_zero, Nat.zero_mul]⟩
  by_cases hT : N = 2 ^ 53
  · subst hT
    exact ⟨1074 * 2 ^ 52 + 2 ^ 53, by unfold infMag; omega, V_at (by omega) (by omega)⟩
  have hl : N.log2 ≤ 52 := by
    have : N < 2 ^ 53 := by omega
    have := (Nat.log2_lt h0).mpr this
    omega
  have h1 := Nat.log2_self_le h0
  have h2 : N < 2 ^ (N.log2 + 1) := Nat.lt_log2_self
  generalize N.log2 = l at *
  refine ⟨(1074 - (52 - l)) * 2 ^ 52 + N * 2 ^ (52 - l), ?_, ?_⟩
  · have : N * 2 ^ (52 - l) < 2 ^ (l + 1) * 2 ^ (52 - l) := Nat.mul_lt_mul_of_pos_right h2 (Nat.two_pow_pos _)
    rw [← Nat.pow_add, show l + 1 + (52 - l) = 53 by omega] at this
    unfold infMag; omega
  · have lo : 2 ^ l * 2 ^ (52 - l) ≤ N * 2 ^ (52 - l) := Nat.mul_le_mul_right _ h1
    have hi : N * 2 ^ (52 - l) < 2 ^ (l + 1) * 2 ^ (52 - l) := Nat.mul_lt_mul_of_pos_right h2 (Nat.two_pow_pos _)
    rw [← Nat.pow_add, show l + (52 - l) = 52 by omega] at lo
    rw [← Nat.pow_add, show l + 1 + (52 - l) = 53 by omega] at hi
    rw [V_at (by omega) (.inl lo), Nat.mul_assoc, ← Nat.pow_add, show 52 - l + (1074 - (52 - l)) = 1074 by omega]

theorem not_over_core {W D N K T : Nat} (z : 2 ^ 54 * K < T) (hW : W = D * (N * K)) (hD : 0 < D) (h : N ≤ 2 ^ 53) : ¬ D * T ≤ 2 * W := by
  intro q
  rw [hW, show 2 * (D * (N * K)) = D * (2 * N * K) by ac_rfl] at q
  have q := Nat.le_of_mul_le_mul_left q hD
  have : 2 * N * K ≤ 2 ^ 54 * K := Nat.mul_le_mul_right _ (by omega)
  omega
theorem not_over {W D N : Nat} (hW : W = D * (N * 2 ^ 1074)) (hD : 0 < D) (h : N ≤ 2 ^ 53) : ¬ D * ((2 ^ 54 - 1) * 2 ^ 2045) ≤ 2 * W :=
  not_over_core (by decide +kernel) hW hD h

/-- what is rounded right and is whole is exact -/
theorem right_exact {r : UInt64} {neg : Bool} {W D N : Nat} (R : Right r neg W D) (hW : W = D * (N * 2 ^ 1074)) (hD : 0 < D) (h : N ≤ 2 ^ 53) :
    IsF r (sgn neg N) := by
  obtain ⟨t, rfl, ht, hov, hn⟩ := R
  have hlt : t < infMag := by
    rcases Nat.lt_or_ge t infMag with q | q
    · exact q
    · exact absurd (hov.mp (Nat.le_antisymm ht q)) (not_over hW hD h)
  obtain ⟨t₀, _, hV⟩ := rep N h
  have hd := (hn hlt t₀).1
  have e : V t = N * 2 ^ 1074 := by
    rw [hV, hW, show dist (D * (N * 2 ^ 1074)) (D * (N * 2 ^ 1074)) = 0 by unfold dist; omega] at hd
    have : D * V t = D * (N * 2 ^ 1074) := by unfold dist at hd; omega
    exact Nat.eq_of_mul_eq_mul_left hD this
  obtain ⟨m, e', hd', _⟩ := decode_pack neg hlt
  refine ⟨neg, m, e', hd', ?_⟩
  rw [val_pack neg hlt, e, sgn_mul, Int.natCast_pow]
  rfl

theorem isF_ofInt {n : Int} (h : n.natAbs ≤ 2 ^ 53) : IsF (ofInt n) n := by
  have := right_exact (ofInt_right n) (by rw [Nat.one_mul]) (by decide) h
  rwa [sgn_decide] at this

theorem isF_zero (s : Bool) : IsF (zero s) 0 := by
  obtain ⟨m, e, hd, hv⟩ := decode_pack s (t := 0) (by unfold infMag; omega)
  refine ⟨s, m, e, hd, ?_⟩
  have : val (zero s) = sgn s (V 0) := val_pack s (by unfold infMag; omega)
  rw [this, V_zero, Int.zero_mul]
  unfold sgn; cases s <;> simp

theorem K_pos : (0 : Int) < 2 ^ 1074 := Int.pow_pos (by decide)
theorem mulK {a b : Int} : a * 2 ^ 1074 = b * 2 ^ 1074 ↔ a = b := ⟨fun h => Int.eq_of_mul_eq_mul_right (Int.ne_of_gt K_pos) h, fun h => by rw [h]⟩

theorem natAbs_K (n : Int) : (n * 2 ^ 1074).natAbs = n.natAbs * 2 ^ 1074 := by
  rw [Int.natAbs_mul, Int.natAbs_pow]; rfl

theorem isF_add {x y : UInt64} {a b : Int} (hx : IsF x a) (hy : IsF y b) (h : (a + b).natAbs ≤ 2 ^ 53) : IsF (add x y) (a + b) := by
  obtain ⟨s, m, e, hd, hv⟩ := hx
  obtain ⟨s', m', e', hd', hv'⟩ := hy
  obtain ⟨h0, h1⟩ := add_right hd hd'
  have hs : val x + val y = (a + b) * 2 ^ 1074 := by rw [hv, hv', Int.add_mul]
  by_cases z : a + b = 0
  · rw [h0 (by rw [hs, z, Int.zero_mul]), z]; exact isF_zero _
  · have hne : val x + val y ≠ 0 := by
      rw [hs]; intro q
      exact z (mulK.mp (by rw [q, Int.zero_mul]))
    have R := h1 hne
    have hneg : decide (val x + val y < 0) = decide (a + b < 0) := by
      rw [hs]
      by_cases q : a + b < 0
      · have := Int.mul_neg_of_neg_of_pos q K_pos
        simp only [q, this, decide_true]
      · have : ¬ (a + b) * 2 ^ 1074 < 0 := by
          have := Int.mul_nonneg (Int.not_lt.mp q) (Int.le_of_lt K_pos)
          omega
        simp only [q, this, decide_false]
    rw [hneg] at R
    have := right_exact R (N := (a + b).natAbs) (by rw [hs, natAbs_K, Nat.one_mul]) (by decide) h
    rwa [sgn_decide] at this

theorem isF_neg {x : UInt64} {a : Int} (hx : IsF x a) : IsF (neg x) (-a) := by
  obtain ⟨s, m, e, hd, hv⟩ := hx
  exact ⟨_, _, _, neg_decode hd, by rw [neg_val hd, hv, Int.neg_mul]⟩

theorem isF_sub {x y : UInt64} {a b : Int} (hx : IsF x a) (hy : IsF y b) (h : (a - b).natAbs ≤ 2 ^ 53) : IsF (sub x y) (a - b) := by
  have := isF_add hx (isF_neg hy) (by rwa [← Int.sub_eq_add_neg])
  rw [← Int.sub_eq_add_neg] at this
  unfold sub
  exact this

theorem sgn_val {x : UInt64} {s : Bool} {m : Nat} {e : Int} (hd : decode x = .fin s m e) : val x = sgn s (val x).natAbs := by
  rw [val_eq hd, sgn_natAbs]

theorem sgn_val_n {x : UInt64} {s : Bool} {m : Nat} {e : Int} {a : Int} (hd : decode x = .fin s m e) (hv : val x = a * 2 ^ 1074) : a = sgn s a.natAbs := by
  have := sgn_val hd
  rw [hv, natAbs_K, sgn_mul, Int.natCast_pow] at this
  exact mulK.mp this

theorem sgn_sgn (s s' : Bool) (m k : Nat) : sgn (s != s') (m * k) = sgn s m * sgn s' k := by
  unfold sgn
  cases s <;> cases s' <;> simp [Int.neg_mul, Int.mul_neg]

theorem isF_mul {x y : UInt64} {a b : Int} (hx : IsF x a) (hy : IsF y b) (h : (a * b).natAbs ≤ 2 ^ 53) : IsF (mul x y) (a * b) := by
  obtain ⟨s, m, e, hd, hv⟩ := hx
  obtain ⟨s', m', e', hd', hv'⟩ := hy
  have R := mul_right hd hd'
  rw [hv, hv', natAbs_K, natAbs_K] at R
  have := right_exact R (N := a.natAbs * b.natAbs) (by generalize (2 : Nat) ^ 1074 = K; ac_rfl) (Nat.two_pow_pos _) (by rwa [← Int.natAbs_mul])
  rwa [sgn_sgn, ← sgn_val_n hd hv, ← sgn_val_n hd' hv'] at this

theorem isF_nonzero {x : UInt64} {s : Bool} {m : Nat} {e : Int} {a : Int} (hd : decode x = .fin s m e) (hv : val x = a * 2 ^ 1074) : m = 0 ↔ a = 0 := by
  constructor
  · intro h
    rw [val_eq hd, h, Nat.zero_mul] at hv
    have : sgn s 0 = 0 := by unfold sgn; cases s <;> simp
    rw [this] at hv
    exact mulK.mp (by rw [← hv, Int.zero_mul])
  · intro h
    have := val_natAbs hd
    rw [hv, h, Int.zero_mul] at this
    have h2 : m * 2 ^ (e + 1074).toNat = 0 := by simpa using this.symm
    rcases Nat.mul_eq_zero.mp h2 with q | q
    · exact q
    · exact absurd q (Nat.ne_of_gt (Nat.two_pow_pos _))

theorem isF_div {x y : UInt64} {q b : Int} (hx : IsF x (q * b)) (hy : IsF y b) (hb : b ≠ 0) (h : q.natAbs ≤ 2 ^ 53) : IsF (div x y) q := by
  obtain ⟨s, m, e, hd, hv⟩ := hx
  obtain ⟨s', m', e', hd', hv'⟩ := hy
  have R := div_right hd hd' (fun z => hb ((isF_nonzero hd' hv').mp z))
  rw [hv, hv', natAbs_K, natAbs_K, Int.natAbs_mul] at R
  have := right_exact R (N := q.natAbs) (by generalize (2 : Nat) ^ 1074 = K; ac_rfl) (Nat.mul_pos (by omega) (Nat.two_pow_pos _)) h
  have e1 := sgn_val_n hd hv
  have e2 := sgn_val_n hd' hv'
  have e3 : q = sgn (s != s') q.natAbs := by
    rw [Int.natAbs_mul] at e1
    by_cases q0 : q = 0
    · subst q0; unfold sgn; cases s <;> cases s' <;> simp
    have hb' := hb
    unfold sgn at *
    cases s <;> cases s' <;> simp at e1 e2 ⊢
    · have hp : 0 < b := by omega
      have h1 : 0 ≤ q * b := by rw [e1]; exact Int.mul_nonneg (by omega) (by omega)
      rcases Int.lt_or_le q 0 with z | z
      · have := Int.mul_neg_of_neg_of_pos z hp; omega
      · omega
    · have hp : b < 0 := by omega
      have h1 : 0 ≤ q * b := by rw [e1]; exact Int.mul_nonneg (by omega) (by omega)
      rcases Int.lt_or_le 0 q with z | z
      · have := Int.mul_neg_of_pos_of_neg z hp; omega
      · omega
    · have hp : 0 < b := by omega
      have h1 : q * b ≤ 0 := by
        have := Int.mul_nonneg (a := (q.natAbs : Int)) (b := (b.natAbs : Int)) (by omega) (by omega)
        have e1' : q * b = -((q.natAbs : Int) * (b.natAbs : Int)) := by first | exact e1 | simpa using e1
        omega
      rcases Int.lt_or_le 0 q with z | z
      · have := Int.mul_pos z hp; omega
      · omega
    · have hp : b < 0 := by omega
      have h1 : q * b ≤ 0 := by
        have := Int.mul_nonneg (a := (q.natAbs : Int)) (b := (b.natAbs : Int)) (by omega) (by omega)
        have e1' : q * b = -((q.natAbs : Int) * (b.natAbs : Int)) := by first | exact e1 | simpa using e1
        omega
      rcases Int.lt_or_le q 0 with z | z
      · have := Int.mul_pos_of_neg_of_neg z hp; omega
      · omega
  rwa [← e3] at this

theorem isF_finite {x : UInt64} {a : Int} (h : IsF x a) : isFinite x = true := by
  obtain ⟨s, m, e, hd, _⟩ := h
  unfold isFinite; rw [hd]
theorem isF_notNaN {x : UInt64} {a : Int} (h : IsF x a) : isNaN x = false := by
  obtain ⟨s, m, e, hd, _⟩ := h
  unfold isNaN; rw [hd]
theorem isF_notInf {x : UInt64} {a : Int} (h : IsF x a) : isInf x = false := by
  obtain ⟨s, m, e, hd, _⟩ := h
  unfold isInf; rw [hd]
theorem isF_isZero {x : UInt64} {a : Int} (h : IsF x a) : isZero x = decide (a = 0) := by
  obtain ⟨s, m, e, hd, hv⟩ := h
  have z := isF_nonzero hd hv
  unfold isZero; rw [hd]
  by_cases h0 : a = 0
  · rw [z.mpr h0]; simp [h0]
  · have hm : m ≠ 0 := fun q => h0 (z.mp q)
    cases m with
    | zero => exact absurd rfl hm
    | succ k => simp [h0]

theorem compare_mulK (a b : Int) : compare (a * 2 ^ 1074) (b * 2 ^ 1074) = compare a b := by
  rw [Int.compare_eq_ite_lt, Int.compare_eq_ite_lt]
  have h1 : a * 2 ^ 1074 < b * 2 ^ 1074 ↔ a < b := ⟨fun h => Int.lt_of_mul_lt_mul_right h (Int.le_of_lt K_pos), fun h => Int.mul_lt_mul_of_pos_right h K_pos⟩
  have h2 : b * 2 ^ 1074 < a * 2 ^ 1074 ↔ b < a := ⟨fun h => Int.lt_of_mul_lt_mul_right h (Int.le_of_lt K_pos), fun h => Int.mul_lt_mul_of_pos_right h K_pos⟩
  simp only [h1, h2]

theorem isF_cmp {x y : UInt64} {a b : Int} (hx : IsF x a) (hy : IsF y b) : cmp x y = some (compare a b) := by
  obtain ⟨s, m, e, hd, hv⟩ := hx
  obtain ⟨s', m', e', hd', hv'⟩ := hy
  rw [cmp_right hd hd', hv, hv', compare_mulK]
theorem isF_cmpInt {x : UInt64} {a : Int} (hx : IsF x a) (i : Int) : cmpInt x i = some (compare a i) := by
  obtain ⟨s, m, e, hd, hv⟩ := hx
  rw [cmpInt_right hd, hv, compare_mulK]

/-- the root of a square -/
theorem isF_sqrt {x : UInt64} {k : Nat} (hx : IsF x ((k : Int) * k)) (h0 : k ≠ 0) (h : k ≤ 2 ^ 26) : IsF (sqrt x) k := by
  obtain ⟨s, m, e, hd, hv⟩ := hx
  have hm : m ≠ 0 := fun q => by
    have := (isF_nonzero hd hv).mp q
    have hk : (k : Int) ≠ 0 := by omega
    exact (Int.mul_ne_zero hk hk) this
  have hs : s = false := by
    cases s with
    | false => rfl
    | true =>
      exfalso
      have e1 := sgn_val_n hd hv
      have hp : (0 : Int) < (k : Int) * k := Int.mul_pos (by omega) (by omega)
      unfold sgn at e1
      simp only [if_true] at e1
      omega
  subst hs
  obtain ⟨t, ht, hlt, hup, hdn⟩ := sqrt_right hd hm
  obtain ⟨t₀, h₀, hV⟩ := rep k (by omega)
  have hval : (val x).natAbs = k * k * 2 ^ 1074 := by rw [hv, natAbs_K, Int.natAbs_mul, Int.natAbs_natCast]
  rw [hval] at hup hdn
  generalize hK : (2 : Nat) ^ 1074 = K at *
  have e4 : 4 * (k * k * K * K) = 2 * (k * K) * (2 * (k * K)) := by
    rw [show (4 : Nat) = 2 * 2 by decide]; ac_rfl
  have sq : ∀ {a b : Nat}, a * a ≤ b * b → a ≤ b := fun {a b} q => by
    rcases Nat.lt_or_ge b a with z | z
    · have := Nat.mul_lt_mul_of_lt_of_lt z z; omega
    · exact z
  have et : t = t₀ := by
    rcases Nat.lt_trichotomy t t₀ with q | q | q
    · have z := hup t₀ q
      rw [e4] at z
      have z := sq z
      have := V_lt q
      rw [hV] at z this
      omega
    · exact q
    · have z := hdn t₀ q
      rw [e4] at z
      have z := sq z
      have := V_lt q
      rw [hV] at z this
      omega
  subst et
  rw [ht]
  obtain ⟨m', e', hd', _⟩ := decode_pack false hlt
  refine ⟨false, m', e', hd', ?_⟩
  rw [val_pack false hlt, hV, ← hK, sgn_mul, Int.natCast_pow]
  rfl
end Mine
end
section
set_option exponentiation.threshold 3000
namespace Mine
open PySem PySem.Float64 PySem.Builtin.Math

theorem dist_core {M a b c : Nat} (h1 : a < c) (h2 : c < b) (he : dist M a = dist M b) (hc : dist M a ≤ dist M c) : False := by
  unfold dist at *
  omega

theorem right_unique {r r' : UInt64} {neg : Bool} {W D W' D' : Nat} (R : Right r neg W D) (R' : Right r' neg W' D') (h : W * D' = W' * D) (hD : 0 < D) (hD' : 0 < D') : r = r' := by
  obtain ⟨t, rfl, ht, hov, hn⟩ := R
  obtain ⟨t', rfl, ht', hov', hn'⟩ := R'
  have over : ∀ T : Nat, D * T ≤ 2 * W ↔ D' * T ≤ 2 * W' := fun T => by
    constructor
    · intro q
      refine Nat.le_of_mul_le_mul_left (c := D) ?_ hD
      have := Nat.mul_le_mul_left D' q
      calc D * (D' * T) = D' * (D * T) := by ac_rfl
        _ ≤ D' * (2 * W) := this
        _ = 2 * (W * D') := by ac_rfl
        _ = D * (2 * W') := by rw [h]; ac_rfl
    · intro q
      refine Nat.le_of_mul_le_mul_left (c := D') ?_ hD'
      have := Nat.mul_le_mul_left D q
      calc D' * (D * T) = D * (D' * T) := by ac_rfl
        _ ≤ D * (2 * W') := this
        _ = 2 * (W' * D) := by ac_rfl
        _ = D' * (2 * W) := by rw [← h]; ac_rfl
  have hinf : t = infMag ↔ t' = infMag := hov.trans ((over _).trans hov'.symm)
  by_cases q : t = infMag
  · rw [q, hinf.mp q]
  have q' : ¬ t' = infMag := fun z => q (hinf.mpr z)
  have hn := hn (by omega)
  have hn' := hn' (by omega)
  have sc : ∀ v, D' * dist W (D * v) = dist (W * D') (D * D' * v) := fun v => by
    rw [← dist_mul]; congr 1 <;> ac_rfl
  have sc' : ∀ v, D * dist W' (D' * v) = dist (W * D') (D * D' * v) := fun v => by
    rw [← dist_mul, h]; congr 1 <;> ac_rfl
  have le1 : dist (W * D') (D * D' * V t) ≤ dist (W * D') (D * D' * V t') := by rw [← sc, ← sc]; exact Nat.mul_le_mul_left _ (hn t').1
  have le2 : dist (W * D') (D * D' * V t') ≤ dist (W * D') (D * D' * V t) := by rw [← sc', ← sc']; exact Nat.mul_le_mul_left _ (hn' t).1
  have he := Nat.le_antisymm le1 le2
  have hp : 0 < D * D' := Nat.mul_pos hD hD'
  have even1 : V t' ≠ V t → t % 2 = 0 := fun z => (hn t').2 z (by
    rw [← sc, ← sc] at he
    exact Nat.eq_of_mul_eq_mul_left hD' he)
  have even2 : V t ≠ V t' → t' % 2 = 0 := fun z => (hn' t).2 z (by
    rw [← sc', ← sc'] at he
    exact (Nat.eq_of_mul_eq_mul_left hD he).symm)
  have min1 : ∀ u, dist (W * D') (D * D' * V t) ≤ dist (W * D') (D * D' * V u) := fun u => by rw [← sc, ← sc]; exact Nat.mul_le_mul_left _ (hn u).1
  rcases Nat.lt_trichotomy t t' with z | z | z
  · exfalso
    have l := V_lt z
    have e1 := even1 (by omega)
    have e2 := even2 (by omega)
    exact dist_core (Nat.mul_lt_mul_of_pos_left (V_lt (Nat.lt_succ_self t)) hp) (Nat.mul_lt_mul_of_pos_left (V_lt (show t + 1 < t' by omega)) hp) he (min1 _)
  · rw [z]
  · exfalso
    have l := V_lt z
    have e1 := even1 (by omega)
    have e2 := even2 (by omega)
    exact dist_core (Nat.mul_lt_mul_of_pos_left (V_lt (Nat.lt_succ_self t')) hp) (Nat.mul_lt_mul_of_pos_left (V_lt (show t' + 1 < t by omega)) hp) he.symm (he ▸ min1 _)

theorem cmp_self {x : UInt64} (h : isNaN x = false) : cmp x x = some .eq := by
  unfold isNaN at h
  unfold cmp
  cases hd : decode x with
  | nan => rw [hd] at h; cases h
  | inf s => simp [compare, compareOfLessAndEq]
  | fin s m e =>
    show some (compare (align s m e s m e).1 (align s m e s m e).2.1) = _
    unfold align
    simp [compare, compareOfLessAndEq]

theorem sgn_flag {s : Bool} {a : Int} (h : a = sgn s a.natAbs) (h0 : a ≠ 0) : s = decide (a < 0) := by
  unfold sgn at h
  cases s <;> simp at h ⊢ <;> omega

/-- the quotient of two whole floats is what the ints' true division gives -/
theorem div_same {x y : UInt64} {a b c d : Int} (hx : IsF x a) (hy : IsF y b) (hb : b ≠ 0) (hd : d ≠ 0) (h : a * d = c * b) :
    cmp (div x y) (ofFrac (decide (c < 0) != decide (d < 0)) c.natAbs d.natAbs) = some .eq := by
  by_cases h0 : a = 0
  · have hc : c = 0 := by
      rw [h0, Int.zero_mul] at h
      rcases Int.mul_eq_zero.mp h.symm with q | q
      · exact q
      · exact absurd q hb
    have q1 : IsF (div x y) 0 := isF_div (q := 0) (b := b) (by rw [Int.zero_mul]; rwa [h0] at hx) hy hb (by decide)
    have R := ofFrac_right (neg := decide (c < 0) != decide (d < 0)) (n := c.natAbs) (d := d.natAbs) (W := c.natAbs * 2 ^ 1074) (D := d.natAbs) (by omega) rfl (by omega)
    have q2 := right_exact R (N := 0) (by rw [hc]; simp) (by omega) (by decide)
    have : sgn (decide (c < 0) != decide (d < 0)) (0 : Nat) = 0 := by unfold sgn; split <;> simp
    rw [this] at q2
    rw [isF_cmp q1 q2]
    rfl
  · have hc : c ≠ 0 := fun z => by
      rw [z, Int.zero_mul] at h
      rcases Int.mul_eq_zero.mp h with q | q
      · exact h0 q
      · exact hd q
    obtain ⟨s, m, e, hdx, hv⟩ := hx
    obtain ⟨s', m', e', hdy, hv'⟩ := hy
    have R := div_right hdx hdy (fun z => hb ((isF_nonzero hdy hv').mp z))
    rw [hv, hv', natAbs_K, natAbs_K] at R
    have f1 := sgn_flag (sgn_val_n hdx hv) h0
    have f2 := sgn_flag (sgn_val_n hdy hv') hb
    have R2 := ofFrac_right (neg := decide (c < 0) != decide (d < 0)) (n := c.natAbs) (d := d.natAbs) (W := c.natAbs * 2 ^ 1074) (D := d.natAbs) (by omega) rfl (by omega)
    have flags : (s != s') = (decide (c < 0) != decide (d < 0)) := by
      rw [f1, f2]
      have key : (a < 0 ↔ b < 0) ↔ (c < 0 ↔ d < 0) := by
        have sg : ∀ {u v : Int}, u ≠ 0 → v ≠ 0 → ((u < 0 ↔ v < 0) ↔ 0 < u * v) := fun {u v} hu hv => by
          rcases Int.lt_or_gt_of_ne hu with z | z <;> rcases Int.lt_or_gt_of_ne hv with y | y
          · have := Int.mul_pos_of_neg_of_neg z y; simp [z, y, this]
          · have := Int.mul_neg_of_neg_of_pos z y
            constructor
            · intro q; omega
            · intro q; omega
          · have := Int.mul_neg_of_pos_of_neg z y
            constructor
            · intro q; omega
            · intro q; omega
          · have := Int.mul_pos z y
            constructor
            · intro _; exact this
            · intro _; constructor <;> intro q <;> omega
        rw [sg h0 hb, sg hc hd]
        have e1 : a * b * (d * d) = c * d * (b * b) := by
          calc a * b * (d * d) = (a * d) * (b * d) := by ac_rfl
            _ = (c * b) * (b * d) := by rw [h]
            _ = c * d * (b * b) := by ac_rfl
        have p1 : 0 < d * d := by
          rcases Int.lt_or_gt_of_ne hd with z | z
          · exact Int.mul_pos_of_neg_of_neg z z
          · exact Int.mul_pos z z
        have p2 : 0 < b * b := by
          rcases Int.lt_or_gt_of_ne hb with z | z
          · exact Int.mul_pos_of_neg_of_neg z z
          · exact Int.mul_pos z z
        constructor
        · intro q
          have := Int.mul_pos q p1
          rw [e1] at this
          exact Int.pos_of_mul_pos_left this p2 |> fun z => z
        · intro q
          have := Int.mul_pos q p2
          rw [← e1] at this
          exact Int.pos_of_mul_pos_left this p1 |> fun z => z
      by_cases z1 : a < 0 <;> by_cases z2 : b < 0 <;> by_cases z3 : c < 0 <;> by_cases z4 : d < 0 <;> simp [z1, z2, z3, z4] at key ⊢
    rw [← flags] at R2 ⊢
    have e : div x y = ofFrac (s != s') c.natAbs d.natAbs := by
      refine right_unique R R2 ?_ (Nat.mul_pos (by omega) (Nat.two_pow_pos _)) (by omega)
      have hn : a.natAbs * d.natAbs = c.natAbs * b.natAbs := by rw [← Int.natAbs_mul, ← Int.natAbs_mul, h]
      generalize (2 : Nat) ^ 1074 = K
      calc a.natAbs * K * K * d.natAbs = a.natAbs * d.natAbs * (K * K) := by ac_rfl
        _ = c.natAbs * b.natAbs * (K * K) := by rw [hn]
        _ = c.natAbs * K * (b.natAbs * K) := by ac_rfl
    rw [e]
    have hn := PySem.W.isNaN_pack (s != s') (PySem.W.roundMag_le c.natAbs d.natAbs)
    unfold ofFrac
    exact cmp_self hn
end Mine
end
section
set_option exponentiation.threshold 3000
namespace Mine
open PySem PySem.Float64 PySem.Builtin.Math

/-- fsum's partial sums, the sum so far a whole number -/
noncomputable def PS (ps : List UInt64) (S : Int) : Prop := (ps = [] ∧ S = 0) ∨ ∃ p, ps = [p] ∧ IsF p S

theorem isZero_of {x : UInt64} {a : Int} (h : IsF x a) (h0 : a = 0) : isZero x = true := by rw [isF_isZero h, h0]; rfl

theorem two_sum {x y : UInt64} {a b : Int} (hx : IsF x a) (hy : IsF y b) (ha : a.natAbs ≤ 2 ^ 53) (hb : b.natAbs ≤ 2 ^ 53) (h : (a + b).natAbs ≤ 2 ^ 53) :
    IsF (add x y) (a + b) ∧ IsF (sub y (sub (add x y) x)) 0 := by
  have h1 := isF_add hx hy h
  have h2 := isF_sub h1 hx (by rw [show a + b - a = b by omega]; exact hb)
  rw [show a + b - a = b by omega] at h2
  have h3 := isF_sub hy h2 (by rw [Int.sub_self]; decide)
  rw [Int.sub_self] at h3
  exact ⟨h1, h3⟩

theorem fsumAdd_exact {ps : List UInt64} {x : UInt64} {S a : Int} (hp : PS ps S) (hx : IsF x a) (hS : S.natAbs ≤ 2 ^ 53) (ha : a.natAbs ≤ 2 ^ 53) (h : (S + a).natAbs ≤ 2 ^ 53) :
    (fsumAdd ps x).1 = [] ∧ IsF (fsumAdd ps x).2 (S + a) := by
  rcases hp with ⟨rfl, rfl⟩ | ⟨p, rfl, hpS⟩
  · exact ⟨rfl, by rw [Int.zero_add]; exact hx⟩
  · have key : ∀ u v : UInt64, ∀ c d : Int, IsF u c → IsF v d → c.natAbs ≤ 2 ^ 53 → d.natAbs ≤ 2 ^ 53 → (c + d).natAbs ≤ 2 ^ 53 →
        (if isZero (sub v (sub (add u v) u)) then ([] : List UInt64) else [sub v (sub (add u v) u)]) = [] ∧ IsF (add u v) (c + d) := fun u v c d hu hv hc hd hcd => by
      obtain ⟨h1, h2⟩ := two_sum hu hv hc hd hcd
      rw [isZero_of h2 rfl]
      exact ⟨rfl, h1⟩
    unfold fsumAdd
    by_cases q : lt (abs x) (abs p) = true
    · rw [if_pos q]
      have := key p x S a hpS hx hS ha h
      exact this
    · rw [if_neg q]
      have := key x p a S hx hpS ha hS (by rw [Int.add_comm]; exact h)
      rw [Int.add_comm]
      exact this

theorem PS.next {x : UInt64} {S : Int} (hx : IsF x S) : PS (if isZero x then [] else [] ++ [x]) S := by
  rw [isF_isZero hx]
  by_cases h : S = 0
  · left; simp [h]
  · right; exact ⟨x, by simp [h], hx⟩

theorem fsumEnd_exact {ps : List UInt64} {S : Int} (hp : PS ps S) : IsF (fsumEnd ps) S := by
  rcases hp with ⟨rfl, rfl⟩ | ⟨p, rfl, h⟩
  · exact isF_zero _
  · exact h

theorem expo1 {e f g : Int} (he : -1074 ≤ e) (hf : -1074 ≤ f) (hg : -1074 ≤ g) : (e + f - min (e + f) g).toNat + (min (e + f) g + 2148).toNat = (e + 1074).toNat + (f + 1074).toNat := by
  have h1 : 0 ≤ e + f - min (e + f) g := Int.sub_nonneg_of_le (Int.min_le_left _ _)
  have h2 : -2148 ≤ min (e + f) g := Int.le_min.mpr ⟨by omega, by omega⟩
  rw [← Int.toNat_add h1 (by omega), ← Int.toNat_add (by omega) (by omega)]
  congr 1
  generalize min (e + f) g = m
  omega
theorem expo2 {e f g : Int} (he : -1074 ≤ e) (hf : -1074 ≤ f) (hg : -1074 ≤ g) : (g - min (e + f) g).toNat + (min (e + f) g + 2148).toNat = (g + 1074).toNat + 1074 := by
  have h1 : 0 ≤ g - min (e + f) g := Int.sub_nonneg_of_le (Int.min_le_right _ _)
  have h2 : -2148 ≤ min (e + f) g := Int.le_min.mpr ⟨by omega, by omega⟩
  rw [← Int.toNat_add h1 (by omega), show (1074 : Nat) = (1074 : Int).toNat from rfl, ← Int.toNat_add (by omega) (by omega)]
  congr 1
  generalize min (e + f) g = m
  omega
theorem fma_p1 {x y : UInt64} {s s' : Bool} {m k : Nat} {e f g : Int} (hd : decode x = .fin s m e) (hd' : decode y = .fin s' k f) (hg : -1074 ≤ g) :
    sgn (s != s') (m * k * 2 ^ (e + f - min (e + f) g).toNat) * ((2 ^ (min (e + f) g + 2148).toNat : Nat) : Int) = val x * val y := by
  rw [← sgn_mul, val_eq hd, val_eq hd', ← sgn_sgn]
  congr 1
  rw [Nat.mul_assoc, ← Nat.pow_add, expo1 (decode_ge hd) (decode_ge hd') hg, Nat.pow_add]
  ac_rfl
theorem fma_p2 {z : UInt64} {s'' : Bool} {n : Nat} {e f g : Int} (hd'' : decode z = .fin s'' n g) (he : -1074 ≤ e) (hf : -1074 ≤ f) :
    sgn s'' (n * 2 ^ (g - min (e + f) g).toNat) * ((2 ^ (min (e + f) g + 2148).toNat : Nat) : Int) = val z * ((2 ^ 1074 : Nat) : Int) := by
  rw [← sgn_mul, val_eq hd'', Nat.mul_assoc, ← Nat.pow_add, expo2 he hf (decode_ge hd''), Nat.pow_add, ← Nat.mul_assoc, sgn_mul]

theorem fma_zero {x y z : UInt64} {a b c : Int} (hx : IsF x a) (hy : IsF y b) (hz : IsF z c) (h : a * b + c = 0) : IsF (fma x y z) 0 := by
  obtain ⟨s, m, e, hd, hv⟩ := hx
  obtain ⟨s', k, f, hd', hv'⟩ := hy
  obtain ⟨s'', n, g, hd'', hv''⟩ := hz
  have he := decode_ge hd
  have hf := decode_ge hd'
  have hg := decode_ge hd''
  have hsum : (sgn (s != s') (m * k * 2 ^ (e + f - min (e + f) g).toNat) + sgn s'' (n * 2 ^ (g - min (e + f) g).toNat)) = 0 := by
    have p1 := fma_p1 hd hd' hg
    have p2 : sgn s'' (n * 2 ^ (g - min (e + f) g).toNat) * ((2 ^ (min (e + f) g + 2148).toNat : Nat) : Int) = val z * 2 ^ 1074 := by
      rw [fma_p2 hd'' he hf, Int.natCast_pow]
      rfl
    have hp : (0 : Int) < ((2 ^ (min (e + f) g + 2148).toNat : Nat) : Int) := Int.ofNat_lt.mpr (Nat.two_pow_pos _)
    refine Int.eq_of_mul_eq_mul_right (Int.ne_of_gt hp) ?_
    rw [Int.zero_mul, Int.add_mul, p1, p2, hv, hv', hv'']
    generalize (2 : Int) ^ 1074 = K
    calc a * K * (b * K) + c * K * K = (a * b + c) * (K * K) := by rw [Int.add_mul]; congr 1 <;> ac_rfl
      _ = 0 := by rw [h, Int.zero_mul]
  have e1 : fma x y z = zero (if m * k == 0 && n == 0 then (s != s') && s'' else false) := by
    unfold fma
    rw [hd, hd', hd'']
    show (if (sgn (s != s') (m * k * 2 ^ (e + f - min (e + f) g).toNat) + sgn s'' (n * 2 ^ (g - min (e + f) g).toNat)) == 0 then _ else _) = _
    rw [hsum]
    rfl
  rw [e1]
  exact isF_zero _

theorem dlSum_exact {x y : UInt64} {a b : Int} (hx : IsF x a) (hy : IsF y b) (ha : a.natAbs ≤ 2 ^ 53) (hb : b.natAbs ≤ 2 ^ 53) (h : (a + b).natAbs ≤ 2 ^ 53) :
    IsF (dlSum x y).1 (a + b) ∧ IsF (dlSum x y).2 0 := by
  have h1 := isF_add hx hy h
  have h2 := isF_sub h1 hx (by rw [show a + b - a = b by omega]; exact hb)
  rw [show a + b - a = b by omega] at h2
  have h3 := isF_sub h1 h2 (by rw [show a + b - b = a by omega]; exact ha)
  rw [show a + b - b = a by omega] at h3
  have h4 := isF_sub hx h3 (by rw [Int.sub_self]; decide)
  rw [Int.sub_self] at h4
  have h5 := isF_sub hy h2 (by rw [Int.sub_self]; decide)
  rw [Int.sub_self] at h5
  have h6 := isF_add h4 h5 (by decide)
  exact ⟨h1, h6⟩

theorem dlMul_exact {x y : UInt64} {a b : Int} (hx : IsF x a) (hy : IsF y b) (h : (a * b).natAbs ≤ 2 ^ 53) : IsF (dlMul x y).1 (a * b) ∧ IsF (dlMul x y).2 0 := by
  have h1 := isF_mul hx hy h
  exact ⟨h1, fma_zero hx hy (isF_neg h1) (by omega)⟩

/-- sumprod's triple, its sum a whole number -/
noncomputable def T3 (t : UInt64 × UInt64 × UInt64) (S : Int) : Prop := IsF t.1 S ∧ IsF t.2.1 0 ∧ IsF t.2.2 0

theorem T3.zero : T3 (zero false, zero false, zero false) 0 := ⟨isF_zero _, isF_zero _, isF_zero _⟩

theorem tlFma_exact {x y : UInt64} {t : UInt64 × UInt64 × UInt64} {a b S : Int} (hx : IsF x a) (hy : IsF y b) (ht : T3 t S) (hS : S.natAbs ≤ 2 ^ 53) (h : (a * b).natAbs ≤ 2 ^ 53) (h2 : (S + a * b).natAbs ≤ 2 ^ 53) :
    T3 (tlFma x y t) (S + a * b) := by
  obtain ⟨t1, t2, t3⟩ := ht
  obtain ⟨p1, p2⟩ := dlMul_exact hx hy h
  obtain ⟨s1, s2⟩ := dlSum_exact t1 p1 hS h h2
  obtain ⟨r1, r2⟩ := dlSum_exact t2 p2 (by decide) (by decide) (by decide)
  obtain ⟨q1, q2⟩ := dlSum_exact r1 s2 (by decide) (by decide) (by decide)
  exact ⟨s1, q1, isF_add (isF_add t3 r2 (by decide)) q2 (by decide)⟩

theorem tlToFloat_exact {t : UInt64 × UInt64 × UInt64} {S : Int} (ht : T3 t S) (hS : S.natAbs ≤ 2 ^ 53) : IsF (tlToFloat t) S := by
  obtain ⟨t1, t2, t3⟩ := ht
  obtain ⟨p1, p2⟩ := dlSum_exact t2 t1 (by decide) hS (by rw [Int.zero_add]; exact hS)
  have := isF_add (isF_add t3 p2 (by decide)) p1 (by simpa using hS)
  rw [show (0 : Int) + 0 + (0 + S) = S by omega] at this
  exact this
end Mine
end
section
set_option maxRecDepth 100000
set_option exponentiation.threshold 3000
namespace Mine
open PySem PySem.Float64 PySem.Builtin.Math PySem.W PySem.Calls PyProof.Rows
namespace B
theorem entry_fsum_loop : entryFor table "math.fsum.loop" = some Builtin.«math.fsum.loop» := entryFor_of_tree (by kernel_rfl)
theorem plain_fsum_loop : plainId "math.fsum.loop" = true := by decide +kernel
theorem entry_fsum : entryFor table "math.fsum" = some Builtin.«math.fsum» := entryFor_of_tree (by kernel_rfl)
theorem plain_fsum : plainId "math.fsum" = true := by decide +kernel
theorem kind_fsum : builtinKind "math.fsum" = none := by kernel_rfl
theorem args_fsum (a : Value) : argsOk "math.fsum" ⟨[a], []⟩ := by unfold argsOk; kernel_rfl
end B

/-- a number that is whole: an int, or a float that holds one -/
inductive NumE : Value → Int → Prop
  | int (n : Int) (t : Tok) : n.natAbs ≤ 2 ^ 53 → NumE (.int n t) n
  | float (b : UInt64) (t : Tok) (n : Int) : IsF b n → NumE (.float b t) n

/-- a tuple of floats' bits, as fsum packs them -/
noncomputable def bitsTup (l : List UInt64) : Obj := { cls := .type "tuple", dict := none, data := .seq (l.map fun x => rawInt x.toNat).toArray }

section
variable {prog : Program} {w : World} {A : Around} {R : Result → Shared → Prop} {I : Addr} {fp wr : List Addr} {G : Array GenState → Array GenState → Prop} {P : Nat → Value → Prop} {St : Nat → Shared → Prop}

theorem int_fits {n : Int} (h : n.natAbs ≤ 2 ^ 53) : ¬ PySem.Flt.Over n := by
  intro o
  unfold PySem.Flt.Over at o
  have : (2 : Nat) ^ 53 < 2 ^ 1024 - 2 ^ 970 := by decide +kernel
  generalize (2 : Nat) ^ 1024 - 2 ^ 970 = K at *
  omega

theorem realArg_num {E : Value → Shared → Prop} {s : Shared} {v : Value} {n : Int} {Q : UInt64 → Shared → Prop} (hA : A.handled = none) (h : NumE v n) (hQ : ∀ x tk, IsF x n → s.toks ≤ tk → Q x { s with toks := tk }) :
    wpAny (model prog w) A (realArg v) Q E s := by
  cases h with
  | int _ t hb => exact PySem.Flt.realArg_int hA (fun o => absurd o (int_fits hb)) fun _ => hQ _ _ (isF_ofInt hb) (Nat.le_succ _)
  | float b t _ hb =>
    show wpAny _ _ (pure b) _ _ s
    exact wpAny_pure (hQ _ s.toks hb (Nat.le_refl _))

theorem unpack_pack (l : List UInt64) (f : Value → UInt64) (hf : ∀ x : UInt64, f (rawInt x.toNat) = x) : ((l.map fun x => rawInt x.toNat).toArray.toList).map f = l := by
  rw [List.toList_toArray, List.map_map]
  induction l with
  | nil => rfl
  | cons x r ih => rw [List.map_cons, ih]; congr 1; exact hf x

theorem unpack_step {M : Model} {A : Around} {α : Type} {E : Value → Shared → Prop} {s : Shared} {a : Addr} {l : List UInt64} {k : List UInt64 → Sem α} {Q : α → Shared → Prop} (h : s.heap.get? a = some (bitsTup l)) (hk : wpAny M A (k l) Q E s) :
    wpAny M A ((seqItems? (.ref a) >>= fun o => (pure (((o.getD #[]).toList).map fun | .int i _ => i.toNat.toUInt64 | _ => 0) : Sem (List UInt64))) >>= k) Q E s := by
  refine wpAny_bind (wpAny_bind (wpAny_seqItems h rfl (wpAny_pure ?_)))
  have := unpack_pack l (fun | .int i _ => i.toNat.toUInt64 | _ => 0) (fun x => PySem.Flt.comp_back x)
  show wpAny M A (k _) Q E s
  rw [show ((some (l.map fun x => rawInt x.toNat).toArray).getD #[]).toList = (l.map fun x => rawInt x.toNat).toArray.toList from rfl, this]
  exact hk

theorem pack_step {M : Model} {A : Around} {α : Type} {E : Value → Shared → Prop} {s : Shared} {l : List UInt64} {k : Value → Sem α} {Q : α → Shared → Prop} (hl : l.length ≤ 2) (hk : wpAny M A (k (.ref s.heap.objs.size)) Q E { s with heap := s.heap.push (bitsTup l) }) :
    wpAny M A (newTuple (l.map fun x => rawInt x.toNat) >>= k) Q E s := by
  unfold newTuple
  have hs : sizeOk (Data.seq (l.map fun x => rawInt x.toNat).toArray) := by
    match l, hl with
    | [], _ => exact (by size_fits : sizeOk (Data.seq (([] : List Value)).toArray))
    | [a], _ => exact (by size_fits : sizeOk (Data.seq ([rawInt a.toNat]).toArray))
    | [a, b], _ => exact (by size_fits : sizeOk (Data.seq ([rawInt a.toNat, rawInt b.toNat]).toArray))
  exact wpAny_bind (wpAny_newObj_type hk hs)

theorem fsum_loop {xs : List Int} (hA : A.handled = none) (W : WalksS prog w A.in1 I fp wr G xs.length P St) (hval : ∀ i v, P i v → ∃ n, xs[i]? = some n ∧ NumE v n)
    (hsm : ∀ i, (xs.take i).sum.natAbs ≤ 2 ^ 53) (hsm2 : ∀ n ∈ xs, n.natAbs ≤ 2 ^ 53) :
    ∀ (k i : Nat) (s : Shared) (ap as : Addr) (ps : List UInt64), PS ps (xs.take i).sum → xs.length - i = k → i ≤ xs.length → St i s → ap ∉ fp → (∀ b ∈ fp, b < as) → s.heap.get? ap = some (bitsTup ps) → s.heap.get? as = some (bitsTup [zero false, zero false]) →
    (∀ s' b t, IsF b xs.sum → Moved wr G s s' → R (.ok (.ret (.float b t))) s') → codeAny (model prog w) A (.builtin "math.fsum.loop" ⟨[.ref I, .ref ap, .ref as], []⟩) R s := by
  intro k
  induction k with
  | zero =>
    intro i s ap as ps hps hk hi hst hap has hp hs hR
    have hin : i = xs.length := by omega
    subst hin
    rw [List.take_length] at hps
    refine codeAny_builtin B.entry_fsum_loop ?_
    rw [Around.under_plainId B.plain_fsum_loop _]
    refine unpack_step hp (unpack_step hs ?_)
    show wpAny _ A.in1 (pyNext (.ref I) >>= _) _ _ s
    refine wpAny_bind (W.done s _ _ hst fun s' hm => ?_)
    show wpAny _ A.in1 (if (!isZero (Float64.zero false)) = true then _ else Builtin.Float.retFloat (fsumEnd ps)) _ _ s'
    rw [if_neg (by rw [isF_isZero (isF_zero false)]; decide)]
    show wpAny _ A.in1 (mkFloat (fsumEnd ps) >>= _) _ _ s'
    refine wpAny_bind (PySem.Flt.wp_mkFloat (wpAny_pure ?_))
    exact hR { s' with toks := s'.toks + 1 } _ _ (fsumEnd_exact hps) (hm.then_heap (Nat.le_succ _) fun _ _ _ e => e)
  | succ k ih =>
    intro i s ap as ps hps hk hi hst hap has hp hs hR
    have hlt : i < xs.length := by omega
    refine codeAny_builtin B.entry_fsum_loop ?_
    rw [Around.under_plainId B.plain_fsum_loop _]
    unfold Builtin.«math.fsum.loop»
    refine unpack_step hp (unpack_step hs ?_)
    show wpAny _ A.in1 (pyNext (.ref I) >>= _) _ _ s
    refine wpAny_bind (W.item i s _ _ hlt hst fun v s' hP hst' hm => ?_)
    obtain ⟨n, hn, hv⟩ := hval i v hP
    have htake : (xs.take (i + 1)).sum = (xs.take i).sum + n := by
      rw [List.take_add_one, hn]; simp
    have hn2 := hsm2 n (List.mem_of_getElem? hn)
    show wpAny _ A.in1 (holding [v] (realArg v) >>= _) _ _ s'
    refine wpAny_bind (wpAny_holding (realArg_num hA hv fun x tk hx htk => ?_))
    obtain ⟨q1, q2⟩ := fsumAdd_exact hps hx (hsm i) hn2 (htake ▸ hsm (i + 1))
    rw [← htake] at q2
    generalize hfa : fsumAdd ps x = fa at q1 q2
    obtain ⟨low, top⟩ := fa
    dsimp only at q1 q2
    subst q1
    show wpAny _ A.in1 (match fsumAdd ps x with | (low, top) => _) _ _ _
    rw [hfa]
    show wpAny _ A.in1 (if isFinite top = true then _ else _) _ _ _
    rw [if_pos (isF_finite q2)]
    have has' : as ∉ wr := fun h => Nat.lt_irrefl _ (has as (W.sub _ h))
    have hs' := hm.heap as _ has' hs
    have hlast := Heap.lt_size hs'
    refine pack_step (l := if isZero top = true then [] else [] ++ [top]) (by split <;> simp) ?_
    refine wpAny_pure ⟨plainId_quiet B.plain_fsum_loop _, ?_⟩
    refine ih (i + 1) _ _ _ _ (PS.next q2) (by omega) hlt (W.frame _ s' _ _ hst' htk fun b _ o e => Heap.get?_push_of_some _ e) ?_ has (Heap.get?_push_size _ rfl) (Heap.get?_push_of_some _ hs') ?_
    · intro h
      have := has _ h
      exact absurd this (Nat.not_lt.mpr (Nat.le_of_lt hlast))
    · intro s'' b t hb hm''
      exact hR s'' b t hb (Moved.trans W.gtrans (hm.then_heap htk fun b o _ e => Heap.get?_push_of_some _ e) hm'')

theorem call_fsum_walk {E : Value → Shared → Prop} {s : Shared} {x : Value} {xs : List Int} {Q : Value → Shared → Prop} (hA : A.handled = none)
    (hsm : ∀ i, (xs.take i).sum.natAbs ≤ 2 ^ 53) (hsm2 : ∀ n ∈ xs, n.natAbs ≤ 2 ^ 53)
    (h : wpAny (model prog w) A.in1 (pyIter x) (fun it s₂ => ∃ I fp wr G P St, it = .ref I ∧ WalksS prog w A.in1 I fp wr G xs.length P St ∧ St 0 s₂ ∧ (∀ b ∈ fp, b < s₂.heap.objs.size) ∧
      (∀ i v, P i v → ∃ n, xs[i]? = some n ∧ NumE v n) ∧ ∀ s' b t, IsF b xs.sum → Moved wr G s₂ s' → Q (.float b t) s') E s) :
    wpAny (model prog w) A (call (.builtin "math.fsum") [x]) Q E s := by
  refine call_function_tree B.kind_fsum B.plain_fsum B.entry_fsum (B.args_fsum _) ?_
  unfold Builtin.«math.fsum»
  refine wpAny_bind (wpAny_of_eq (show mathOne "fsum" ⟨[x], []⟩ = pure x from rfl) ?_)
  refine wpAny_bind (wpAny_mono h (fun it s₂ h₂ => ?_) fun _ _ e => e)
  obtain ⟨I, fp, wr, G, P, St, rfl, W, hst, hfp, hval, hQ⟩ := h₂
  refine pack_step (l := []) (by decide) ?_
  refine pack_step (l := [zero false, zero false]) (by decide) ?_
  have hsz : (s₂.heap.push (bitsTup [])).objs.size = s₂.heap.objs.size + 1 := Heap.size_push ..
  refine wpAny_pure ⟨plainId_quiet B.plain_fsum_loop _, fsum_loop hA W hval hsm hsm2 xs.length 0 _ _ _ [] (.inl ⟨rfl, rfl⟩) rfl (Nat.zero_le _)
    (W.frame 0 s₂ _ _ hst (Nat.le_refl _) fun b _ o e => Heap.get?_push_of_some _ (Heap.get?_push_of_some _ e)) (fun hm => Nat.lt_irrefl _ (hfp _ hm)) (fun b hb => ?_) (Heap.get?_push_of_some _ (Heap.get?_push_size _ rfl)) (Heap.get?_push_size _ rfl) fun s' b t hb hm => ?_⟩
  · have h1 : b < s₂.heap.objs.size := hfp b hb
    show b < (s₂.heap.push (bitsTup [])).objs.size
    rw [hsz]
    exact Nat.lt_succ_of_lt h1
  · refine hQ s' b t hb ⟨fun b o hw e => hm.heap b o hw (Heap.get?_push_of_some _ (Heap.get?_push_of_some _ e)), hm.gens, hm.drawn, hm.os, hm.toks⟩
end
end Mine
end
section
set_option maxRecDepth 100000
set_option exponentiation.threshold 3000
namespace Mine
open PySem PySem.Float64 PySem.Builtin.Math PySem.W PySem.Calls PyProof.Rows
namespace B
theorem entry_sumprod_loop : entryFor table "math.sumprod.loop" = some Builtin.«math.sumprod.loop» := entryFor_of_tree (by kernel_rfl)
theorem plain_sumprod_loop : plainId "math.sumprod.loop" = true := by decide +kernel
theorem entry_sumprod : entryFor table "math.sumprod" = some Builtin.«math.sumprod» := entryFor_of_tree (by kernel_rfl)
theorem plain_sumprod : plainId "math.sumprod" = true := by decide +kernel
theorem kind_sumprod : builtinKind "math.sumprod" = none := by kernel_rfl
theorem args_sumprod (a b : Value) : argsOk "math.sumprod" ⟨[a, b], []⟩ := by unfold argsOk; kernel_rfl
end B
/-- a number's float -/
inductive FloatOf : Value → UInt64 → Prop
  | float (b : UInt64) (t : Tok) : FloatOf (.float b t) b
  | int (n : Int) (t : Tok) : Float64.isInf (Float64.ofInt n) = false → FloatOf (.int n t) (Float64.ofInt n)
noncomputable def isFl : Value → Bool
  | .float .. => true
  | _ => false
noncomputable def triple (t : UInt64 × UInt64 × UInt64) : List UInt64 := [t.1, t.2.1, t.2.2]

section
variable {prog : Program} {w : World} {A : Around} {R : Result → Shared → Prop} {I₁ I₂ : Addr} {fp₁ wr₁ fp₂ wr₂ wr : List Addr} {G₁ G₂ G : Array GenState → Array GenState → Prop} {P₁ P₂ : Nat → Value → Prop} {St₁ St₂ : Nat → Shared → Prop}

theorem sumprod_floats {n : Nat} (W₁ : WalksS prog w A.in1 I₁ fp₁ wr₁ G₁ n P₁ St₁) (W₂ : WalksS prog w A.in1 I₂ fp₂ wr₂ G₂ n P₂ St₂)
    (h12 : ∀ i s s', St₂ i s → Moved wr₁ G₁ s s' → St₂ i s') (h21 : ∀ i s s', St₁ i s → Moved wr₂ G₂ s s' → St₁ i s')
    (w₁ : ∀ b ∈ wr₁, b ∈ wr) (w₂ : ∀ b ∈ wr₂, b ∈ wr) (g₁ : ∀ a b, G₁ a b → G a b) (g₂ : ∀ a b, G₂ a b → G a b) (gt : ∀ a b c, G a b → G b c → G a c)
    (J : Nat → UInt64 × UInt64 × UInt64 → Prop)
    (hval : ∀ i t u v, i < n → J i t → P₁ i u → P₂ i v → ∃ x y, FloatOf u x ∧ FloatOf v y ∧ (isFl u || isFl v) = true ∧ isFinite (tlFma x y t).1 = true ∧ J (i + 1) (tlFma x y t)) :
    ∀ (k i : Nat) (s : Shared) (hw at_ : Addr) (t : UInt64 × UInt64 × UInt64) (io fu : Bool) (tk₀ : Tok), J i t → n - i = k → i ≤ n → (fu = true ∨ i < n) → St₁ i s → St₂ i s → (∀ b ∈ fp₁, b < hw) → (∀ b ∈ fp₂, b < hw) → hw ≤ at_ → (∃ o, s.heap.get? hw = some o) →
    s.heap.get? at_ = some (bitsTup (triple t)) →
    (∀ s' t tk, J n t → Moved wr G s s' → R (.ok (.ret (.float (Float64.add (Float64.ofInt 0) (tlToFloat t)) tk))) s') →
    codeAny (model prog w) A (.builtin "math.sumprod.loop" ⟨[.ref I₁, .ref I₂, .int 0 tk₀, .bool io, rawInt 0, .bool false, .bool true, .ref at_, .bool fu], []⟩) R s := by
  intro k
  induction k with
  | zero =>
    intro i s hw at_ t io fu tk₀ hJ hk hi hfu hst₁ hst₂ hf₁ hf₂ hle hhw hat hR
    have hin : i = n := by omega
    subst hin
    refine codeAny_builtin B.entry_sumprod_loop ?_
    rw [Around.under_plainId B.plain_sumprod_loop _]
    unfold Builtin.«math.sumprod.loop»
    refine wpAny_bind (wpAny_seqItems hat rfl ?_)
    show wpAny _ A.in1 (pyNext (.ref I₁) >>= _) _ _ s
    refine wpAny_bind (W₁.done s _ _ hst₁ fun s₁ hm₁ => ?_)
    show wpAny _ A.in1 (holding [] (pyNext (.ref I₂)) >>= _) _ _ s₁
    refine wpAny_bind (wpAny_holding (W₂.done s₁ _ _ (h12 _ _ _ hst₂ hm₁) fun s₂ hm₂ => ?_))
    have hfu : fu = true := hfu.resolve_right (Nat.lt_irrefl _)
    subst hfu
    have tail : wpAny (model prog w) A.in1 (rule "math.sumprod.leaves-floats" >>= fun _ => mkFloat (tlToFloat (((t.1.toNat : Int)).toNat.toUInt64, ((t.2.1.toNat : Int)).toNat.toUInt64, ((t.2.2.toNat : Int)).toNat.toUInt64)) >>= fun f => holding (.int 0 tk₀ :: ([] ++ [])) (binaryOp .Add (.int 0 tk₀) f) >>= fun total => (ret total : Sem PySem.Fin))
        (fun fin s' => match fin with | .done f => R (.ok f) s' | .again c' => c'.quiet = true ∧ codeAny (model prog w) A c' R s') (fun e s' => R (.error e) s') s₂ := by
      refine wpAny_bind (wpAny_rule ?_)
      simp only [PySem.Flt.comp_back]
      refine wpAny_bind (PySem.Flt.wp_mkFloat ?_)
      refine wpAny_bind (wpAny_holding (AutoFloatOps.add_if_1 (by decide +kernel) ?_))
      exact wpAny_pure (hR { s₂ with toks := s₂.toks + 1 + 1 } t _ hJ (((Moved.trans gt ⟨fun b o hb e => hm₁.heap b o (fun h => hb (w₁ b h)) e, g₁ _ _ hm₁.gens, hm₁.drawn, hm₁.os, hm₁.toks⟩
        ⟨fun b o hb e => hm₂.heap b o (fun h => hb (w₂ b h)) e, g₂ _ _ hm₂.gens, hm₂.drawn, hm₂.os, hm₂.toks⟩)).then_heap (by show s₂.toks ≤ s₂.toks + 1 + 1; omega) fun _ _ _ e => e))
    cases io with
    | false => exact tail
    | true => exact wpAny_bind (wpAny_rule tail)
  | succ k ih =>
    intro i s hw at_ t io fu tk₀ hJ hk hi hfu hst₁ hst₂ hf₁ hf₂ hle hhw hat hR
    have hlt : i < n := by omega
    refine codeAny_builtin B.entry_sumprod_loop ?_
    rw [Around.under_plainId B.plain_sumprod_loop _]
    unfold Builtin.«math.sumprod.loop»
    refine wpAny_bind (wpAny_seqItems hat rfl ?_)
    show wpAny _ A.in1 (pyNext (.ref I₁) >>= _) _ _ s
    refine wpAny_bind (W₁.item i s _ _ hlt hst₁ fun u s₁ hu hst₁' hm₁ => ?_)
    show wpAny _ A.in1 (holding [u] (pyNext (.ref I₂)) >>= _) _ _ s₁
    refine wpAny_bind (wpAny_holding (W₂.item i s₁ _ _ hlt (h12 _ _ _ hst₂ hm₁) fun v s₂ hv hst₂' hm₂ => ?_))
    obtain ⟨x, y, hx, hy, hfl, hfin, hJ'⟩ := hval i t u v hlt hJ hu hv
    have hM : Moved wr G s s₂ := Moved.trans gt ⟨fun b o hb e => hm₁.heap b o (fun h => hb (w₁ b h)) e, g₁ _ _ hm₁.gens, hm₁.drawn, hm₁.os, hm₁.toks⟩
        ⟨fun b o hb e => hm₂.heap b o (fun h => hb (w₂ b h)) e, g₂ _ _ hm₂.gens, hm₂.drawn, hm₂.os, hm₂.toks⟩
    have hst₁'' := h21 _ _ _ hst₁' hm₂
    obtain ⟨ohw, hhw⟩ := hhw
    have n₁ : hw ∉ wr₁ := fun h => Nat.lt_irrefl _ (hf₁ _ (W₁.sub _ h))
    have n₂ : hw ∉ wr₂ := fun h => Nat.lt_irrefl _ (hf₂ _ (W₂.sub _ h))
    have hhw₂ := hm₂.heap _ _ n₂ (hm₁.heap _ _ n₁ hhw)
    have hlast := Heap.lt_size hhw₂
    have tail : wpAny (model prog w) A.in1 (newTuple ((triple (tlFma x y t)).map fun x => rawInt x.toNat) >>= fun t' => again (.builtin "math.sumprod.loop" ⟨[.ref I₁, .ref I₂, .int 0 tk₀, .bool false, rawInt 0, .bool false, .bool true, t', .bool true], []⟩))
        (fun fin s' => match fin with | .done f => R (.ok f) s' | .again c' => c'.quiet = true ∧ codeAny (model prog w) A c' R s') (fun e s' => R (.error e) s') s₂ := by
      unfold newTuple
      refine wpAny_bind (wpAny_newObj_type ?_ (by unfold triple; exact (by size_fits : sizeOk (Data.seq ([_, _, _] : List Value).toArray))))
      refine wpAny_pure ⟨plainId_quiet B.plain_sumprod_loop _, ?_⟩
      refine ih (i + 1) _ hw _ (tlFma x y t) false true tk₀ hJ' (by omega) hlt (.inl rfl) (W₁.frame _ s₂ _ _ hst₁'' (Nat.le_refl _) fun b _ o e => Heap.get?_push_of_some _ e) (W₂.frame _ s₂ _ _ hst₂' (Nat.le_refl _) fun b _ o e => Heap.get?_push_of_some _ e)
        hf₁ hf₂ (Nat.le_of_lt hlast) ⟨_, Heap.get?_push_of_some _ hhw₂⟩ (Heap.get?_push_size _ rfl) fun s' t' tk hJt hm' => ?_
      exact hR s' t' tk hJt (Moved.trans gt (hM.then_heap (Nat.le_refl _) fun b o _ e => Heap.get?_push_of_some _ e) hm')
    have et : ((((t.1.toNat : Int)).toNat.toUInt64, ((t.2.1.toNat : Int)).toNat.toUInt64, ((t.2.2.toNat : Int)).toNat.toUInt64) : UInt64 × UInt64 × UInt64) = t := by simp only [PySem.Flt.comp_back]
    have hfin' : isFinite (tlFma x y ((((t.1.toNat : Int)).toNat.toUInt64, ((t.2.1.toNat : Int)).toNat.toUInt64, ((t.2.2.toNat : Int)).toNat.toUInt64) : UInt64 × UInt64 × UInt64)).1 = true := by rw [et]; exact hfin
    rw [← et] at tail
    clear ih hR hJ' hst₁ hst₂ hst₁' hst₂' hst₁'' hfin
    cases hx with
    | float bx tx => cases hy with
      | float cy ty =>
        cases io with
        | false =>
          repeat (first | refine wpAny_ite_false rfl ?_ | refine wpAny_ite_true rfl ?_)
          exact wpAny_ite_true (decide_eq_true hfin') tail
        | true =>
          refine wpAny_bind (wpAny_rule ?_)
          repeat (first | refine wpAny_ite_false rfl ?_ | refine wpAny_ite_true rfl ?_)
          exact wpAny_ite_true (decide_eq_true hfin') tail
      | int n' ty h =>
        cases io with
        | false =>
          repeat (first | refine wpAny_ite_false rfl ?_ | refine wpAny_ite_true rfl ?_)
          simp only [h]
          exact wpAny_ite_true (decide_eq_true hfin') tail
        | true =>
          refine wpAny_bind (wpAny_rule ?_)
          repeat (first | refine wpAny_ite_false rfl ?_ | refine wpAny_ite_true rfl ?_)
          simp only [h]
          exact wpAny_ite_true (decide_eq_true hfin') tail
    | int n' tx h => cases hy with
      | float cy ty =>
        cases io with
        | false =>
          repeat (first | refine wpAny_ite_false rfl ?_ | refine wpAny_ite_true rfl ?_)
          simp only [h]
          exact wpAny_ite_true (decide_eq_true hfin') tail
        | true =>
          refine wpAny_bind (wpAny_rule ?_)
          repeat (first | refine wpAny_ite_false rfl ?_ | refine wpAny_ite_true rfl ?_)
          simp only [h]
          exact wpAny_ite_true (decide_eq_true hfin') tail
      | int _ _ _ => exact absurd hfl (by simp [isFl])

theorem sumprod_ints {xs ys : List Int} (hlen : ys.length = xs.length) (W₁ : WalksS prog w A.in1 I₁ fp₁ wr₁ G₁ xs.length P₁ St₁) (W₂ : WalksS prog w A.in1 I₂ fp₂ wr₂ G₂ xs.length P₂ St₂)
    (h12 : ∀ i s s', St₂ i s → Moved wr₁ G₁ s s' → St₂ i s') (h21 : ∀ i s s', St₁ i s → Moved wr₂ G₂ s s' → St₁ i s')
    (w₁ : ∀ b ∈ wr₁, b ∈ wr) (w₂ : ∀ b ∈ wr₂, b ∈ wr) (g₁ : ∀ a b, G₁ a b → G a b) (g₂ : ∀ a b, G₂ a b → G a b) (gt : ∀ a b c, G a b → G b c → G a c)
    (hv₁ : ∀ i u, P₁ i u → ∃ a t, u = .int a t ∧ xs[i]? = some a) (hv₂ : ∀ i u, P₂ i u → ∃ a t, u = .int a t ∧ ys[i]? = some a)
    (S : Nat → Int) (hS : ∀ i a b, xs[i]? = some a → ys[i]? = some b → S (i + 1) = S i + a * b) (hb : ∀ i a b, xs[i]? = some a → ys[i]? = some b → a.natAbs < 2 ^ 62 ∧ b.natAbs < 2 ^ 62 ∧ (a * b).natAbs < 2 ^ 62 ∧ (S (i + 1)).natAbs < 2 ^ 62)
    (at_ : Addr) (t : UInt64 × UInt64 × UInt64) (hat₁ : at_ ∉ fp₁) (hat₂ : at_ ∉ fp₂) :
    ∀ (k i : Nat) (s : Shared) (iu : Bool) (tk₀ : Tok), xs.length - i = k → i ≤ xs.length → (iu = true ∨ i < xs.length) → St₁ i s → St₂ i s →
    s.heap.get? at_ = some (bitsTup (triple t)) →
    (∀ s' tk, Moved wr G s s' → R (.ok (.ret (.int (S xs.length) tk))) s') →
    codeAny (model prog w) A (.builtin "math.sumprod.loop" ⟨[.ref I₁, .ref I₂, .int 0 tk₀, .bool true, rawInt (S i), .bool iu, .bool true, .ref at_, .bool false], []⟩) R s := by
  intro k
  induction k with
  | zero =>
    intro i s iu tk₀ hk hi hfu hst₁ hst₂ hat hR
    have hin : i = xs.length := by omega
    subst hin
    refine codeAny_builtin B.entry_sumprod_loop ?_
    rw [Around.under_plainId B.plain_sumprod_loop _]
    unfold Builtin.«math.sumprod.loop»
    refine wpAny_bind (wpAny_seqItems hat rfl ?_)
    show wpAny _ A.in1 (pyNext (.ref I₁) >>= _) _ _ s
    refine wpAny_bind (W₁.done s _ _ hst₁ fun s₁ hm₁ => ?_)
    show wpAny _ A.in1 (holding [] (pyNext (.ref I₂)) >>= _) _ _ s₁
    refine wpAny_bind (wpAny_holding (W₂.done s₁ _ _ (h12 _ _ _ hst₂ hm₁) fun s₂ hm₂ => ?_))
    have hfu : iu = true := hfu.resolve_right (Nat.lt_irrefl _)
    subst hfu
    refine wpAny_bind (wpAny_rule ?_)
    refine wpAny_bind (wpAny_mkInt ?_)
    refine wpAny_bind (wpAny_holding (wpAny_add_int ?_))
    refine wpAny_bind (wpAny_rule ?_)
    refine wpAny_pure ?_
    rw [Int.zero_add]
    exact hR { s₂ with toks := s₂.toks + 1 + 1 } _ (((Moved.trans gt ⟨fun b o hb e => hm₁.heap b o (fun h => hb (w₁ b h)) e, g₁ _ _ hm₁.gens, hm₁.drawn, hm₁.os, hm₁.toks⟩
        ⟨fun b o hb e => hm₂.heap b o (fun h => hb (w₂ b h)) e, g₂ _ _ hm₂.gens, hm₂.drawn, hm₂.os, hm₂.toks⟩)).then_heap (by show s₂.toks ≤ s₂.toks + 1 + 1; omega) fun _ _ _ e => e)
  | succ k ih =>
    intro i s iu tk₀ hk hi hfu hst₁ hst₂ hat hR
    have hlt : i < xs.length := by omega
    refine codeAny_builtin B.entry_sumprod_loop ?_
    rw [Around.under_plainId B.plain_sumprod_loop _]
    unfold Builtin.«math.sumprod.loop»
    refine wpAny_bind (wpAny_seqItems hat rfl ?_)
    show wpAny _ A.in1 (pyNext (.ref I₁) >>= _) _ _ s
    refine wpAny_bind (W₁.item i s _ _ hlt hst₁ fun u s₁ hu hst₁' hm₁ => ?_)
    show wpAny _ A.in1 (holding [u] (pyNext (.ref I₂)) >>= _) _ _ s₁
    refine wpAny_bind (wpAny_holding (W₂.item i s₁ _ _ hlt (h12 _ _ _ hst₂ hm₁) fun v s₂ hv hst₂' hm₂ => ?_))
    have hM : Moved wr G s s₂ := Moved.trans gt ⟨fun b o hb e => hm₁.heap b o (fun h => hb (w₁ b h)) e, g₁ _ _ hm₁.gens, hm₁.drawn, hm₁.os, hm₁.toks⟩
        ⟨fun b o hb e => hm₂.heap b o (fun h => hb (w₂ b h)) e, g₂ _ _ hm₂.gens, hm₂.drawn, hm₂.os, hm₂.toks⟩
    have hst₁'' := h21 _ _ _ hst₁' hm₂
    have hat' := hm₂.heap _ _ (fun h => hat₂ (W₂.sub _ h)) (hm₁.heap _ _ (fun h => hat₁ (W₁.sub _ h)) hat)
    obtain ⟨a, ta, rfl, ha⟩ := hv₁ i u hu
    obtain ⟨b, tb, rfl, hb'⟩ := hv₂ i v hv
    have hSi := hS i a b ha hb'
    obtain ⟨b1, b2, b3, b4⟩ := hb i a b ha hb'
    have fit : ∀ z : Int, z.natAbs < 2 ^ 62 → (decide (-2 ^ 63 ≤ z) && decide (z ≤ maxSsize)) = true := fun z hz => by
      unfold maxSsize
      simp only [Bool.and_eq_true, decide_eq_true_eq]
      omega
    have tail : wpAny (model prog w) A.in1 (again (.builtin "math.sumprod.loop" ⟨[.ref I₁, .ref I₂, .int 0 tk₀, .bool true, rawInt (S i + a * b), .bool true, .bool true, .ref at_, .bool false], []⟩))
        (fun fin s' => match fin with | .done f => R (.ok f) s' | .again c' => c'.quiet = true ∧ codeAny (model prog w) A c' R s') (fun e s' => R (.error e) s') s₂ := by
      refine wpAny_pure ⟨plainId_quiet B.plain_sumprod_loop _, ?_⟩
      rw [← hSi]
      exact ih (i + 1) _ true tk₀ (by omega) hlt (.inl rfl) hst₁'' hst₂' hat' fun s' tk hm' => hR s' tk (Moved.trans gt hM hm')
    show wpAny _ A.in1 (if ((decide (-2 ^ 63 ≤ a) && decide (a ≤ maxSsize)) && (decide (-2 ^ 63 ≤ b) && decide (b ≤ maxSsize)) && (decide (-2 ^ 63 ≤ a * b) && decide (a * b ≤ maxSsize)) && (decide (-2 ^ 63 ≤ S i + a * b) && decide (S i + a * b ≤ maxSsize))) = true then _ else _) _ _ _
    rw [if_pos (by rw [fit a b1, fit b b2, fit (a * b) b3, fit (S i + a * b) (hSi ▸ b4)]; rfl)]
    exact tail

theorem call_sumprod {E : Value → Shared → Prop} {s : Shared} {x y : Value} {Q : Value → Shared → Prop}
    (h : wpAny (model prog w) A.in1 (pyIter x) (fun p s₁ => wpAny (model prog w) A.in1 (pyIter y) (fun q s₂ => ∀ tk, 0 < tk →
      codeAny (model prog w) A (.builtin "math.sumprod.loop" ⟨[p, q, .int 0 s₂.toks, .bool true, rawInt 0, .bool false, .bool true, .ref s₂.heap.objs.size, .bool false], []⟩)
        (fun r s' => match r with | .ok (.ret v) => Q v s' | .ok _ => False | .error e => E e s') { s₂ with heap := s₂.heap.push (bitsTup (triple (zero false, zero false, zero false))), toks := tk }) E s₁) E s) :
    wpAny (model prog w) A (call (.builtin "math.sumprod") [x, y]) Q E s := by
  refine call_function_tree B.kind_sumprod B.plain_sumprod B.entry_sumprod (B.args_sumprod _ _) ?_
  unfold Builtin.«math.sumprod»
  refine wpAny_bind (wpAny_of_eq (show mathSome "sumprod" 2 2 ⟨[x, y], []⟩ = pure [x, y] from rfl) ?_)
  show wpAny _ _ (pyIter x >>= _) _ _ s
  refine wpAny_bind (wpAny_mono h (fun p s₁ h₁ => ?_) fun _ _ e => e)
  refine wpAny_bind (wpAny_holding (wpAny_mono h₁ (fun q s₂ h₂ => ?_) fun _ _ e => e))
  refine wpAny_bind (wpAny_mkInt ?_)
  unfold newTuple
  refine wpAny_bind (wpAny_newObj_type ?_ (by exact (by size_fits : sizeOk (Data.seq ([_, _, _] : List Value).toArray))))
  exact wpAny_pure ⟨plainId_quiet B.plain_sumprod_loop _, h₂ _ (Nat.succ_pos _)⟩
end
end Mine
end
section
set_option maxRecDepth 100000
namespace Mine
open PySem PySem.Float64 PySem.Builtin.Math PySem.W PySem.Calls PyProof.Rows

/-- the numbers of a list, whole -/
inductive NumsE : List Value → List Int → Prop
  | nil : NumsE [] []
  | cons {v : Value} {n : Int} {vs : List Value} {ns : List Int} : NumE v n → NumsE vs ns → NumsE (v :: vs) (n :: ns)
theorem NumsE.length : ∀ {vs ns}, NumsE vs ns → vs.length = ns.length
  | _, _, .nil => rfl
  | _, _, .cons _ h => by rw [List.length_cons, List.length_cons, h.length]
theorem NumsE.at : ∀ {vs ns}, NumsE vs ns → ∀ {i : Nat} {v : Value}, vs[i]? = some v → ∃ n, ns[i]? = some n ∧ NumE v n
  | _, _, .nil, i, v, h => by simp at h
  | _, _, .cons (v := u) (n := n) hu h, 0, v, e => by simp at e; subst e; exact ⟨n, by simp, hu⟩
  | _, _, .cons hu h, i + 1, v, e => by simp at e ⊢; exact h.at e

theorem passing_all (n : Nat) : passing (fun _ => true) n 0 = List.range n := by
  unfold passing; simp

section
variable {prog : Program} {w : World} {A : Around} {E : Value → Shared → Prop} {s : Shared}

/-- a float less a float, or an int less a float -/
theorem sub_num {v u : Value} {a b : Int} {Q : Value → Shared → Prop} (hv : NumE v a) {y : UInt64} {t : Tok} (hu : u = .float y t) (hy : IsF y b) (hb : (a - b).natAbs ≤ 2 ^ 53)
    (k : ∀ x t tk, IsF x (a - b) → s.toks ≤ tk → Q (.float x t) { s with toks := tk }) : wpAny (model prog w) A (binaryOp .Sub v u) Q E s := by
  subst hu
  cases hv with
  | int n tn hn => exact AutoFloatOps.sub_if_1 (by rw [isF_notInf (isF_ofInt hn)]; decide) (k _ _ _ (isF_sub (isF_ofInt hn) hy hb) (Nat.le_succ _))
  | float x tx n hx => exact sub_float (k _ _ _ (isF_sub hx hy hb) (Nat.le_succ _))

/-- a generator expression «x - c» over a list, c a free name's float -/
theorem genexp_sub {env : Env} {x c : Str} {p1 p2 p3 px pos : Pos} {iter : Expr} {scope : Scope} {cl : List (Str × Addr)} {cc ay P : Addr} {vals : List Value} {ys : List Int} {yb : UInt64} {t : Tok} {m : Int} {T : Heap → Prop} {Q : Value → Shared → Prop}
    (hA : A.handled = none) (hco : scope.isCoroutine = false) (hclos : closureFor scope env = pure cl) (hcl : cl.lookup c = some cc) (hcell : ∀ y ∈ scope.names, y.2 ≠ .cell) (h0 : scope.names.lookup (".0" : Str) = some NameKind.local)
    (hx : scope.names.lookup x = some .local) (hc : scope.names.lookup c = some .free) (hkind : scope.kind = .function) (hroom : A.depth < recursionLimit) (hfold : ∀ x, genFold iter env x = pure x)
    (hdx : (x == ("__debug__" : Str)) = false) (hdc : (c == ("__debug__" : Str)) = false) (hdd : (c == ("__classdict__" : Str)) = false)
    (hiter : ∀ Q' : Value → Shared → Prop, Q' (.ref ay) s → wpAny (model prog w) A (eval iter env) Q' E s)
    (hl : s.heap.IsList ay vals.toArray) (hv : NumsE vals ys) (hcc : s.heap.IsCell cc (some (.float yb t))) (hyb : IsF yb m) (hb : ∀ n ∈ ys, (n - m).natAbs ≤ 2 ^ 53) (hlim : s.heap.NoLimit)
    (hP0 : cStatics ≠ P) (hP1 : ay ≠ P) (hP2 : cc ≠ P) (hP3 : P < s.heap.objs.size)
    (hTk : ∀ h h', T h → (∀ b o, h.get? b = some o → h'.get? b = some o) → T h')
    (hcode : ∀ (s₂ : Shared) (Q' : Value → Shared → Prop), (∀ b o, s.heap.get? b = some o → s₂.heap.get? b = some o) → (∀ code h' tk, Heap.ExtBut P s₂.heap h' → s₂.heap.objs.size ≤ h'.objs.size → T h' → Q' code { s₂ with heap := h', toks := tk }) →
      wpAny (model prog w) A (genexprCode env pos (env.qual ++ "<genexpr>") scope) Q' E s₂)
    (hbi : ∀ (s₂ : Shared) (Q' : Addr → Shared → Prop), (∀ b o, b ≠ P → s.heap.get? b = some o → s₂.heap.get? b = some o) → Q' builtinsNs s₂ → wpAny (model prog w) A (builtinsFor env.globals env.builtins) Q' E s₂)
    (hQ : ∀ a C I h₅ tk gs, gs.bare = true → s.heap.objs.size ≤ I → I < C → C < a → a < h₅.objs.size → (∀ b o, b ≠ P → s.heap.get? b = some o → h₅.get? b = some o) → T h₅ →
      WalksS prog w A.in1 a [a, C, I, ay, cc, cStatics] [C, I] (GenOnlyQ s.gens.size) ys.length (fun j y => ∃ b t n, y = .float b t ∧ ys[j]? = some n ∧ IsF b (n - m))
        (GenAt prog w A.in1 a s.gens.size C [I, ay, cc, cStatics] [I] (fun _ => true) ys.length (fun j y => ∃ b t n, y = .float b t ∧ ys[j]? = some n ∧ IsF b (n - m))) →
      GenAt prog w A.in1 a s.gens.size C [I, ay, cc, cStatics] [I] (fun _ => true) ys.length (fun j y => ∃ b t n, y = .float b t ∧ ys[j]? = some n ∧ IsF b (n - m)) 0 { s with gens := s.gens.push gs, toks := tk, heap := h₅ } →
      Q (.ref a) { s with gens := s.gens.push gs, toks := tk, heap := h₅ }) :
    wpAny (model prog w) A (eval (.GeneratorExp (.BinOp (.Name x p1) .Sub (.Name c p2) p3) [⟨.Name x px, iter, [], 0⟩] scope pos) env) Q E s := by
  refine wpAny_GeneratorExp_make hco hclos hcell h0 hkind hroom (hiter _ ?_) hfold
  refine wpAny_pyIter_list hl ?_
  have k₂ : ∀ b o, s.heap.get? b = some o → (s.heap.push { cls := .type "list_iterator", data := .fields #[.ref ay, .int 0 0] }).get? b = some o := fun b o e => Heap.get?_push_of_some _ e
  refine ⟨hlim.keeps k₂, hcode _ _ k₂ fun code h₃ tk₃ hx₃ hsz₃ hT₃ => ?_⟩
  have k₃ : ∀ b o, b ≠ P → s.heap.get? b = some o → h₃.get? b = some o := fun b o hb e => hx₃ b o hb (k₂ b o e)
  refine hbi _ _ k₃ ?_
  have hsz₂ : (s.heap.push { cls := .type "list_iterator", data := .fields #[.ref ay, .int 0 0] }).objs.size = s.heap.objs.size + 1 := Heap.size_push ..
  have hsz₃' : s.heap.objs.size + 1 ≤ h₃.objs.size := by rw [← hsz₂]; exact hsz₃
  have hIP : s.heap.objs.size ≠ P := Nat.ne_of_gt hP3
  obtain ⟨ol, hol, _⟩ := id hl
  have hay : ay < s.heap.objs.size := Heap.lt_size hol
  obtain ⟨oc, hoc, _⟩ := id hcc
  have hccs : cc < s.heap.objs.size := Heap.lt_size hoc
  have hcs : cStatics < s.heap.objs.size := let ⟨_, hn, _⟩ := hlim; hn.lt
  intro h' hn' hs'
  dsimp only at hn' hs' ⊢
  have hsz' : h'.objs.size = h₃.objs.size + 1 := by rw [hs'.1, Heap.size_push]
  have k' : ∀ b o, h₃.get? b = some o → h'.get? b = some o := fun b o e => hs'.extBut b o (Nat.ne_of_lt (Heap.lt_size e)) (Heap.get?_push_of_some _ e)
  have k₅ : ∀ b o, h₃.get? b = some o → (h'.push { cls := .type "generator", data := .fields #[.int s.gens.size 0, .str "<genexpr>" (tk₃ + 1), .str (env.qual ++ "<genexpr>") (tk₃ + 1 + 1)] }).get? b = some o := fun b o e => Heap.get?_push_of_some _ (k' b o e)
  have hne : ay ≠ s.heap.objs.size := Nat.ne_of_lt hay
  have hitI : (s.heap.push { cls := .type "list_iterator", data := .fields #[.ref ay, .int 0 0] }).get? s.heap.objs.size = some { cls := .type "list_iterator", data := .fields #[.ref ay, .int 0 0] } := Heap.get?_push_size _ rfl
  have W₀ : ∀ A' : Around, A'.handled = none → Walks prog w A' s.heap.objs.size [s.heap.objs.size, ay, cc, cStatics] [s.heap.objs.size] ys.length (fun i v => vals.toArray[i]? = some v) (fun i h => h.IsListIter s.heap.objs.size ay i ∧ h.IsList ay vals.toArray) := fun A' hA' => by
    have := (Walks.list (prog := prog) (w := w) hA' s.heap.objs.size ay hne vals.toArray).mono_fp (fp' := [s.heap.objs.size, ay, cc, cStatics]) (fun b hb => by simp only [List.mem_cons, List.not_mem_nil, or_false] at hb ⊢; rcases hb with q | q <;> simp [q])
    rwa [show vals.toArray.size = ys.length by rw [List.size_toArray, hv.length]] at this
  have hkx : (genEnv scope cl h₃.objs.size code builtinsNs env).kindOf x = some .local := hx
  have hkc : (genEnv scope cl h₃.objs.size code builtinsNs env).kindOf c = some .free := hc
  have hfp : ∀ b ∈ [s.heap.objs.size, ay, cc, cStatics], b < h₃.objs.size := fun b hb => by
    simp only [List.mem_cons, List.not_mem_nil, or_false] at hb
    have h1 : s.heap.objs.size < h₃.objs.size := hsz₃'
    rcases hb with q | q | q | q <;> rw [q]
    · exact h1
    · exact Nat.lt_trans hay h1
    · exact Nat.lt_trans hccs h1
    · exact Nat.lt_trans hcs h1
  have hC : h₃.objs.size ∉ [s.heap.objs.size, ay, cc, cStatics] := fun hm => Nat.lt_irrefl _ (hfp _ hm)
  have ha : h'.objs.size ∉ [s.heap.objs.size, ay, cc, cStatics] := fun hm => by
    have := hfp _ hm
    rw [hsz'] at this
    exact absurd this (Nat.not_lt.mpr (Nat.le_succ _))
  have haC : h'.objs.size ≠ h₃.objs.size := by rw [hsz']; exact Nat.succ_ne_self _
  have hcsI : cStatics ∉ [s.heap.objs.size] := fun hm => by
    simp only [List.mem_cons, List.not_mem_nil, or_false] at hm
    exact absurd hm (Nat.ne_of_lt hcs)
  have hcI : cc ≠ s.heap.objs.size := Nat.ne_of_lt hccs
  have hlist₅ : ∀ {h : Heap}, (∀ b o, b ≠ P → s.heap.get? b = some o → h.get? b = some o) → h.IsCell cc (some (.float yb t)) := fun {h} hk => ⟨oc, hk _ _ hP2 hoc, by obtain ⟨o', e', d'⟩ := hcc; rw [hoc] at e'; cases e'; exact d'⟩
  have hq : ∀ href : Heap, (∀ b o, h₃.get? b = some o → href.get? b = some o) → QuietGen prog w (genEnv scope cl h₃.objs.size code builtinsNs env) x [] (.BinOp (.Name x p1) .Sub (.Name c p2) p3) [s.heap.objs.size, ay, cc, cStatics] [s.heap.objs.size] (fun i v => vals.toArray[i]? = some v) (fun _ => true)
      (fun j y => ∃ b t n, y = .float b t ∧ ys[j]? = some n ∧ IsF b (n - m)) href := fun href hhref => by
    constructor
    · intro A' E' i v s₂ m₂ hA' hP hn hm hk
      show wpAny _ A' (pure true) _ E' s₂
      exact wpAny_pure ⟨rfl, s₂.heap, s₂.toks, rfl, fun _ _ e => e⟩
    · intro A' E' i v s₂ m₂ hA' hP hp hn hm hk
      obtain ⟨n, hn', hvn⟩ := hv.at (i := i) (v := v) (by simpa using hP)
      have hcell₂ : s₂.heap.IsCell cc (some (.float yb t)) := by
        obtain ⟨o', e', d'⟩ := hlist₅ k₃
        exact ⟨o', hk cc (by simp) (by simp only [List.mem_cons, List.not_mem_nil, or_false]; exact hcI) _ (hhref _ _ e'), d'⟩
      refine wpAny_BinOp (wpAny_Name (wpAny_loadName_local hkind hkx hn hm ?_) hdx)
      refine wpAny_Name (wpAny_loadName_free hkind hkc hcl hcell₂ ?_ hdd) hdc
      refine sub_num hvn rfl hyb (hb n (List.mem_of_getElem? hn')) fun b t' tk hbF htk => ?_
      exact ⟨⟨b, t', n, rfl, hn', hbF⟩, s₂.heap, tk, rfl, fun _ _ e => e⟩
  have e1 : (passing (fun _ => true) ys.length 0).length = ys.length := by rw [passing_all, List.length_range]
  have W := WalksS.genexpQ (prog := prog) (w := w) (A := A.in1) hA h'.objs.size s.gens.size h₃.objs.size [s.heap.objs.size, ay, cc, cStatics] [s.heap.objs.size] (fun _ => true) ys.length (fun j y => ∃ b t n, y = .float b t ∧ ys[j]? = some n ∧ IsF b (n - m)) haC ha (fun b hb => by simp only [List.mem_cons, List.not_mem_nil, or_false] at hb; simp [hb]) hroom (by simp) (Nat.ne_of_lt (Nat.lt_of_lt_of_le hcs (Nat.le_of_succ_le hsz₃'))) hcsI
  have st₃ : (fun (i : Nat) (h : Heap) => h.IsListIter s.heap.objs.size ay i ∧ h.IsList ay vals.toArray) 0 h₃ := by
    refine ⟨⟨_, hx₃ _ _ hIP hitI, rfl, rfl⟩, ?_⟩
    obtain ⟨o', e', r'⟩ := hl
    exact ⟨o', k₃ _ _ hP1 e', r'⟩
  have hl₃ : h₃.NoLimit := by
    obtain ⟨mc, hns, hnn⟩ := hlim
    exact ⟨mc, hns.at' fun o e => k₃ _ _ hP0 e, hnn⟩
  refine hQ _ _ _ _ _ _ rfl (Nat.le_refl _) hsz₃' (by rw [hsz']; exact Nat.lt_succ_self _) (by rw [Heap.size_push]; exact Nat.lt_succ_self _) (fun b o hb e => k₅ b o (k₃ b o hb e)) (hTk _ _ hT₃ k₅) ?_ ?_
  · refine ⟨W.sub, W.grefl, W.gtrans, W.frame, fun i s Q E hi st hq => W.item i s Q E (by rw [e1]; exact hi) st fun v s' hP hst hm => hq v s' ?_ hst hm, fun s Q E st hq => W.done s Q E (by rw [e1]; exact st) hq, W.self⟩
    obtain ⟨j, hj, b, t', n, e', hn, hF⟩ := hP
    rw [passing_all] at hj
    have hji : j = i := by
      have := List.getElem?_eq_some_iff.mp hj
      obtain ⟨h1, h2⟩ := this
      rw [List.getElem_range] at h2
      exact h2.symm
    subst hji
    exact ⟨b, t', n, e', hn, hF⟩
  · exact GenAt.fresh (A := A.in1) (cenv := genEnv scope cl h₃.objs.size code builtinsNs env) (m := fun y => if y = ".0" then some (.ref s.heap.objs.size) else none) hA W₀ (fun _ => true) _ hx (by simp [genEnv, hkind]) hco
      hC (hq _ k₅) ⟨_, _, _, Heap.get?_push_size _ rfl, rfl, rfl, rfl⟩ (Array.getElem?_push_size ..) ((W₀ A hA).frame _ _ _ st₃ fun b hb o e => k₅ b o e) (hn'.push _) (hl₃.keeps k₅)
end
end Mine
end
section
set_option maxRecDepth 100000
set_option exponentiation.threshold 3000
namespace Mine
open PySem PySem.Float64 PySem.Builtin.Math PySem.W PySem.Calls PyProof.Rows

noncomputable def dotN (as bs : List Int) (i : Nat) : Int := ((List.zipWith (· * ·) as bs).take i).sum
theorem dotN_zero (as bs : List Int) : dotN as bs 0 = 0 := by simp [dotN]
theorem dotN_succ {as bs : List Int} {i : Nat} {a b : Int} (ha : as[i]? = some a) (hb : bs[i]? = some b) : dotN as bs (i + 1) = dotN as bs i + a * b := by
  unfold dotN
  have : (List.zipWith (· * ·) as bs)[i]? = some (a * b) := by rw [List.getElem?_zipWith, ha, hb]
  rw [List.take_add_one, this]; simp
/-- the products and their sums stay whole -/
structure DotOk (as bs : List Int) : Prop where
  sums : ∀ i, (dotN as bs i).natAbs ≤ 2 ^ 53
  prods : ∀ (i : Nat) a b, as[i]? = some a → bs[i]? = some b → (a * b).natAbs ≤ 2 ^ 53

theorem numE_floatOf {v : Value} {n : Int} (h : NumE v n) : ∃ x, FloatOf v x ∧ IsF x n := by
  cases h with
  | int _ t hb => exact ⟨_, .int _ _ (isF_notInf (isF_ofInt hb)), isF_ofInt hb⟩
  | float b t _ hb => exact ⟨_, .float _ _, hb⟩

section
variable {prog : Program} {w : World} {A : Around} {E : Value → Shared → Prop} {s : Shared}

theorem genAt_moved {a : Addr} {g : Nat} {C : Addr} {fp wr wr' : List Addr} {pz : Nat → Bool} {n₀ : Nat} {F : Nat → Value → Prop} {j : Nat} {s s' : Shared} {G' : Array GenState → Array GenState → Prop}
    (h : GenAt prog w A a g C fp wr pz n₀ F j s) (hm : Moved wr' G' s s') (hd : ∀ b ∈ a :: C :: fp, b ∉ wr') (hcs : cStatics ∈ fp) (hg : ∀ u v, G' u v → ∀ x : GenState, u[g]? = some x → v[g]? = some x) :
    GenAt prog w A a g C fp wr pz n₀ F j s' := by
  obtain ⟨h1, h2, gs, h3, h4⟩ := h
  refine ⟨?_, ?_, gs, hg _ _ hm.gens _ h3, fun s'' hal => h4 s'' fun b hb o e => hal b hb o (hm.heap b o (hd b (List.mem_cons_of_mem _ hb)) e)⟩
  · obtain ⟨o, nm, qn, ho, r⟩ := h1
    exact ⟨o, nm, qn, hm.heap _ _ (hd a List.mem_cons_self) ho, r⟩
  · obtain ⟨mc, hns, hnn⟩ := h2
    exact ⟨mc, hns.at' fun o e => hm.heap _ _ (hd _ (List.mem_cons_of_mem _ (List.mem_cons_of_mem _ hcs))) e, hnn⟩

theorem genOnlyQ_at {g g' : Nat} (h : g ≠ g') : ∀ u v : Array GenState, GenOnlyQ g' u v → ∀ x : GenState, u[g]? = some x → v[g]? = some x := by
  intro u v x y e
  rcases x with rfl | ⟨⟨_, ho⟩, _⟩
  · exact e
  · rw [ho g h]; exact e

/-- sumprod over two iterators of whole numbers, a float in each pair -/
theorem sumprod_exact {R : Result → Shared → Prop} {I₁ I₂ : Addr} {fp₁ wr₁ fp₂ wr₂ wr : List Addr} {G₁ G₂ G : Array GenState → Array GenState → Prop} {P₁ P₂ : Nat → Value → Prop} {St₁ St₂ : Nat → Shared → Prop} {as bs : List Int}
    (W₁ : WalksS prog w A.in1 I₁ fp₁ wr₁ G₁ as.length P₁ St₁) (W₂ : WalksS prog w A.in1 I₂ fp₂ wr₂ G₂ as.length P₂ St₂)
    (h12 : ∀ i s s', St₂ i s → Moved wr₁ G₁ s s' → St₂ i s') (h21 : ∀ i s s', St₁ i s → Moved wr₂ G₂ s s' → St₁ i s')
    (w₁ : ∀ b ∈ wr₁, b ∈ wr) (w₂ : ∀ b ∈ wr₂, b ∈ wr) (g₁ : ∀ a b, G₁ a b → G a b) (g₂ : ∀ a b, G₂ a b → G a b) (gt : ∀ a b c, G a b → G b c → G a c)
    (hv₁ : ∀ i u, P₁ i u → ∃ n, as[i]? = some n ∧ NumE u n) (hv₂ : ∀ i u, P₂ i u → ∃ n, bs[i]? = some n ∧ NumE u n) (hfl : ∀ i u v, P₁ i u → P₂ i v → (isFl u || isFl v) = true)
    (hd : DotOk as bs) (hn : 0 < as.length) {s : Shared} {hw : Addr} {tk₀ : Tok} (st₁ : St₁ 0 s) (st₂ : St₂ 0 s) (f₁ : ∀ b ∈ fp₁, b < hw) (f₂ : ∀ b ∈ fp₂, b < hw)
    (hat : s.heap.get? hw = some (bitsTup (triple (zero false, zero false, zero false))))
    (hR : ∀ s' b tk, IsF b (dotN as bs as.length) → Moved wr G s s' → R (.ok (.ret (.float b tk))) s') :
    codeAny (model prog w) A (.builtin "math.sumprod.loop" ⟨[.ref I₁, .ref I₂, .int 0 tk₀, .bool true, rawInt 0, .bool false, .bool true, .ref hw, .bool false], []⟩) R s := by
  refine sumprod_floats W₁ W₂ h12 h21 w₁ w₂ g₁ g₂ gt (fun i t => T3 t (dotN as bs i)) (fun i t u v hi ht hu hv => ?_) as.length 0 s hw hw (zero false, zero false, zero false) true false tk₀ ?_ (Nat.sub_zero _) (Nat.zero_le _) (.inr hn) st₁ st₂ f₁ f₂ (Nat.le_refl _) ⟨_, hat⟩ hat
    (fun s' t tk ht hm => hR s' _ tk ?_ hm)
  · obtain ⟨a, ha, na⟩ := hv₁ i u hu
    obtain ⟨b, hb, nb⟩ := hv₂ i v hv
    obtain ⟨x, fx, ix⟩ := numE_floatOf na
    obtain ⟨y, fy, iy⟩ := numE_floatOf nb
    have e := dotN_succ ha hb
    have := tlFma_exact ix iy ht (hd.sums i) (hd.prods i a b ha hb) (e ▸ hd.sums (i + 1))
    rw [← e] at this
    exact ⟨x, y, fx, fy, hfl i u v hu hv, isF_finite this.1, this⟩
  · show T3 _ (dotN as bs 0)
    rw [dotN_zero]; exact T3.zero
  · have := isF_add (isF_ofInt (n := 0) (by decide)) (tlToFloat_exact ht (hd.sums _)) (by rw [Int.zero_add]; exact hd.sums _)
    rwa [Int.zero_add] at this

theorem walksList (hA : A.handled = none) (I ax : Addr) (hne : ax ≠ I) {vals : List Value} {ns : List Int} (hv : NumsE vals ns) :
    WalksS prog w A I [I, ax] [I] (fun a b => b = a) ns.length (fun i v => vals[i]? = some v) (fun i s => s.heap.IsListIter I ax i ∧ s.heap.IsList ax vals.toArray) := by
  have := (Walks.list (prog := prog) (w := w) hA I ax hne vals.toArray).toS
  rw [show vals.toArray.size = ns.length by rw [List.size_toArray, hv.length]] at this
  simpa using this

theorem iter_moved {I ax : Addr} {vals : List Value} {i : Nat} {s s' : Shared} {wr : List Addr} {G : Array GenState → Array GenState → Prop} (h : s.heap.IsListIter I ax i ∧ s.heap.IsList ax vals.toArray) (hm : Moved wr G s s') (h1 : I ∉ wr) (h2 : ax ∉ wr) :
    s'.heap.IsListIter I ax i ∧ s'.heap.IsList ax vals.toArray := by
  obtain ⟨⟨o, ho, r⟩, o', ho', r'⟩ := h
  exact ⟨⟨o, hm.heap _ _ h1 ho, r⟩, o', hm.heap _ _ h2 ho', r'⟩

/-- fsum of a list -/
theorem call_fsum_list {ax : Addr} {vals : List Value} {ns : List Int} {Q : Value → Shared → Prop} (hA : A.handled = none) (hl : s.heap.IsList ax vals.toArray) (hv : NumsE vals ns)
    (hsm : ∀ i, (ns.take i).sum.natAbs ≤ 2 ^ 53) (hsm2 : ∀ n ∈ ns, n.natAbs ≤ 2 ^ 53)
    (k : ∀ b t h' tk, IsF b ns.sum → (∀ c o, s.heap.get? c = some o → h'.get? c = some o) → Q (.float b t) { s with heap := h', toks := tk }) :
    wpAny (model prog w) A (call (.builtin "math.fsum") [.ref ax]) Q E s := by
  refine call_fsum_walk hA hsm hsm2 (wpAny_pyIter_list hl ?_)
  obtain ⟨o, ho, _⟩ := id hl
  have hlt : ax < s.heap.objs.size := Heap.lt_size ho
  have hne : ax ≠ s.heap.objs.size := Nat.ne_of_lt hlt
  refine ⟨_, _, _, _, _, _, rfl, walksList (A := A.in1) hA s.heap.objs.size ax hne hv, ⟨⟨_, Heap.get?_push_size _ rfl, rfl, rfl⟩, ?_⟩, fun b hb => ?_, fun i v hi => hv.at hi, fun s' b t hb hm => ?_⟩
  · exact hl.push _
  · rw [Heap.size_push]
    simp only [List.mem_cons, List.not_mem_nil, or_false] at hb
    rcases hb with q | q <;> rw [q]
    · exact Nat.lt_succ_self _
    · exact Nat.lt_succ_of_lt hlt
  · have := k b t s'.heap s'.toks hb fun c o e => hm.heap c o (fun h => by
      simp only [List.mem_cons, List.not_mem_nil, or_false] at h
      rw [h] at e
      exact absurd (Heap.lt_size e) (Nat.lt_irrefl _)) (Heap.get?_push_of_some _ e)
    have e1 : s' = { s with heap := s'.heap, toks := s'.toks } := by
      have h1 := hm.gens
      have h2 := hm.drawn
      have h3 := hm.os
      cases s'; cases s
      simp_all
    rw [e1]; exact this

theorem isListIter_of {h : Heap} {I l : Addr} (e : h.get? I = some { cls := .type "list_iterator", data := .fields #[.ref l, .int 0 0] }) : h.IsListIter I l 0 := ⟨_, e, rfl, rfl⟩

theorem moved_back {wr : List Addr} {s s₂ s' : Shared} {G : Array GenState → Array GenState → Prop} (h : Moved wr G s₂ s') (hG : ∀ a b, G a b → b = a) (hg : s₂.gens = s.gens) (hd : s₂.drawn = s.drawn) (ho : s₂.os = s.os) : s' = { s with heap := s'.heap, toks := s'.toks } := by
  have h1 := hG _ _ h.gens
  have h2 := h.drawn
  have h3 := h.os
  cases s'; cases s; simp_all

noncomputable def AllFl (vals : List Value) : Prop := ∀ v ∈ vals, isFl v = true
noncomputable def AllIn (vals : List Value) (ns : List Int) : Prop := ∀ (i : Nat) v, vals[i]? = some v → ∃ a t, v = .int a t ∧ ns[i]? = some a

/-- sumprod of two lists (one of them floats) -/
theorem call_sumprod_lists {ax ay : Addr} {vx vy : List Value} {as bs : List Int} {Q : Value → Shared → Prop} (hA : A.handled = none) (hx : s.heap.IsList ax vx.toArray) (hy : s.heap.IsList ay vy.toArray) (nx : NumsE vx as) (ny : NumsE vy bs)
    (hlen : bs.length = as.length) (hfl : AllFl vx) (hd : DotOk as bs) (hn : 0 < as.length)
    (k : ∀ b t h' tk, IsF b (dotN as bs as.length) → (∀ c o, s.heap.get? c = some o → h'.get? c = some o) → 0 < tk → Q (.float b t) { s with heap := h', toks := tk }) :
    wpAny (model prog w) A (call (.builtin "math.sumprod") [.ref ax, .ref ay]) Q E s := by
  refine call_sumprod (wpAny_pyIter_list hx ?_)
  obtain ⟨ox, hox, _⟩ := id hx
  obtain ⟨oy, hoy, _⟩ := id hy
  have ltx : ax < s.heap.objs.size := Heap.lt_size hox
  have lty : ay < s.heap.objs.size := Heap.lt_size hoy
  refine wpAny_pyIter_list (hy.push _) ?_
  intro tk htk
  have hs1 : (s.heap.push { cls := .type "list_iterator", data := .fields #[.ref ax, .int 0 0] }).objs.size = s.heap.objs.size + 1 := Heap.size_push ..
  have hs2 : ((s.heap.push { cls := .type "list_iterator", data := .fields #[.ref ax, .int 0 0] }).push { cls := .type "list_iterator", data := .fields #[.ref ay, .int 0 0] }).objs.size = s.heap.objs.size + 1 + 1 := by rw [Heap.size_push, hs1]
  have n1 : ax ≠ s.heap.objs.size := Nat.ne_of_lt ltx
  have n2 : ay ≠ s.heap.objs.size + 1 := Nat.ne_of_lt (Nat.lt_succ_of_lt lty)
  have W₁ := walksList (prog := prog) (w := w) (A := A.in1) hA s.heap.objs.size ax n1 nx
  have W₂ := walksList (prog := prog) (w := w) (A := A.in1) hA (s.heap.objs.size + 1) ay n2 ny
  rw [hlen] at W₂
  dsimp only
  rw [hs1, hs2]
  refine sumprod_exact (wr := [s.heap.objs.size, s.heap.objs.size + 1]) (G := fun a b => b = a) W₁ W₂ (fun i s₁ s₂ st hm => iter_moved st hm ?_ ?_) (fun i s₁ s₂ st hm => iter_moved st hm ?_ ?_) (fun b hb => by simp_all) (fun b hb => by simp_all) (fun _ _ e => e) (fun _ _ e => e) (fun _ _ _ e1 e2 => e2.trans e1)
    (fun i u hu => nx.at hu) (fun i u hu => ny.at hu) (fun i u v hu hv => by rw [hfl u (List.mem_of_getElem? hu)]; rfl) hd hn ⟨isListIter_of ?_, ?_⟩ ⟨isListIter_of ?_, ?_⟩ (fun b hb => ?_) (fun b hb => ?_) ?_ (fun s' b t hb hm => ?_)
  · simp
  · simp only [List.mem_cons, List.not_mem_nil, or_false]; exact Nat.ne_of_lt lty
  · simp
  · simp only [List.mem_cons, List.not_mem_nil, or_false]; exact Nat.ne_of_lt (Nat.lt_succ_of_lt ltx)
  · exact Heap.get?_push_of_some _ (Heap.get?_push_of_some _ (Heap.get?_push_size _ rfl))
  · exact ((hx.push _).push _).push _
  · refine Heap.get?_push_of_some _ ?_
    have q : ((s.heap.push { cls := .type "list_iterator", data := .fields #[.ref ax, .int 0 0] }).push { cls := .type "list_iterator", data := .fields #[.ref ay, .int 0 0] }).get? (s.heap.push { cls := .type "list_iterator", data := .fields #[.ref ax, .int 0 0] }).objs.size = some { cls := .type "list_iterator", data := .fields #[.ref ay, .int 0 0] } := Heap.get?_push_size _ rfl
    rwa [hs1] at q
  · exact ((hy.push _).push _).push _
  · simp only [List.mem_cons, List.not_mem_nil, or_false] at hb
    rcases hb with q | q <;> rw [q]
    · exact Nat.lt_succ_of_lt (Nat.lt_succ_self _)
    · exact Nat.lt_succ_of_lt (Nat.lt_succ_of_lt ltx)
  · simp only [List.mem_cons, List.not_mem_nil, or_false] at hb
    rcases hb with q | q <;> rw [q]
    · exact Nat.lt_succ_self _
    · exact Nat.lt_succ_of_lt (Nat.lt_succ_of_lt lty)
  · have q : (((s.heap.push { cls := .type "list_iterator", data := .fields #[.ref ax, .int 0 0] }).push { cls := .type "list_iterator", data := .fields #[.ref ay, .int 0 0] }).push (bitsTup (triple (zero false, zero false, zero false)))).get? ((s.heap.push { cls := .type "list_iterator", data := .fields #[.ref ax, .int 0 0] }).push { cls := .type "list_iterator", data := .fields #[.ref ay, .int 0 0] }).objs.size = some (bitsTup (triple (zero false, zero false, zero false))) := Heap.get?_push_size _ rfl
    rwa [hs2] at q
  · show Q (.float b t) s'
    have := k b t s'.heap s'.toks hb (fun c o e => hm.heap c o (fun h => by
      have hc := Heap.lt_size e
      simp only [List.mem_cons, List.not_mem_nil, or_false] at h
      rcases h with q | q <;> rw [q] at hc
      · exact Nat.lt_irrefl _ hc
      · exact absurd hc (Nat.not_lt.mpr (Nat.le_succ _))) (Heap.get?_push_of_some _ (Heap.get?_push_of_some _ (Heap.get?_push_of_some _ e)))) (Nat.lt_of_lt_of_le htk hm.toks)
    rw [moved_back (s := s) hm (fun _ _ e => e) rfl rfl rfl]; exact this

/-- sumprod of two lists of ints -/
theorem call_sumprod_ints {ax ay : Addr} {vx vy : List Value} {as bs : List Int} {Q : Value → Shared → Prop} (hA : A.handled = none) (hx : s.heap.IsList ax vx.toArray) (hy : s.heap.IsList ay vy.toArray) (nx : NumsE vx as) (ny : NumsE vy bs)
    (ix : AllIn vx as) (iy : AllIn vy bs) (hlen : bs.length = as.length) (hd : DotOk as bs) (hba : ∀ a ∈ as, a.natAbs ≤ 2 ^ 53) (hbb : ∀ b ∈ bs, b.natAbs ≤ 2 ^ 53) (hn : 0 < as.length)
    (k : ∀ t h' tk, (∀ c o, s.heap.get? c = some o → h'.get? c = some o) → 0 < tk → Q (.int (dotN as bs as.length) t) { s with heap := h', toks := tk }) :
    wpAny (model prog w) A (call (.builtin "math.sumprod") [.ref ax, .ref ay]) Q E s := by
  refine call_sumprod (wpAny_pyIter_list hx ?_)
  obtain ⟨ox, hox, _⟩ := id hx
  obtain ⟨oy, hoy, _⟩ := id hy
  have ltx : ax < s.heap.objs.size := Heap.lt_size hox
  have lty : ay < s.heap.objs.size := Heap.lt_size hoy
  refine wpAny_pyIter_list (hy.push _) ?_
  intro tk htk
  have hs1 : (s.heap.push { cls := .type "list_iterator", data := .fields #[.ref ax, .int 0 0] }).objs.size = s.heap.objs.size + 1 := Heap.size_push ..
  have hs2 : ((s.heap.push { cls := .type "list_iterator", data := .fields #[.ref ax, .int 0 0] }).push { cls := .type "list_iterator", data := .fields #[.ref ay, .int 0 0] }).objs.size = s.heap.objs.size + 1 + 1 := by rw [Heap.size_push, hs1]
  have n1 : ax ≠ s.heap.objs.size := Nat.ne_of_lt ltx
  have n2 : ay ≠ s.heap.objs.size + 1 := Nat.ne_of_lt (Nat.lt_succ_of_lt lty)
  have W₁ := walksList (prog := prog) (w := w) (A := A.in1) hA s.heap.objs.size ax n1 nx
  have W₂ := walksList (prog := prog) (w := w) (A := A.in1) hA (s.heap.objs.size + 1) ay n2 ny
  rw [hlen] at W₂
  dsimp only
  rw [hs1, hs2]
  have h0 := dotN_zero as bs
  rw [← h0]
  refine sumprod_ints (t := (zero false, zero false, zero false)) (wr := [s.heap.objs.size, s.heap.objs.size + 1]) (G := fun a b => b = a) hlen W₁ W₂ (fun i s₁ s₂ st hm => iter_moved st hm ?_ ?_) (fun i s₁ s₂ st hm => iter_moved st hm ?_ ?_) (fun b hb => by simp_all) (fun b hb => by simp_all) (fun _ _ e => e) (fun _ _ e => e) (fun _ _ _ e1 e2 => e2.trans e1)
    ix iy (dotN as bs) (fun i a b ha hb => dotN_succ ha hb) (fun i a b ha hb => ⟨?_, ?_, ?_, ?_⟩) (s.heap.objs.size + 1 + 1) ?_ ?_ as.length 0 _ false _ (Nat.sub_zero _) (Nat.zero_le _) (.inr hn) ⟨isListIter_of ?_, ?_⟩ ⟨isListIter_of ?_, ?_⟩ ?_ (fun s' t hm => ?_)
  · simp
  · simp only [List.mem_cons, List.not_mem_nil, or_false]; exact Nat.ne_of_lt lty
  · simp
  · simp only [List.mem_cons, List.not_mem_nil, or_false]; exact Nat.ne_of_lt (Nat.lt_succ_of_lt ltx)
  · have := hba a (List.mem_of_getElem? ha); omega
  · have := hbb b (List.mem_of_getElem? hb); omega
  · have := hd.prods i a b ha hb; omega
  · have := hd.sums (i + 1); omega
  · simp only [List.mem_cons, List.not_mem_nil, or_false, not_or]
    exact ⟨Nat.ne_of_gt (Nat.lt_succ_of_lt (Nat.lt_succ_self _)), Nat.ne_of_gt (Nat.lt_succ_of_lt (Nat.lt_succ_of_lt ltx))⟩
  · simp only [List.mem_cons, List.not_mem_nil, or_false, not_or]
    exact ⟨Nat.ne_of_gt (Nat.lt_succ_self _), Nat.ne_of_gt (Nat.lt_succ_of_lt (Nat.lt_succ_of_lt lty))⟩
  · exact Heap.get?_push_of_some _ (Heap.get?_push_of_some _ (Heap.get?_push_size _ rfl))
  · exact ((hx.push _).push _).push _
  · refine Heap.get?_push_of_some _ ?_
    have q : ((s.heap.push { cls := .type "list_iterator", data := .fields #[.ref ax, .int 0 0] }).push { cls := .type "list_iterator", data := .fields #[.ref ay, .int 0 0] }).get? (s.heap.push { cls := .type "list_iterator", data := .fields #[.ref ax, .int 0 0] }).objs.size = some { cls := .type "list_iterator", data := .fields #[.ref ay, .int 0 0] } := Heap.get?_push_size _ rfl
    rwa [hs1] at q
  · exact ((hy.push _).push _).push _
  · have q : (((s.heap.push { cls := .type "list_iterator", data := .fields #[.ref ax, .int 0 0] }).push { cls := .type "list_iterator", data := .fields #[.ref ay, .int 0 0] }).push (bitsTup (triple (zero false, zero false, zero false)))).get? ((s.heap.push { cls := .type "list_iterator", data := .fields #[.ref ax, .int 0 0] }).push { cls := .type "list_iterator", data := .fields #[.ref ay, .int 0 0] }).objs.size = some (bitsTup (triple (zero false, zero false, zero false))) := Heap.get?_push_size _ rfl
    rwa [hs2] at q
  · show Q (.int (dotN as bs as.length) t) s'
    have := k t s'.heap s'.toks (fun c o e => hm.heap c o (fun h => by
      have hc := Heap.lt_size e
      simp only [List.mem_cons, List.not_mem_nil, or_false] at h
      rcases h with q | q <;> rw [q] at hc
      · exact Nat.lt_irrefl _ hc
      · exact absurd hc (Nat.not_lt.mpr (Nat.le_succ _))) (Heap.get?_push_of_some _ (Heap.get?_push_of_some _ (Heap.get?_push_of_some _ e)))) (Nat.lt_of_lt_of_le htk hm.toks)
    rw [moved_back (s := s) hm (fun _ _ e => e) rfl rfl rfl]; exact this
end
end Mine
end
section
set_option maxRecDepth 100000
set_option exponentiation.threshold 3000
namespace Mine
open PySem PySem.Float64 PySem.Builtin.Math PySem.W PySem.Calls PyProof.Rows

/-- what a generator of «y - m» gives -/
noncomputable abbrev SubP (ys : List Int) (m : Int) : Nat → Value → Prop := fun j y => ∃ b t n, y = .float b t ∧ ys[j]? = some n ∧ IsF b (n - m)
theorem subP_num {ys : List Int} {m : Int} {i : Nat} {u : Value} (h : SubP ys m i u) : ∃ n, (ys.map (· - m))[i]? = some n ∧ NumE u n := by
  obtain ⟨b, t, n, rfl, hn, hb⟩ := h
  exact ⟨n - m, by rw [List.getElem?_map, hn]; rfl, .float _ _ _ hb⟩
theorem subP_fl {ys : List Int} {m : Int} {i : Nat} {u : Value} (h : SubP ys m i u) : isFl u = true := by
  obtain ⟨b, t, n, rfl, _⟩ := h; rfl
noncomputable abbrev BareG (u v : Array GenState) : Prop := (∀ y ∈ u, y.bare = true) → ∀ y ∈ v, y.bare = true

section
variable {prog : Program} {w : World} {A : Around} {E : Value → Shared → Prop} {s : Shared}

/-- a generator of «y - m» that stands in the heap -/
structure GenHere (prog : Program) (w : World) (A : Around) (s : Shared) (a C I ay cc : Addr) (g : Nat) (ys : List Int) (m : Int) : Prop where
  walks : WalksS prog w A.in1 a [a, C, I, ay, cc, cStatics] [C, I] (GenOnlyQ g) ys.length (SubP ys m) (GenAt prog w A.in1 a g C [I, ay, cc, cStatics] [I] (fun _ => true) ys.length (SubP ys m))
  at0 : GenAt prog w A.in1 a g C [I, ay, cc, cStatics] [I] (fun _ => true) ys.length (SubP ys m) 0 s
  below : ∀ b ∈ [a, C, I, ay, cc, cStatics], b < s.heap.objs.size

theorem GenHere.grow {a C I ay cc : Addr} {g : Nat} {ys : List Int} {m : Int} {s s' : Shared} (x : GenHere prog w A s a C I ay cc g ys m) (hk : ∀ b ∈ [a, C, I, ay, cc, cStatics], ∀ o, s.heap.get? b = some o → s'.heap.get? b = some o)
    (hg : ∀ z : GenState, s.gens[g]? = some z → s'.gens[g]? = some z) (hsz : s.heap.objs.size ≤ s'.heap.objs.size) : GenHere prog w A s' a C I ay cc g ys m := by
  refine ⟨x.walks, ?_, fun b hb => Nat.lt_of_lt_of_le (x.below b hb) hsz⟩
  obtain ⟨⟨o, nm, qn, ho, r⟩, ⟨mc, hns, hnn⟩, gs, h3, h4⟩ := x.at0
  exact ⟨⟨o, nm, qn, hk a (by simp) o ho, r⟩, ⟨mc, hns.at' fun o e => hk cStatics (by simp) o e, hnn⟩, gs, hg _ h3, fun s'' hal => h4 s'' fun b hb o e => hal b hb o (hk b (List.mem_cons_of_mem _ hb) o e)⟩

/-- sumprod of a list of floats and a generator -/
theorem call_sumprod_list_gen {ax a C I ay cc : Addr} {g : Nat} {vx : List Value} {as ys : List Int} {m : Int} {Q : Value → Shared → Prop} (hA : A.handled = none) (hx : s.heap.IsList ax vx.toArray) (nx : NumsE vx as)
    (X : GenHere prog w A s a C I ay cc g ys m) (hlen : ys.length = as.length) (hd : DotOk as (ys.map (· - m))) (hn : 0 < as.length) (hxC : ax ≠ C) (hxI : ax ≠ I)
    (k : ∀ b t s', IsF b (dotN as (ys.map (· - m)) as.length) → (∀ c o, c ≠ C → c ≠ I → s.heap.get? c = some o → s'.heap.get? c = some o) → BareG s.gens s'.gens → s'.os = s.os → Q (.float b t) s') :
    wpAny (model prog w) A (call (.builtin "math.sumprod") [.ref ax, .ref a]) Q E s := by
  refine call_sumprod (wpAny_pyIter_list hx ?_)
  obtain ⟨ox, hox, _⟩ := id hx
  have ltx : ax < s.heap.objs.size := Heap.lt_size hox
  have n1 : ax ≠ s.heap.objs.size := Nat.ne_of_lt ltx
  have hs1 : (s.heap.push { cls := .type "list_iterator", data := .fields #[.ref ax, .int 0 0] }).objs.size = s.heap.objs.size + 1 := Heap.size_push ..
  have X₁ : GenHere prog w A { s with heap := s.heap.push { cls := .type "list_iterator", data := .fields #[.ref ax, .int 0 0] } } a C I ay cc g ys m :=
    X.grow (fun b _ o e => Heap.get?_push_of_some _ e) (fun _ e => e) (by show s.heap.objs.size ≤ (s.heap.push _).objs.size; rw [hs1]; exact Nat.le_succ _)
  refine X₁.walks.self 0 _ _ _ X₁.at0 ?_
  intro tk _
  have W₁ := walksList (prog := prog) (w := w) (A := A.in1) hA s.heap.objs.size ax n1 nx
  have W₂ := X.walks
  rw [hlen] at W₂
  dsimp only
  rw [hs1]
  have ltI : ∀ b ∈ [a, C, I, ay, cc, cStatics], b < s.heap.objs.size := X.below
  have X₂ : GenHere prog w A { s with heap := (s.heap.push { cls := .type "list_iterator", data := .fields #[.ref ax, .int 0 0] }).push (bitsTup (triple (zero false, zero false, zero false))), toks := tk } a C I ay cc g ys m :=
    X.grow (fun b _ o e => Heap.get?_push_of_some _ (Heap.get?_push_of_some _ e)) (fun _ e => e) (by show s.heap.objs.size ≤ ((s.heap.push _).push _).objs.size; rw [Heap.size_push, hs1]; exact Nat.le_succ_of_le (Nat.le_succ _))
  have st₂ := X₂.at0
  rw [hlen] at st₂
  refine sumprod_exact (wr := [s.heap.objs.size, C, I]) (G := BareG) W₁ W₂ (fun i s₁ s₂ st hm => genAt_moved st hm (fun b hb h => ?_) (by simp) (fun u v e x h => ?_)) (fun i s₁ s₂ st hm => iter_moved st hm ?_ ?_) (fun b hb => by simp_all) (fun b hb => by simp at hb ⊢; exact .inr hb)
    (fun u v e h => by rw [e]; exact h) (fun u v e h => e.bare h) (fun _ _ _ e1 e2 h => e2 (e1 h))
    (fun i u hu => nx.at hu) (fun i u hu => subP_num hu) (fun i u v hu hv => by rw [subP_fl hv, Bool.or_true]) hd hn ⟨isListIter_of ?_, ?_⟩ st₂ (fun b hb => ?_) (fun b hb => ?_) ?_ (fun s' b t hb hm => ?_)
  · simp only [List.mem_cons, List.not_mem_nil, or_false] at h
    exact absurd (ltI b hb) (by rw [h]; exact Nat.lt_irrefl _)
  · rw [e]; exact h
  · simp only [List.mem_cons, List.not_mem_nil, or_false, not_or]
    exact ⟨Nat.ne_of_gt (ltI C (by simp)), Nat.ne_of_gt (ltI I (by simp))⟩
  · simp only [List.mem_cons, List.not_mem_nil, or_false, not_or]
    exact ⟨hxC, hxI⟩
  · exact Heap.get?_push_of_some _ (Heap.get?_push_size _ rfl)
  · exact (hx.push _).push _
  · simp only [List.mem_cons, List.not_mem_nil, or_false] at hb
    rcases hb with q | q <;> rw [q]
    · exact Nat.lt_succ_self _
    · exact Nat.lt_succ_of_lt ltx
  · exact Nat.lt_succ_of_lt (ltI b hb)
  · have q : ((s.heap.push { cls := .type "list_iterator", data := .fields #[.ref ax, .int 0 0] }).push (bitsTup (triple (zero false, zero false, zero false)))).get? (s.heap.push { cls := .type "list_iterator", data := .fields #[.ref ax, .int 0 0] }).objs.size = some (bitsTup (triple (zero false, zero false, zero false))) := Heap.get?_push_size _ rfl
    rwa [hs1] at q
  · refine k b t s' hb (fun c o h1 h2 e => hm.heap c o (fun h => ?_) (Heap.get?_push_of_some _ (Heap.get?_push_of_some _ e))) hm.gens hm.os
    have hc := Heap.lt_size e
    simp only [List.mem_cons, List.not_mem_nil, or_false] at h
    rcases h with q | q | q
    · rw [q] at hc; exact Nat.lt_irrefl _ hc
    · exact h1 q
    · exact h2 q

/-- sumprod of two generators -/
theorem call_sumprod_gens {a C I ay cc a' C' I' ay' cc' : Addr} {g g' : Nat} {xs ys : List Int} {m m' : Int} {Q : Value → Shared → Prop}
    (X : GenHere prog w A s a C I ay cc g xs m) (X' : GenHere prog w A s a' C' I' ay' cc' g' ys m') (hlen : ys.length = xs.length) (hd : DotOk (xs.map (· - m)) (ys.map (· - m'))) (hn : 0 < xs.length) (hg : g ≠ g')
    (d1 : ∀ b ∈ [a, C, I, ay, cc, cStatics], b ≠ C' ∧ b ≠ I') (d2 : ∀ b ∈ [a', C', I', ay', cc', cStatics], b ≠ C ∧ b ≠ I)
    (k : ∀ b t s', IsF b (dotN (xs.map (· - m)) (ys.map (· - m')) xs.length) → (∀ c o, c ≠ C → c ≠ I → c ≠ C' → c ≠ I' → s.heap.get? c = some o → s'.heap.get? c = some o) → BareG s.gens s'.gens → s'.os = s.os → Q (.float b t) s') :
    wpAny (model prog w) A (call (.builtin "math.sumprod") [.ref a, .ref a']) Q E s := by
  refine call_sumprod (X.walks.self 0 _ _ _ X.at0 (X'.walks.self 0 _ _ _ X'.at0 ?_))
  intro tk _
  have W₁ := X.walks
  have W₂ := X'.walks
  rw [hlen] at W₂
  have el : xs.length = (xs.map (· - m)).length := by rw [List.length_map]
  rw [el] at W₁ W₂
  have Y : GenHere prog w A { s with heap := s.heap.push (bitsTup (triple (zero false, zero false, zero false))), toks := tk } a C I ay cc g xs m :=
    X.grow (fun b _ o e => Heap.get?_push_of_some _ e) (fun _ e => e) (by show s.heap.objs.size ≤ (s.heap.push _).objs.size; rw [Heap.size_push]; exact Nat.le_succ _)
  have Y' : GenHere prog w A { s with heap := s.heap.push (bitsTup (triple (zero false, zero false, zero false))), toks := tk } a' C' I' ay' cc' g' ys m' :=
    X'.grow (fun b _ o e => Heap.get?_push_of_some _ e) (fun _ e => e) (by show s.heap.objs.size ≤ (s.heap.push _).objs.size; rw [Heap.size_push]; exact Nat.le_succ _)
  have st₁ := Y.at0
  have st₂ := Y'.at0
  rw [hlen] at st₂
  rw [el] at st₁ st₂ k hn
  refine sumprod_exact (wr := [C, I, C', I']) (G := BareG) W₁ W₂ (fun i s₁ s₂ st hm => genAt_moved st hm (fun b hb h => ?_) (by simp) (genOnlyQ_at (Ne.symm hg))) (fun i s₁ s₂ st hm => genAt_moved st hm (fun b hb h => ?_) (by simp) (genOnlyQ_at hg)) (fun b hb => by simp at hb ⊢; rcases hb with q | q <;> simp [q]) (fun b hb => by simp at hb ⊢; rcases hb with q | q <;> simp [q])
    (fun u v e h => e.bare h) (fun u v e h => e.bare h) (fun _ _ _ e1 e2 h => e2 (e1 h))
    (fun i u hu => subP_num hu) (fun i u hu => subP_num hu) (fun i u v hu hv => by rw [subP_fl hv, Bool.or_true]) hd hn st₁ st₂ (fun b hb => ?_) (fun b hb => ?_) ?_ (fun s' b t hb hm => ?_)
  · simp only [List.mem_cons, List.not_mem_nil, or_false] at h
    rcases h with q | q
    · exact (d2 b hb).1 q
    · exact (d2 b hb).2 q
  · simp only [List.mem_cons, List.not_mem_nil, or_false] at h
    rcases h with q | q
    · exact (d1 b hb).1 q
    · exact (d1 b hb).2 q
  · exact X.below b hb
  · exact X'.below b hb
  · exact Heap.get?_push_size _ rfl
  · refine k b t s' hb (fun c o h1 h2 h3 h4 e => hm.heap c o (fun h => ?_) (Heap.get?_push_of_some _ e)) hm.gens hm.os
    simp only [List.mem_cons, List.not_mem_nil, or_false] at h
    rcases h with q | q | q | q
    · exact h1 q
    · exact h2 q
    · exact h3 q
    · exact h4 q
end
end Mine
end
section
set_option maxRecDepth 100000
set_option exponentiation.threshold 3000
namespace Mine
open PySem PySem.Float64 PySem.Builtin.Math PySem.W PySem.Calls PyProof.Rows

/-- what a value stands for -/
inductive AV where
  | int (n : Int)
  | fl (n : Int)
  | bool (b : Bool)
  | none
  | ref (a : Addr)
  | val (v : Value)
  | q (a b : Int)
  | qi (a b : Int)
  | bits (b : UInt64)
inductive Rep : AV → Value → Prop
  | int (n : Int) (t : Tok) : Rep (.int n) (.int n t)
  | fl (n : Int) (b : UInt64) (t : Tok) : IsF b n → Rep (.fl n) (.float b t)
  | bool (b : Bool) : Rep (.bool b) (.bool b)
  | none : Rep .none .none
  | ref (a : Addr) : Rep (.ref a) (.ref a)
  | val (v : Value) : Rep (.val v) v
  | bits (b : UInt64) (t : Tok) : Rep (.bits b) (.float b t)
  | q (a b : Int) (x y : UInt64) (t : Tok) : IsF x a → IsF y b → 0 < t → Rep (.q a b) (.float (Float64.div x y) t)
  | qi (a b : Int) (t : Tok) : 0 < t → Rep (.qi a b) (.float (Float64.ofFrac (decide (a < 0) != decide (b < 0)) a.natAbs b.natAbs) t)
inductive Reps : List AV → List Value → Prop
  | nil : Reps [] []
  | cons {a v l r} : Rep a v → Reps l r → Reps (a :: l) (v :: r)
theorem Reps.length : ∀ {l r}, Reps l r → r.length = l.length
  | _, _, .nil => rfl
  | _, _, .cons _ t => by rw [List.length_cons, List.length_cons, t.length]
theorem Reps.at {l r} (h : Reps l r) : ∀ {i : Nat} {a : AV}, l[i]? = some a → ∃ v, r[i]? = some v ∧ Rep a v := by
  induction h with
  | nil => intro i a e; cases e
  | cons h t ih =>
    intro i a e
    cases i with
    | zero => injection e with e; subst e; exact ⟨_, rfl, h⟩
    | succ i => exact ih e
theorem Reps.at' {l r} (h : Reps l r) : ∀ {i : Nat} {v : Value}, r[i]? = some v → ∃ a, l[i]? = some a ∧ Rep a v := by
  induction h with
  | nil => intro i a e; cases e
  | cons h t ih =>
    intro i a e
    cases i with
    | zero => injection e with e; subst e; exact ⟨_, rfl, h⟩
    | succ i => exact ih e
theorem Reps.append : ∀ {l r l' r'}, Reps l r → Reps l' r' → Reps (l ++ l') (r ++ r')
  | _, _, _, _, .nil, h => h
  | _, _, _, _, .cons a t, h => .cons a (t.append h)

theorem ex1and4 {α : Type} {a b c d : α → Prop} {Go : Prop} (h : ∃ x, a x ∧ b x ∧ c x ∧ d x) (k : ∀ x, a x → b x → c x → d x → Go) : Go := h.elim fun x p => k x p.1 p.2.1 p.2.2.1 p.2.2.2
theorem ex2and6 {α β : Type} {a b c d e f : α → β → Prop} {Go : Prop} (h : ∃ x y, a x y ∧ b x y ∧ c x y ∧ d x y ∧ e x y ∧ f x y) (k : ∀ x y, a x y → b x y → c x y → d x y → e x y → f x y → Go) : Go :=
  h.elim fun x h => h.elim fun y p => k x y p.1 p.2.1 p.2.2.1 p.2.2.2.1 p.2.2.2.2.1 p.2.2.2.2.2
theorem mi {α : Type} {l : List α} {a : α} (i : Nat) (h : l[i]? = some a) : a ∈ l := List.mem_of_getElem? h
noncomputable def RepI : AV → Value → Prop
  | .int n, v => ∃ t, Value.int n t = v
  | .fl n, v => ∃ b t, IsF b n ∧ Value.float b t = v
  | .bool b, v => Value.bool b = v
  | .none, v => Value.none = v
  | .ref a, v => Value.ref a = v
  | .val x, v => x = v
  | .bits b, v => ∃ t, Value.float b t = v
  | .q a b, v => ∃ x y t, IsF x a ∧ IsF y b ∧ 0 < t ∧ Value.float (Float64.div x y) t = v
  | .qi a b, v => ∃ t, 0 < t ∧ Value.float (Float64.ofFrac (decide (a < 0) != decide (b < 0)) a.natAbs b.natAbs) t = v
theorem Rep.inv {a : AV} {v : Value} (h : Rep a v) : RepI a v := by
  cases h with
  | int n t => exact ⟨t, rfl⟩
  | fl n b t x => exact ⟨b, t, x, rfl⟩
  | bool b => exact rfl
  | none => exact rfl
  | ref a => exact rfl
  | val v => exact rfl
  | bits b t => exact ⟨t, rfl⟩
  | q a b x y t p q r => exact ⟨x, y, t, p, q, r, rfl⟩
  | qi a b t p => exact ⟨t, p, rfl⟩
theorem Reps.consI {a : AV} {l : List AV} {r : List Value} (h : Reps (a :: l) r) : ∃ v r', Rep a v ∧ Reps l r' ∧ v :: r' = r := by
  cases h with | cons p q => exact ⟨_, _, p, q, rfl⟩
theorem Reps.nilI {r : List Value} (h : Reps [] r) : [] = r := by
  cases h; rfl

noncomputable def AV.pv : AV → Option Value
  | .bool b => some (.bool b)
  | .none => some .none
  | .ref a => some (.ref a)
  | .val x => some x
  | _ => Option.none
noncomputable def AV.tv : AV → Option (Tok → Value)
  | .int n => some fun t => .int n t
  | .bits b => some fun t => .float b t
  | _ => Option.none
theorem Rep.e0 {a : AV} {v w : Value} {Go : Value → Prop} (h : Rep a v) (e : a.pv = some w) (k : Go w) : Go v := by
  cases h <;> simp only [AV.pv, Option.some.injEq, reduceCtorEq] at e <;> subst e <;> exact k
theorem Rep.e1 {a : AV} {v : Value} {f : Tok → Value} {Go : Value → Prop} (h : Rep a v) (e : a.tv = some f) (k : ∀ t, Go (f t)) : Go v := by
  cases h <;> simp only [AV.tv, Option.some.injEq, reduceCtorEq] at e <;> subst e <;> exact k _
theorem Reps.consE {a : AV} {l : List AV} {r : List Value} {Go : List Value → Prop} (h : Reps (a :: l) r) (k : ∀ v r', Rep a v → Reps l r' → Go (v :: r')) : Go r := by
  cases h with | cons p q => exact k _ _ p q
theorem Reps.nilE {r : List Value} {Go : List Value → Prop} (h : Reps [] r) (k : Go []) : Go r := by
  cases h; exact k

/-- a list that stands in the heap -/
noncomputable def IsAV (h : Heap) (a : Addr) (l : List AV) : Prop := ∃ vals : List Value, h.IsList a vals.toArray ∧ Reps l vals

/-- the heap's size behind the top -/
noncomputable def nT : Nat := 452
/-- the last object that no traceback touches: the list of tables says by its length how far that is -/
noncomputable def topOf (P : List Addr) : Addr := max 451 (P.length - 1)
theorem nT_top {P : List Addr} : nT ≤ topOf P + 1 := Nat.succ_le_succ (Nat.le_max_left _ _)
/-- a frame's locals: a traceback may fill their slots -/
noncomputable def Frm (P : List Addr) (b : Addr) (o : Obj) : Prop := topOf P < b ∧ ∃ es ep, o.data = .dict es ep
theorem Frm.nT {P : List Addr} {b : Addr} {o : Obj} (x : Frm P b o) : nT ≤ b := Nat.le_trans nT_top x.1
noncomputable def Kept (P : List Addr) (b : Addr) (o o' : Obj) : Prop := o' = o ∨ (Frm P b o ∧ ∃ sl, o' = { o with slots := sl })
theorem Kept.refl {P : List Addr} {b : Addr} {o : Obj} : Kept P b o o := .inl rfl
theorem Kept.trans {P : List Addr} {b : Addr} {o o₁ o₂ : Obj} (x : Kept P b o o₁) (y : Kept P b o₁ o₂) : Kept P b o o₂ := by
  rcases x with rfl | ⟨hf, sl, rfl⟩
  · exact y
  · rcases y with rfl | ⟨_, sl', rfl⟩
    · exact .inr ⟨hf, sl, rfl⟩
    · exact .inr ⟨hf, sl', rfl⟩
noncomputable def Grow (P : List Addr) (h h' : Heap) : Prop := ∀ b o, b ∉ P → h.get? b = some o → ∃ o', h'.get? b = some o' ∧ Kept P b o o'
theorem Grow.of {P : List Addr} {h h' : Heap} (k : ∀ b o, b ∉ P → h.get? b = some o → h'.get? b = some o) : Grow P h h' := fun b o hb e => ⟨o, k b o hb e, .refl⟩
theorem Grow.trans {P h h₁ h₂} (x : Grow P h h₁) (y : Grow P h₁ h₂) : Grow P h h₂ := fun b o hb e =>
  let ⟨o₁, e₁, k₁⟩ := x b o hb e
  let ⟨o₂, e₂, k₂⟩ := y b o₁ hb e₁
  ⟨o₂, e₂, k₁.trans k₂⟩
theorem Grow.keep {P h0 h h'} (x : Grow P h0 h) (k : ∀ b o o₀, b ∉ P → h0.get? b = some o₀ → h.get? b = some o → h'.get? b = some o) : Grow P h0 h' := fun b o hb e =>
  let ⟨o₁, e₁, k₁⟩ := x b o hb e
  ⟨o₁, k b o₁ o hb e e₁, k₁⟩
theorem Grow.plain {P : List Addr} {h h' : Heap} (x : Grow P h h') {b : Addr} {o : Obj} (hb : b ∉ P) (hd : ∀ es ep, o.data ≠ .dict es ep) (e : h.get? b = some o) : h'.get? b = some o := by
  obtain ⟨o', e', rfl | ⟨⟨_, es, ep, d⟩, _⟩⟩ := x b o hb e
  · exact e'
  · exact absurd d (hd es ep)
theorem Grow.low {P : List Addr} {h h' : Heap} (x : Grow P h h') {b : Addr} {o : Obj} (hb : b ∉ P) (hl : b < nT) (e : h.get? b = some o) : h'.get? b = some o := by
  obtain ⟨o', e', rfl | ⟨hf, _⟩⟩ := x b o hb e
  · exact e'
  · exact absurd hl (Nat.not_lt.mpr hf.nT)
theorem Grow.data {P : List Addr} {h h' : Heap} (x : Grow P h h') {b : Addr} {o : Obj} (hb : b ∉ P) (e : h.get? b = some o) : ∃ o', h'.get? b = some o' ∧ o'.data = o.data := by
  obtain ⟨o', e', rfl | ⟨_, sl, rfl⟩⟩ := x b o hb e
  · exact ⟨_, e', rfl⟩
  · exact ⟨_, e', rfl⟩
theorem Grow.ns {P : List Addr} {h h' : Heap} (x : Grow P h h') {a : Addr} {m : Str → Option Value} (ha : a ∉ P) (n : h.Ns a m) : h'.Ns a m := by
  obtain ⟨o, es, ep, e, d, r⟩ := n
  obtain ⟨o', e', d'⟩ := x.data ha e
  exact ⟨o', es, ep, e', d'.trans d, r⟩
theorem Grow.lt {P : List Addr} {h h' : Heap} (x : Grow P h h') {b : Addr} {o : Obj} (hb : b ∉ P) (e : h.get? b = some o) : b < h'.objs.size := let ⟨_, e', _⟩ := x b o hb e; Heap.lt_size e'

/-- objects that a frame's stores leave alone -/
noncomputable def Lasting (o : Obj) : Bool := match o.data with
  | .dict _ _ => false
  | .cell _ => false
  | _ => true

/-- what a heap holds at a place -/
inductive HV where
  | list (l : List AV)
  | acc (l : List AV)
  | pin (fp : List Addr) (h : Heap)
noncomputable def noPin (l : List (Addr × HV)) : Bool := l.all fun p => match p.2 with | .pin _ _ => false | _ => true
theorem np_of {l : List (Addr × HV)} (h : noPin l = true) : ∀ a fp h', (a, HV.pin fp h') ∉ l := fun _ _ _ hm => absurd (List.all_eq_true.mp h _ hm) Bool.false_ne_true
noncomputable def Holds (h : Heap) (a : Addr) : HV → Prop
  | .list l => IsAV h a l
  | .acc l => ∃ vals : List Value, PlainL h a vals.toArray ∧ Reps l vals
  | .pin fp h₁ => ∀ b ∈ fp, ∀ o, h₁.get? b = some o → Lasting o = true ∧ h.get? b = some o
structure EnvOk (n : Nat) (env : Env) (h : Heap) : Prop where
  fn : env.scope.kind = .function
  ns : ∃ m, h.Ns env.locals m
  lo : n ≤ env.locals
  cell : ∀ x c, env.cells.lookup x = some c → (env.func ≠ Option.none → n ≤ c) ∧ c ≠ env.locals ∧ ∃ v, h.IsCell c v
  inj : ∀ x y c, env.cells.lookup x = some c → env.cells.lookup y = some c → x = y

noncomputable def Loads (env : Env) (h : Heap) (x : Str) (v : Value) : Prop :=
  (env.kindOf x = some .local ∧ ∃ m, h.Ns env.locals m ∧ m x = some v) ∨ (env.kindOf x = some .cell ∧ ∃ c, env.cells.lookup x = some c ∧ h.IsCell c (some v))
    ∨ (env.kindOf x = some .free ∧ (x == ("__classdict__" : Str)) = false ∧ ∃ c, env.cells.lookup x = some c ∧ h.IsCell c (some v))
noncomputable def Here (env : Env) (h : Heap) (ρ : List (Str × AV)) : Prop := ∀ x av, ρ.lookup x = some av → ∃ v, Rep av v ∧ Loads env h x v

/-- the state of an activation -/
structure At (P : List Addr) (T : Heap → Prop) (h0 : Heap) (g0 : Array GenState) (o0 : OsState) (env : Env) (ρ : List (Str × AV)) (ls : List (Addr × HV)) (s : Shared) : Prop where
  ok : EnvOk h0.objs.size env s.heap
  grow : Grow P h0 s.heap
  here : Here env s.heap ρ
  lists : ∀ a l, (a, l) ∈ ls → Holds s.heap a l
  far : topOf P ∉ P
  big : ∃ o, h0.get? (topOf P) = some o
  tb : T s.heap
  gens : BareG g0 s.gens
  os : s.os = o0

section
variable {prog : Program} {w : World} {A : Around} {E : Value → Shared → Prop} {s : Shared} {env : Env} {C : Shared → Prop}

/-- an expression that changes nothing but the tokens -/
noncomputable def Pur (prog : Program) (w : World) (A : Around) (C : Shared → Prop) (env : Env) (e : Expr) (av : AV) : Prop :=
  ∀ (s : Shared) (Q : Value → Shared → Prop) (E : Value → Shared → Prop), C s → (∀ v tk, Rep av v → s.toks ≤ tk → Q v { s with toks := tk }) → wpAny (model prog w) A (eval e env) Q E s
/-- a test that changes nothing but the tokens -/
noncomputable def Tst (prog : Program) (w : World) (A : Around) (C : Shared → Prop) (env : Env) (e : Expr) (b : Bool) : Prop :=
  ∀ (s : Shared) (Q : Bool → Shared → Prop) (E : Value → Shared → Prop), C s → (∀ tk, s.toks ≤ tk → Q b { s with toks := tk }) → wpAny (model prog w) A (isTrue e env (eval e env)) Q E s
class TokFree (C : Shared → Prop) : Prop where
  go : ∀ s tk, C s → C { s with toks := tk }
instance {P T h0 g0 o0 env ρ ls} : TokFree (At P T h0 g0 o0 env ρ ls) := ⟨fun _ _ x => ⟨x.ok, x.grow, x.here, x.lists, x.far, x.big, x.tb, x.gens, x.os⟩⟩

theorem Pur.name {x : Str} {p : Pos} {av : AV} (hl : ∀ s, C s → ∃ v, Rep av v ∧ Loads env s.heap x v) (hf : env.scope.kind = .function) (hd : (x == ("__debug__" : Str)) = false := by decide) : Pur prog w A C env (.Name x p) av := by
  intro s Q E hC h
  obtain ⟨v, hr, hv⟩ := hl s hC
  refine wpAny_Name ?_ hd
  rcases hv with ⟨hk, m, hn, hm⟩ | ⟨hk, c, hc, hv⟩ | ⟨hk, hn, c, hc, hv⟩
  · exact wpAny_loadName_local hf hk hn hm (h v s.toks hr (Nat.le_refl _))
  · exact wpAny_loadName_cell hf hk hc hv (h v s.toks hr (Nat.le_refl _))
  · exact wpAny_loadName_free hf hk hc hv (h v s.toks hr (Nat.le_refl _)) hn
theorem Pur.nm {P T h0 g0 o0 ρ ls} {x : Str} {p : Pos} {av : AV} (hx : ρ.lookup x = some av) (hd : (x == ("__debug__" : Str)) = false := by decide) : Pur prog w A (At P T h0 g0 o0 env ρ ls) env (.Name x p) av := by
  intro s Q E hC h
  exact Pur.name (C := fun u => u = s) (fun u hu => by subst hu; exact hC.here x av hx) hC.ok.fn hd s Q E rfl h
theorem Pur.int {i : Int} {k pos} : Pur prog w A C env (.Constant (.int i) k pos) (.int i) := by
  intro s Q E _ h
  exact wpAny_Constant_int (h _ _ (.int _ _) (Nat.le_succ _))
theorem Pur.none {k pos} : Pur prog w A C env (.Constant .none k pos) .none := by
  intro s Q E _ h
  exact wpAny_Constant_none (h _ s.toks .none (Nat.le_refl _))
theorem Pur.bool {b k pos} : Pur prog w A C env (.Constant (.bool b) k pos) (.bool b) := by
  intro s Q E _ h
  exact wpAny_Constant_bool (h _ s.toks (.bool _) (Nat.le_refl _))

/-- an operation on values that changes nothing but the tokens -/
noncomputable def Op2 (prog : Program) (w : World) (A : Around) (op : Value → Value → Sem Value) (a b c : AV) : Prop :=
  ∀ (va vb : Value) (s : Shared) (Q : Value → Shared → Prop) (E : Value → Shared → Prop), Rep a va → Rep b vb → (∀ v tk, Rep c v → s.toks ≤ tk → Q v { s with toks := tk }) → wpAny (model prog w) A (op va vb) Q E s
theorem Pur.bin {op : Operator} {l r : Expr} {pos : Pos} {a b c : AV} [TokFree C] (hl : Pur prog w A C env l a) (hr : Pur prog w A C env r b) (ho : Op2 prog w A (binaryOp op) a b c) : Pur prog w A C env (.BinOp l op r pos) c := by
  intro s Q E hC h
  refine wpAny_BinOp (hl s _ _ hC fun va tk hva htk => hr _ _ _ (TokFree.go _ _ hC) fun vb tk' hvb htk' => ho va vb _ _ _ hva hvb fun v tk'' hv htk'' => h v tk'' hv (Nat.le_trans htk (Nat.le_trans htk' htk'')))
theorem op_add {a b : Int} : Op2 prog w A (binaryOp .Add) (.int a) (.int b) (.int (a + b)) := by
  intro va vb s Q E ha hb h; cases ha; cases hb
  exact add_int (h _ _ (.int _ _) (Nat.le_succ _))
theorem op_sub {a b : Int} : Op2 prog w A (binaryOp .Sub) (.int a) (.int b) (.int (a - b)) := by
  intro va vb s Q E ha hb h; cases ha; cases hb
  exact sub_int (h _ _ (.int _ _) (Nat.le_succ _))
theorem op_mul {a b : Int} (hm : IntMulOk a b) : Op2 prog w A (binaryOp .Mult) (.int a) (.int b) (.int (a * b)) := by
  intro va vb s Q E ha hb h; cases ha; cases hb
  exact mul_int (h _ _ (.int _ _) (Nat.le_succ _)) hm
theorem op_mod {a b : Int} (hb : b ≠ 0) : Op2 prog w A (binaryOp .Mod) (.int a) (.int b) (.int (a.fmod b)) := by
  intro va vb s Q E ha hb' h; cases ha; cases hb'
  exact mod_int hb (h _ _ (.int _ _) (Nat.le_succ _))
theorem pylong_small {a b : Int} (h : b.natAbs < 2 ^ 300) : Builtin.divisionGoesByPylong a b = false := by
  unfold Builtin.divisionGoesByPylong
  have : b.natAbs.log2 / 30 + 1 ≤ 300 := by
    by_cases h0 : b.natAbs = 0
    · rw [h0]; decide
    · have := (Nat.log2_lt h0).mpr h
      omega
  have h2 : ¬ ((if (b == 0) = true then 0 else b.natAbs.log2 / 30 + 1) > 300) := by split <;> omega
  simp only [decide_eq_false h2, Bool.false_and]
theorem op_fdiv {a b : Int} (hb : b ≠ 0) (hs : b.natAbs < 2 ^ 300) : Op2 prog w A (binaryOp .FloorDiv) (.int a) (.int b) (.int (a.fdiv b)) := by
  intro va vb s Q E ha hb' h; cases ha; cases hb'
  exact floordiv_int hb (h _ _ (.int _ _) (Nat.le_succ _)) (.inl (pylong_small hs))
theorem op_eq {a b : Int} : Op2 prog w A (compareOp .Eq) (.int a) (.int b) (.bool (a == b)) := by
  intro va vb s Q E ha hb h; cases ha; cases hb
  exact eq_int (h _ s.toks (.bool _) (Nat.le_refl _))
theorem op_ne {a b : Int} : Op2 prog w A (compareOp .NotEq) (.int a) (.int b) (.bool (a != b)) := by
  intro va vb s Q E ha hb h; cases ha; cases hb
  exact ne_int (h _ s.toks (.bool _) (Nat.le_refl _))
theorem op_lt {a b : Int} : Op2 prog w A (compareOp .Lt) (.int a) (.int b) (.bool (decide (a < b))) := by
  intro va vb s Q E ha hb h; cases ha; cases hb
  exact lt_int (h _ s.toks (.bool _) (Nat.le_refl _))
theorem op_le {a b : Int} : Op2 prog w A (compareOp .LtE) (.int a) (.int b) (.bool (decide (a ≤ b))) := by
  intro va vb s Q E ha hb h; cases ha; cases hb
  exact le_int (h _ s.toks (.bool _) (Nat.le_refl _))
theorem Pur.neg {x : Expr} {pos : Pos} {a : Int} [TokFree C] (hx : Pur prog w A C env x (.int a)) : Pur prog w A C env (.UnaryOp .USub x pos) (.int (-a)) := by
  intro s Q E hC h
  refine wpAny_UnaryOp (hx s _ _ hC fun v tk hv htk => ?_)
  cases hv
  exact neg_int (h _ _ (.int _ _) (Nat.le_succ_of_le htk))
theorem Tst.cmp {op : CmpOp} {l r : Expr} {pos : Pos} {a b : AV} {c : Bool} [TokFree C] (hl : Pur prog w A C env l a) (hr : Pur prog w A C env r b) (ho : Op2 prog w A (compareOp op) a b (.bool c)) (hm : behindInMarks op r = false := by with_unfolding_all rfl) :
    Tst prog w A C env (.Compare l [op] [r] pos) c := by
  intro s Q E hC h
  refine wpAny_isTrue_Compare1 (hl s _ _ hC fun va tk hva htk => hr _ _ _ (TokFree.go _ _ hC) fun vb tk' hvb htk' => ho va vb _ _ _ hva hvb fun v tk'' hv htk'' => ?_) hm
  cases hv
  exact wpAny_truthy_bool (h tk'' (Nat.le_trans htk (Nat.le_trans htk' htk'')))
theorem Pur.ite {test body orelse : Expr} {pos : Pos} {b : Bool} {av : AV} [TokFree C] (ht : Tst prog w A C env test b) (hb : b = true → Pur prog w A C env body av) (he : b = false → Pur prog w A C env orelse av) : Pur prog w A C env (.IfExp test body orelse pos) av := by
  intro s Q E hC h
  refine wpAny_IfExp (ht s _ _ hC fun tk htk => ?_)
  cases b with
  | true => exact hb rfl _ _ _ (TokFree.go _ _ hC) fun v tk' hv htk' => h v tk' hv (Nat.le_trans htk htk')
  | false => exact he rfl _ _ _ (TokFree.go _ _ hC) fun v tk' hv htk' => h v tk' hv (Nat.le_trans htk htk')
/-- an item of a list of the frame's -/
theorem Pur.item {P T h0 g0 o0 ρ ls} {value slice : Expr} {pos : Pos} {a : Addr} {l : List AV} {i : Int} {av : AV} (hv : Pur prog w A (At P T h0 g0 o0 env ρ ls) env value (.ref a)) (hi : Pur prog w A (At P T h0 g0 o0 env ρ ls) env slice (.int i))
    (hl : (a, HV.list l) ∈ ls) (hi0 : 0 ≤ i) (hhi : i < 2 ^ 63) (hx : l[i.toNat]? = some av) (hs : ∀ (o : Addr) (j : Int) (u : Tok), subscripted slice false (.ref o) (.int j u) = operate [.ref o, .int j u] (getItem (.ref o) (.int j u)) := by intro _ _ _; with_unfolding_all rfl) :
    Pur prog w A (At P T h0 g0 o0 env ρ ls) env (.Subscript value slice pos) av := by
  intro s Q E hC h
  refine Subscript_ (hv s _ _ hC fun vo tk hvo htk => hi _ _ _ (TokFree.go _ _ hC) fun vi tk' hvi htk' => ?_)
  cases hvo; cases hvi
  obtain ⟨vals, hL, hR⟩ := hC.lists a _ hl
  obtain ⟨v, hv1, hv2⟩ := hR.at hx
  refine tail_any (T := "list") (id := "list.__getitem__") hL.typeIs slot_list_getitem.lookup (wpAny_getItem_list hL hi0 hhi (by simpa using hv1) (h v tk' hv2 (Nat.le_trans htk htk'))) (hs _ _ _)
end
end Mine
end
section
set_option maxRecDepth 100000
set_option exponentiation.threshold 3000
namespace Mine
open PySem PySem.Float64 PySem.Builtin.Math PySem.W PySem.Calls PyProof.Rows

section
variable {prog : Program} {w : World} {A : Around} {E : Value → Shared → Prop} {s : Shared} {env : Env} {P : List Addr} {T : Heap → Prop} {h0 : Heap} {g0 : Array GenState} {o0 : OsState} {ρ : List (Str × AV)} {ls : List (Addr × HV)}

/-- what a change of one's own frame leaves -/
noncomputable def Stored (n : Nat) (h h' : Heap) : Prop := (∀ b o, b < n → h.get? b = some o → h'.get? b = some o) ∧ (∀ b o, Lasting o = true → h.get? b = some o → h'.get? b = some o) ∧ h'.objs.size = h.objs.size

class TabKeep (T : Heap → Prop) : Prop where
  go : ∀ h h', T h → (∀ b o, b < nT → h.get? b = some o → h'.get? b = some o) → T h'
theorem ns_same {h : Heap} {a : Addr} {m m' : Str → Option Value} (x : h.Ns a m) (y : h.Ns a m') (z : Str) : m z = m' z := by
  obtain ⟨o, es, ep, h1, h2, _, h3⟩ := x
  obtain ⟨o', es', ep', h1', h2', _, h3'⟩ := y
  rw [h1] at h1'; cases h1'
  rw [h2] at h2'; cases h2'
  rw [← h3, h3']
theorem isAV_stay {h h' : Heap} {a : Addr} {l : List AV} (hk : ∀ b o, Lasting o = true → h.get? b = some o → h'.get? b = some o) (x : IsAV h a l) : IsAV h' a l := by
  obtain ⟨vals, ⟨o, ho, hc, n, hd⟩, hr⟩ := x
  exact ⟨vals, ⟨o, hk a o (by unfold Lasting; rw [hd]) ho, hc, n, hd⟩, hr⟩
theorem holds_stay {h h' : Heap} {a : Addr} {l : HV} (hk : ∀ b o, Lasting o = true → h.get? b = some o → h'.get? b = some o) (x : Holds h a l) : Holds h' a l := by
  cases l with
  | list l => exact isAV_stay hk x
  | acc l =>
    obtain ⟨vals, ⟨o, n, ho, h1, h2, hd⟩, hr⟩ := x
    exact ⟨vals, ⟨o, n, hk a o (by unfold Lasting; rw [hd]) ho, h1, h2, hd⟩, hr⟩
  | pin fp h₁ => exact fun b hb o e => ⟨(x b hb o e).1, hk b o (x b hb o e).1 (x b hb o e).2⟩
theorem holds_keep {h h' : Heap} {a : Addr} {l : HV} (hk : ∀ b o, h.get? b = some o → h'.get? b = some o) (x : Holds h a l) : Holds h' a l := holds_stay (fun b o _ => hk b o) x
theorem Stored.grow {P : List Addr} {n : Nat} {h0 h h' : Heap} (hn : h0.objs.size ≤ n) (x : Grow P h0 h) (y : Stored n h h') : Grow P h0 h' :=
  x.keep fun b o o₀ _ e₀ e => y.1 b o (Nat.lt_of_lt_of_le (Heap.lt_size e₀) hn) e

theorem At.top_lt (X : At P T h0 g0 o0 env ρ ls s) : topOf P < h0.objs.size := let ⟨_, e⟩ := X.big; Heap.lt_size e
theorem At.nT_le (X : At P T h0 g0 o0 env ρ ls s) : nT ≤ h0.objs.size := Nat.le_trans nT_top X.top_lt
/-- a name is stored -/
theorem At.store {x : Str} {av : AV} {v : Value} {Q : Unit → Shared → Prop} [TabKeep T] (X : At P T h0 g0 o0 env ρ ls s) (hr : Rep av v)
    (hx : env.kindOf x = some .local ∨ (env.kindOf x = some .cell ∧ ∃ c, env.cells.lookup x = some c ∧ env.func ≠ none))
    (k : ∀ s', At P T h0 g0 o0 env ((x, av) :: ρ) ls s' → Stored h0.objs.size s.heap s'.heap → (∃ a, Heap.SameBut a s.heap s'.heap ∧ ((env.kindOf x = some .local ∧ a = env.locals) ∨ (env.kindOf x = some .cell ∧ env.cells.lookup x = some a)) ∧ s'.gens = s.gens ∧ s.toks ≤ s'.toks) → Q () s') : wpAny (model prog w) A (storeName env x v) Q E s := by
  obtain ⟨m, hn⟩ := X.ok.ns
  rcases hx with hk | ⟨hk, c, hc, hfn⟩
  · refine wpAny_storeName_local hk hn (fun h' hn' hs => ?_) (by rw [X.ok.fn]; rfl)
    have st : Stored h0.objs.size s.heap h' := by
      refine ⟨fun b o hb e => (hs.2 b (Nat.ne_of_lt (Nat.lt_of_lt_of_le hb X.ok.lo))).trans e, fun b o hL e => (hs.2 b ?_).trans e, hs.1⟩
      intro q; subst q
      obtain ⟨o', es, ep, ho, hd, _⟩ := hn
      rw [ho] at e; cases e
      unfold Lasting at hL; rw [hd] at hL; cases hL
    refine k _ ⟨⟨X.ok.fn, ⟨_, hn'⟩, X.ok.lo, fun y c hc => ?_, X.ok.inj⟩, st.grow (Nat.le_refl _) X.grow, fun y av' hy => ?_, fun a l hl => holds_stay st.2.1 (X.lists a l hl), X.far, X.big, TabKeep.go _ _ X.tb (fun b o hb => st.1 b o (Nat.lt_of_lt_of_le hb X.nT_le)), X.gens, X.os⟩ st ⟨_, hs, .inl ⟨hk, rfl⟩, rfl, Nat.le_succ _⟩
    · obtain ⟨h1, h2, v', h3⟩ := X.ok.cell y c hc
      exact ⟨h1, h2, v', h3.sameBut hs h2⟩
    · rw [List.lookup_cons] at hy
      by_cases e : y = x
      · subst e
        rw [beq_self_eq_true] at hy
        cases hy
        exact ⟨v, hr, .inl ⟨hk, _, hn', if_pos rfl⟩⟩
      · rw [beq_eq_false_iff_ne.mpr e] at hy
        obtain ⟨v', hr', hv'⟩ := X.here y av' hy
        refine ⟨v', hr', ?_⟩
        rcases hv' with ⟨hk', m', hn'', hm'⟩ | ⟨hk', c, hc, hv⟩ | ⟨hk', hnn, c, hc, hv⟩
        · refine .inl ⟨hk', _, hn', ?_⟩
          rw [if_neg e, ← hm']
          exact ns_same hn hn'' y
        · exact .inr (.inl ⟨hk', c, hc, hv.sameBut hs (X.ok.cell y c hc).2.1⟩)
        · exact .inr (.inr ⟨hk', hnn, c, hc, hv.sameBut hs (X.ok.cell y c hc).2.1⟩)
  · obtain ⟨h1, h2, v₀, h3⟩ := X.ok.cell x c hc
    refine wpAny_storeName_cell X.ok.fn hk hc h3 (fun h' hc' hs => ?_)
    have st : Stored h0.objs.size s.heap h' := by
      refine ⟨fun b o hb e => (hs.2 b (Nat.ne_of_lt (Nat.lt_of_lt_of_le hb (h1 hfn)))).trans e, fun b o hL e => (hs.2 b ?_).trans e, hs.1⟩
      intro q; subst q
      obtain ⟨o', ho, hd⟩ := h3
      rw [ho] at e; cases e
      unfold Lasting at hL; rw [hd] at hL; cases hL
    refine k _ ⟨⟨X.ok.fn, ⟨m, hn.at' fun o e => (hs.2 _ (Ne.symm h2)).trans e⟩, X.ok.lo, fun y c' hc'' => ?_, X.ok.inj⟩, st.grow (Nat.le_refl _) X.grow, fun y av' hy => ?_, fun a l hl => holds_stay st.2.1 (X.lists a l hl), X.far, X.big, TabKeep.go _ _ X.tb (fun b o hb => st.1 b o (Nat.lt_of_lt_of_le hb X.nT_le)), X.gens, X.os⟩ st ⟨_, hs, .inr ⟨hk, hc⟩, rfl, by first | exact Nat.le_refl _ | exact Nat.le_succ _⟩
    · obtain ⟨q1, q2, v', q3⟩ := X.ok.cell y c' hc''
      refine ⟨q1, q2, ?_⟩
      by_cases e : c' = c
      · rw [e]; exact ⟨_, hc'⟩
      · exact ⟨v', q3.sameBut hs e⟩
    · rw [List.lookup_cons] at hy
      by_cases e : y = x
      · subst e
        rw [beq_self_eq_true] at hy
        cases hy
        exact ⟨v, hr, .inr (.inl ⟨hk, c, hc, hc'⟩)⟩
      · rw [beq_eq_false_iff_ne.mpr e] at hy
        obtain ⟨v', hr', hv'⟩ := X.here y av' hy
        refine ⟨v', hr', ?_⟩
        have hne : ∀ d, env.cells.lookup y = some d → d ≠ c := fun d hd q => by subst q; exact e (X.ok.inj y x _ hd hc)
        rcases hv' with ⟨hk', m', hn'', hm'⟩ | ⟨hk', d, hd, hv⟩ | ⟨hk', hnn, d, hd, hv⟩
        · exact .inl ⟨hk', m', hn''.at' fun o e => (hs.2 _ (Ne.symm h2)).trans e, hm'⟩
        · exact .inr (.inl ⟨hk', d, hd, hv.sameBut hs (hne d hd)⟩)
        · exact .inr (.inr ⟨hk', hnn, d, hd, hv.sameBut hs (hne d hd)⟩)
end
end Mine
end
section
set_option maxRecDepth 100000
set_option exponentiation.threshold 3000
namespace Mine
open PySem PySem.Float64 PySem.Builtin.Math PySem.W PySem.Calls PyProof.Rows

section
variable {prog : Program} {w : World} {A : Around} {E : Value → Shared → Prop} {s : Shared} {env : Env} {P : List Addr} {T : Heap → Prop} {h0 : Heap} {g0 : Array GenState} {o0 : OsState} {ρ : List (Str × AV)} {ls : List (Addr × HV)}
  {Q : Flow → Shared → Prop} {rest : List Stmt}

noncomputable abbrev Storable (env : Env) (x : Str) : Prop := env.kindOf x = some .local ∨ (env.kindOf x = some .cell ∧ ∃ c, env.cells.lookup x = some c ∧ env.func ≠ none)

theorem size_push_le (h : Heap) (o : Obj) : h.objs.size ≤ (h.push o).objs.size := by rw [Heap.size_push]; exact Nat.le_succ _
theorem At.weak {ρ' : List (Str × AV)} {ls' : List (Addr × HV)} (X : At P T h0 g0 o0 env ρ ls s) (h1 : ∀ x av, ρ'.lookup x = some av → ρ.lookup x = some av) (h2 : ∀ p ∈ ls', p ∈ ls) : At P T h0 g0 o0 env ρ' ls' s :=
  ⟨X.ok, X.grow, fun x av h => X.here x av (h1 x av h), fun a l h => X.lists a l (h2 _ h), X.far, X.big, X.tb, X.gens, X.os⟩
theorem At.lt451 (X : At P T h0 g0 o0 env ρ ls s) : 451 < s.heap.objs.size := let ⟨_, e⟩ := X.big; Nat.lt_of_le_of_lt (Nat.le_max_left _ _) (X.grow.lt X.far e)
theorem loads_keepD {h h' : Heap} {x : Str} {v : Value} (hk : ∀ b o, h.get? b = some o → (Lasting o = false) → ∃ o', h'.get? b = some o' ∧ o'.data = o.data) (y : Loads env h x v) : Loads env h' x v := by
  have hc : ∀ {c : Addr} {v : Option Value}, h.IsCell c v → h'.IsCell c v := fun ⟨o, e, d⟩ => let ⟨o', e', d'⟩ := hk _ o e (by unfold Lasting; rw [d]); ⟨o', e', d'.trans d⟩
  rcases y with ⟨hk', m, hn, hm⟩ | ⟨hk', c, h1, hv⟩ | ⟨hk', hnn, c, h1, hv⟩
  · exact .inl ⟨hk', m, let ⟨o, es, ep, e, d, r⟩ := hn; let ⟨o', e', d'⟩ := hk _ o e (by unfold Lasting; rw [d]); ⟨o', es, ep, e', d'.trans d, r⟩, hm⟩
  · exact .inr (.inl ⟨hk', c, h1, hc hv⟩)
  · exact .inr (.inr ⟨hk', hnn, c, h1, hc hv⟩)
theorem loads_keep {h h' : Heap} {x : Str} {v : Value} (hk : ∀ b o, h.get? b = some o → (Lasting o = false) → h'.get? b = some o) (y : Loads env h x v) : Loads env h' x v := loads_keepD (fun b o e l => ⟨o, hk b o e l, rfl⟩) y
theorem envOk_keepD {n : Nat} {h h' : Heap} (hk : ∀ b o, h.get? b = some o → (Lasting o = false) → ∃ o', h'.get? b = some o' ∧ o'.data = o.data) (O : EnvOk n env h) : EnvOk n env h' := by
  have hc : ∀ {c : Addr} {v : Option Value}, h.IsCell c v → h'.IsCell c v := fun ⟨o, e, d⟩ => let ⟨o', e', d'⟩ := hk _ o e (by unfold Lasting; rw [d]); ⟨o', e', d'.trans d⟩
  obtain ⟨m, o, es, ep, e, d, r⟩ := O.ns
  obtain ⟨o', e', d'⟩ := hk _ o e (by unfold Lasting; rw [d])
  exact ⟨O.fn, ⟨m, o', es, ep, e', d'.trans d, r⟩, O.lo, fun x c hx => let ⟨h1, h2, v, h3⟩ := O.cell x c hx; ⟨h1, h2, v, hc h3⟩, O.inj⟩
theorem envOk_keep {n : Nat} {h h' : Heap} (hk : ∀ b o, h.get? b = some o → (Lasting o = false) → h'.get? b = some o) (O : EnvOk n env h) : EnvOk n env h' := envOk_keepD (fun b o e l => ⟨o, hk b o e l, rfl⟩) O
/-- what is added leaves all as it stands -/
theorem At.keeps [TabKeep T] {s' : Shared} (X : At P T h0 g0 o0 env ρ ls s) (hk : ∀ b o, s.heap.get? b = some o → s'.heap.get? b = some o) (hg : s'.gens = s.gens) (ho : s'.os = s.os) : At P T h0 g0 o0 env ρ ls s' :=
  ⟨envOk_keep (fun b o e _ => hk b o e) X.ok, X.grow.keep fun b o _ _ _ e => hk b o e, fun x av h => let ⟨v, h1, h2⟩ := X.here x av h; ⟨v, h1, loads_keep (fun b o e _ => hk b o e) h2⟩,
    fun a l h => holds_keep hk (X.lists a l h), X.far, X.big, TabKeep.go _ _ X.tb fun b o _ e => hk b o e, by rw [hg]; exact X.gens, ho.trans X.os⟩

class TabFields (P : List Addr) (T : Heap → Prop) : Prop where
  low : ∀ h, T h → ∀ p ∈ P, p < nT
  fields : ∀ h, T h → ∀ p ∈ P, ∃ o vs, h.get? p = some o ∧ o.data = .fields vs
/-- an iterator, freshly made, over n items -/
structure IterOf (prog : Program) (w : World) (A : Around) (n : Nat) (av : Nat → AV) (src : List Addr) (I : Addr) (fp wr : List Addr) (St : Nat → Heap → Prop) (s₁ s₂ : Shared) : Prop where
  walks : Walks prog w A I fp wr n (fun i v => Rep (av i) v) St
  st0 : St 0 s₂.heap
  fresh : ∀ b ∈ wr, s₁.heap.objs.size ≤ b
  lasts : ∀ i h, St i h → ∀ b ∈ fp, ∃ o, h.get? b = some o ∧ Lasting o = true
  fields : ∀ i h, St i h → ∀ b ∈ wr, ∃ o vs, h.get? b = some o ∧ o.data = .fields vs
  kinds : ∀ i h, St i h → ∀ b ∈ fp, b ∈ src ∨ ∃ o vs, h.get? b = some o ∧ o.data = .fields vs
  keep : ∀ b o, s₁.heap.get? b = some o → s₂.heap.get? b = some o
  gens : s₂.gens = s₁.gens
  os : s₂.os = s₁.os
  size : s₁.heap.objs.size ≤ s₂.heap.objs.size
  seqs : ∀ b ∈ fp, s₁.heap.objs.size ≤ b ∨ ∃ o it n, s₂.heap.get? b = some o ∧ o.data = .seq it n
theorem IterOf.apart [TabFields P T] {n : Nat} {av : Nat → AV} {src : List Addr} {I : Addr} {fp wr : List Addr} {St : Nat → Heap → Prop} {s₁ s₂ : Shared} (IO : IterOf prog w A n av src I fp wr St s₁ s₂) (X : At P T h0 g0 o0 env ρ ls s₁) (t : T s₂.heap) : ∀ b ∈ fp, b ∉ P := fun b hb hP => by
  rcases IO.seqs b hb with h | ⟨o, it, n, e, d⟩
  · obtain ⟨m, hn⟩ := X.ok.ns
    have := TabFields.low _ t b hP
    exact Nat.lt_irrefl _ (Nat.lt_of_lt_of_le this (Nat.le_trans X.nT_le (Nat.le_trans (Nat.le_trans X.ok.lo (Nat.le_of_lt hn.lt)) h)))
  · obtain ⟨o', vs, e', d'⟩ := TabFields.fields _ t b hP
    rw [e] at e'; cases e'
    rw [d] at d'; cases d'

/-- a change of fresh iterators leaves the state -/
theorem At.iter [TabKeep T] {n0 : Nat} {wr : List Addr} {h' : Heap} {tk : Nat} (X : At P T h0 g0 o0 env ρ ls s) (hw : ∀ b ∈ wr, n0 ≤ b) (h451 : 451 < n0) (hf : ∀ b ∈ wr, ∃ o vs, s.heap.get? b = some o ∧ o.data = .fields vs)
    (h0w : ∀ b o, b ∉ P → h0.get? b = some o → b < n0) (hp : ∀ a fp h₁, (a, HV.pin fp h₁) ∈ ls → ∀ b ∈ fp, ∀ o, h₁.get? b = some o → b < n0) (hk : ∀ b o, b ∉ wr → s.heap.get? b = some o → h'.get? b = some o) : At P T h0 g0 o0 env ρ ls { s with heap := h', toks := tk } := by
  have hnl : ∀ b o, s.heap.get? b = some o → Lasting o = false → h'.get? b = some o := fun b o e hl => hk b o (fun hb => by
    obtain ⟨o', vs, e', d⟩ := hf b hb
    rw [e] at e'; cases e'
    unfold Lasting at hl; rw [d] at hl; cases hl) e
  have hlt : ∀ b o, b < n0 → s.heap.get? b = some o → h'.get? b = some o := fun b o hb e => hk b o (fun hm => Nat.lt_irrefl _ (Nat.lt_of_lt_of_le hb (hw b hm))) e
  refine ⟨envOk_keep hnl X.ok, X.grow.keep fun b o o₀ hb e₀ e => hlt b o (h0w b o₀ hb e₀) e, fun x av h => let ⟨v, h1, h2⟩ := X.here x av h; ⟨v, h1, loads_keep hnl h2⟩, fun a l h => ?_, X.far, X.big,
    TabKeep.go _ _ X.tb fun b o hb e => hlt b o (Nat.lt_of_lt_of_le hb h451) e, X.gens, X.os⟩
  have := X.lists a l h
  have k : ∀ o, s.heap.get? a = some o → (∃ it n, o.data = .seq it n) → h'.get? a = some o := fun o e hs => hk a o (fun hb => by
      obtain ⟨o', vs, e', d⟩ := hf a hb
      obtain ⟨it, n, d'⟩ := hs
      rw [e] at e'; cases e'
      rw [d] at d'; cases d') e
  cases l with
  | list l =>
    obtain ⟨vals, ⟨o, ho, hc, n, hd⟩, hr⟩ := this
    exact ⟨vals, ⟨o, k o ho ⟨_, _, hd⟩, hc, n, hd⟩, hr⟩
  | acc l =>
    obtain ⟨vals, ⟨o, n, ho, h1, h2, hd⟩, hr⟩ := this
    exact ⟨vals, ⟨o, n, k o ho ⟨_, _, hd⟩, h1, h2, hd⟩, hr⟩
  | pin fp h₁ => exact fun b hb o e => ⟨(this b hb o e).1, hlt b o (hp a fp h₁ h b hb o e) (this b hb o e).2⟩

/-- for x in ..: body -/
theorem s_for [TabKeep T] [TabFields P T] {x : Str} {px pos : Pos} {iter : Expr} {body : List Stmt} {n : Nat} {av : Nat → AV} {src : List Addr} {ρf : Nat → List (Str × AV)} {lf : Nat → List (Addr × HV)} (hx : Storable env x)
    (hiter : wpAny (model prog w) A (eval iter env) (fun xv s₁ => At P T h0 g0 o0 env (ρf 0) (lf 0) s₁ ∧ wpAny (model prog w) A (pyIter xv) (fun it s₂ => ∃ I fp wr St, it = .ref I ∧ IterOf prog w A n av src I fp wr St s₁ s₂) E s₁) E s)
    (hpin : ∀ i a fp h, (a, HV.pin fp h) ∈ lf i → (a, HV.pin fp h) ∈ lf 0)
    (step : ∀ i s' fp hp (E' : Value → Shared → Prop), i < n → At P T h0 g0 o0 env ((x, av i) :: ρf i) ((0, .pin fp hp) :: lf i) s' → (∀ b ∈ fp, b ∈ src ∨ ∃ o vs, hp.get? b = some o ∧ o.data = .fields vs) → (∀ b ∈ fp, b ∉ P) →
      wpAny (model prog w) A (execs body env) (fun f s₃ => match f with
        | .next => At P T h0 g0 o0 env (ρf (i + 1)) ((0, .pin fp hp) :: lf (i + 1)) s₃
        | .ret v => Q (.ret v) s₃
        | _ => False) E' s')
    (k : ∀ s', At P T h0 g0 o0 env (ρf n) (lf n) s' → wpAny (model prog w) A (execs rest env) Q E s')
    (hs : ∀ x, foldedSetIterable iter env x = pure x := by intro _; rfl) :
    wpAny (model prog w) A (execs (.For (.Name x px) iter body [] pos :: rest) env) Q E s := by
  refine wpAny_execs_cons (wpAny_For (wpAny_mono hiter (fun xv s₁ h1 => wpAny_mono h1.2 (fun it s₂ h2 => ?_) fun _ _ e => e) fun _ _ e => e) hs)
  obtain ⟨X₁, _⟩ := h1
  obtain ⟨I, fp, wr, St, rfl, IO⟩ := h2
  have X₂ := X₁.keeps IO.keep IO.gens IO.os
  have h0w : ∀ b o, b ∉ P → h0.get? b = some o → b < s₁.heap.objs.size := fun b o hb e => X₁.grow.lt hb e
  have hpn : ∀ i a fp h₁, (a, HV.pin fp h₁) ∈ lf i → ∀ b ∈ fp, ∀ o, h₁.get? b = some o → b < s₁.heap.objs.size := fun i a fp h₁ hm b hb o e => Heap.lt_size (X₁.lists a _ (hpin i a fp h₁ hm) b hb o e).2
  refine codeAny_forLoop (fun m s' => ∃ i, i ≤ n ∧ m = n - i ∧ At P T h0 g0 o0 env (ρf i) (lf i) s' ∧ St i s'.heap) ?_ n ⟨0, Nat.zero_le _, rfl, X₂, IO.st0⟩
  intro m s' hinv
  refine ex1and4 hinv fun i hi hm X st => ?_
  subst hm
  clear hinv
  rcases Nat.lt_or_ge i n with hlt | hge
  · refine IO.walks.item i s' _ _ hlt st fun v h' tk hv st' hk => ?_
    have X' := X.iter (tk := tk) IO.fresh X₁.lt451 (IO.fields i _ st) h0w (hpn i) hk
    dsimp only
    refine wpAny_assign_Name (X'.store hv hx fun s'' X'' hst _ => ?_)
    have st'' : St (i + 1) s''.heap := IO.walks.frame _ _ _ st' fun b hb o e => by
      obtain ⟨o', e', hl⟩ := IO.lasts _ _ st' b hb
      rw [e] at e'; cases e'
      exact hst.2.1 b o hl e
    have pin : Holds s''.heap 0 (.pin fp s''.heap) := fun b hb o e => by
      obtain ⟨o', e', hl⟩ := IO.lasts _ _ st'' b hb
      rw [e] at e'; cases e'
      exact ⟨hl, e⟩
    refine wpAny_mono (step i s'' fp s''.heap _ hlt ⟨X''.ok, X''.grow, X''.here, fun a l hm => ?_, X''.far, X''.big, X''.tb, X''.gens, X''.os⟩ (IO.kinds _ _ st'') (IO.apart X₁ X₂.tb)) (fun f s₃ h => ?_) fun _ _ e => e
    · rcases List.mem_cons.mp hm with q | q
      · cases q; exact pin
      · exact X''.lists a l q
    · cases f with
      | next =>
        refine ⟨n - (i + 1), by omega, i + 1, hlt, rfl, h.weak (fun _ _ e => e) fun p hp => List.mem_cons_of_mem _ hp, ?_⟩
        exact IO.walks.frame _ _ _ st'' fun b hb o e => (h.lists 0 _ List.mem_cons_self b hb o e).2
      | ret v => exact h
      | brk => exact h.elim
      | cont => exact h.elim
  · obtain rfl : i = n := Nat.le_antisymm hi hge
    refine IO.walks.done s' _ _ st fun h' tk hk => ?_
    have X' := X.iter (tk := tk) IO.fresh X₁.lt451 (IO.fields _ _ st) h0w (hpn _) hk
    exact wpAny_execs_nil (k _ X')
end
end Mine
end
section
set_option maxRecDepth 100000
set_option exponentiation.threshold 3000
namespace Mine
open PySem PySem.Float64 PySem.Builtin.Math PySem.W PySem.Calls PyProof.Rows

section
variable {prog : Program} {w : World} {A : Around} {E : Value → Shared → Prop} {s : Shared} {env : Env} {P : List Addr} {T : Heap → Prop} {h0 : Heap} {g0 : Array GenState} {o0 : OsState} {ρ : List (Str × AV)} {ls : List (Addr × HV)}
  {Q : Flow → Shared → Prop} {rest : List Stmt} {C : Shared → Prop}

theorem At.toks {tk : Nat} (X : At P T h0 g0 o0 env ρ ls s) : At P T h0 g0 o0 env ρ ls { s with toks := tk } := TokFree.go _ _ X

/-- the globals and the builtins as the top left them -/
structure Gl (P : List Addr) (env : Env) (h0 : Heap) (mg mb : Str → Option Value) : Prop where
  g : h0.Ns env.globals mg
  b : h0.Ns env.builtins mb
  gP : env.globals ∉ P
  bP : env.builtins ∉ P
theorem Pur.glob {mg mb} {x : Str} {p : Pos} {v : Value} (G : Gl P env h0 mg mb) (hk : env.kindOf x = some .globalImplicit) (hv : mg x = some v) (hd : (x == ("__debug__" : Str)) = false := by decide) :
    Pur prog w A (At P T h0 g0 o0 env ρ ls) env (.Name x p) (.val v) := by
  intro s Q E X h
  exact Name_function_global X.ok.fn hk (loadGlobal_global (X.grow.ns G.gP G.g) hv (h v s.toks (.val _) (Nat.le_refl _))) hd
theorem Pur.blt {mg mb} {x : Str} {p : Pos} {v : Value} (G : Gl P env h0 mg mb) (hk : env.kindOf x = some .globalImplicit) (hn : mg x = Option.none) (hv : mb x = some v) (hd : (x == ("__debug__" : Str)) = false := by decide) :
    Pur prog w A (At P T h0 g0 o0 env ρ ls) env (.Name x p) (.val v) := by
  intro s Q E X h
  exact Name_function_global X.ok.fn hk (loadGlobal_builtin (X.grow.ns G.gP G.g) hn (X.grow.ns G.bP G.b) hv (h v s.toks (.val _) (Nat.le_refl _))) hd

/-- arguments that change nothing but the tokens -/
noncomputable def PurL (prog : Program) (w : World) (A : Around) (C : Shared → Prop) (env : Env) (es : List Expr) (avs : List AV) : Prop :=
  ∀ (pos : Pos) (s : Shared) (Q : List Value → Shared → Prop) (E : Value → Shared → Prop), C s → (∀ vs tk, Reps avs vs → s.toks ≤ tk → Q vs { s with toks := tk }) → wpAny (model prog w) A (spliced (backTo pos (starEach es env))) Q E s
theorem PurL.nil : PurL prog w A C env [] [] := by
  intro pos s Q E _ h
  exact spliced_nil (h [] s.toks .nil (Nat.le_refl _))
theorem PurL.cons [TokFree C] {e : Expr} {es : List Expr} {av : AV} {avs : List AV} (he : Pur prog w A C env e av) (hes : PurL prog w A C env es avs) (hst : starEach (e :: es) env = (false, eval e env) :: starEach es env := by rfl) :
    PurL prog w A C env (e :: es) (av :: avs) := by
  intro pos s Q E hC h
  refine spliced_more (he s _ _ hC fun v tk hv htk => hes pos _ _ _ (TokFree.go _ _ hC) fun vs tk' hvs htk' => h _ _ (.cons hv hvs) (Nat.le_trans htk htk')) hst

theorem s_assign [TabKeep T] {x : Str} {px pos : Pos} {value : Expr} {av : AV} (X : At P T h0 g0 o0 env ρ ls s) (he : Pur prog w A (At P T h0 g0 o0 env ρ ls) env value av) (hx : Storable env x)
    (k : ∀ s', At P T h0 g0 o0 env ((x, av) :: ρ) ls s' → wpAny (model prog w) A (execs rest env) Q E s') (hs : swapsWith value (some (.Name x px)) pos.line env = pure false := by rfl) :
    wpAny (model prog w) A (execs (.Assign [.Name x px] value pos :: rest) env) Q E s :=
  wpAny_execs_cons (wpAny_Assign_Name (he s _ _ X fun _ _ hv _ => X.toks.store hv hx fun s' X' _ _ => k s' X') hs)
theorem s_assignE [TabKeep T] {x : Str} {px pos : Pos} {value : Expr} (hx : Storable env x)
    (h : wpAny (model prog w) A (eval value env) (fun v s₁ => ∃ av ρ' ls', Rep av v ∧ At P T h0 g0 o0 env ρ' ls' s₁ ∧ ∀ s', At P T h0 g0 o0 env ((x, av) :: ρ') ls' s' → wpAny (model prog w) A (execs rest env) Q E s') E s)
    (hs : swapsWith value (some (.Name x px)) pos.line env = pure false := by rfl) :
    wpAny (model prog w) A (execs (.Assign [.Name x px] value pos :: rest) env) Q E s := by
  refine wpAny_execs_cons (wpAny_Assign_Name (wpAny_mono h (fun v s₁ h₁ => ?_) fun _ _ e => e) hs)
  obtain ⟨av, ρ', ls', hv, X, k⟩ := h₁
  exact X.store hv hx fun s' X' _ _ => k s' X'
theorem s_assignT [TabKeep T] {x : Str} {px pos : Pos} {value : Expr} (hx : Storable env x)
    (h : wpAny (model prog w) A (eval value env) (fun v s₁ => ∃ av ρ' ls', Rep av v ∧ At P T h0 g0 o0 env ρ' ls' s₁ ∧ ∀ s', At P T h0 g0 o0 env ((x, av) :: ρ') ls' s' → s₁.toks ≤ s'.toks → wpAny (model prog w) A (execs rest env) Q E s') E s)
    (hs : swapsWith value (some (.Name x px)) pos.line env = pure false := by rfl) :
    wpAny (model prog w) A (execs (.Assign [.Name x px] value pos :: rest) env) Q E s := by
  refine wpAny_execs_cons (wpAny_Assign_Name (wpAny_mono h (fun v s₁ h₁ => ?_) fun _ _ e => e) hs)
  obtain ⟨av, ρ', ls', hv, X, k⟩ := h₁
  exact X.store hv hx fun s' X' _ hsb => let ⟨_, _, _, _, ht⟩ := hsb; k s' X' ht
theorem s_aug [TabKeep T] {x : Str} {px pos : Pos} {op : Operator} {value : Expr} {a b c : AV} (X : At P T h0 g0 o0 env ρ ls s) (hx : ρ.lookup x = some a) (he : Pur prog w A (At P T h0 g0 o0 env ρ ls) env value b) (ho : Op2 prog w A (inplaceOp op) a b c) (hst : Storable env x)
    (k : ∀ s', At P T h0 g0 o0 env ((x, c) :: ρ) ls s' → wpAny (model prog w) A (execs rest env) Q E s') :
    wpAny (model prog w) A (execs (.AugAssign (.Name x px) op value pos :: rest) env) Q E s := by
  refine wpAny_execs_cons (wpAny_AugAssign_Name ?_)
  obtain ⟨v, hr, hv⟩ := X.here x a hx
  have go : wpAny (model prog w) A (eval value env) (fun v' s₂ => wpAny (model prog w) A (inplaceOp op v v') (fun r s₃ => wpAny (model prog w) A (storeName env x r) (fun _ s₄ => match Flow.next with | .next => wpAny (model prog w) A (execs rest env) Q E s₄ | f => Q f s₄) E s₃) E s₂) E s :=
    he s _ _ X fun v' tk hv' _ => ho _ _ _ _ _ hr hv' fun r tk' hr' _ => At.store (s := { s with toks := tk' }) X.toks hr' hst fun s' X' _ _ => k s' X'
  rcases hv with ⟨hk, m, hn, hm⟩ | ⟨hk, c, hc, hv⟩ | ⟨hk, hn, c, hc, hv⟩
  · exact wpAny_loadName_local X.ok.fn hk hn hm go
  · exact wpAny_loadName_cell X.ok.fn hk hc hv go
  · exact wpAny_loadName_free X.ok.fn hk hc hv go hn
theorem s_if {test : Expr} {body orelse : List Stmt} {pos : Pos} {b : Bool} (X : At P T h0 g0 o0 env ρ ls s) (ht : Tst prog w A (At P T h0 g0 o0 env ρ ls) env test b)
    (kt : b = true → ∀ s', At P T h0 g0 o0 env ρ ls s' → wpAny (model prog w) A (execs body env) (fun f s₁ => match f with | .next => wpAny (model prog w) A (execs rest env) Q E s₁ | f => Q f s₁) E s')
    (kf : b = false → ∀ s', At P T h0 g0 o0 env ρ ls s' → wpAny (model prog w) A (execs orelse env) (fun f s₁ => match f with | .next => wpAny (model prog w) A (execs rest env) Q E s₁ | f => Q f s₁) E s') :
    wpAny (model prog w) A (execs (.If test body orelse pos :: rest) env) Q E s := by
  refine wpAny_execs_cons (wpAny_If (ht s _ _ X fun tk _ => ?_))
  cases b with
  | true => exact kt rfl _ X.toks
  | false => exact kf rfl _ X.toks
theorem s_ret {e : Expr} {pos : Pos} {av : AV} (X : At P T h0 g0 o0 env ρ ls s) (he : Pur prog w A (At P T h0 g0 o0 env ρ ls) env e av) (k : ∀ v s', Rep av v → At P T h0 g0 o0 env ρ ls s' → Q (.ret v) s') :
    wpAny (model prog w) A (execs (.Return (some e) pos :: rest) env) Q E s :=
  wpAny_execs_cons (wpAny_Return_some (he s _ _ X fun v _ hv _ => k v _ hv X.toks))
theorem s_nil (h : Q .next s) : wpAny (model prog w) A (execs [] env) Q E s := wpAny_execs_nil h

theorem op_iadd {a b : Int} : Op2 prog w A (inplaceOp .Add) (.int a) (.int b) (.int (a + b)) := by
  intro va vb s Q E ha hb h; apply ha.e1 rfl; intro _; apply hb.e1 rfl; intro _
  exact iadd_int (h _ _ (.int _ _) (Nat.le_succ _))

/-- len of a list -/
theorem Pur.len {mg mb} {p pos : Pos} {e : Expr} {a : Addr} {l : List AV} (G : Gl P env h0 mg mb) (hk : env.kindOf "len" = some .globalImplicit) (hn : mg "len" = Option.none) (hv : mb "len" = some (.builtin "len"))
    (he : Pur prog w A (At P T h0 g0 o0 env ρ ls) env e (.ref a)) {n : Int} (hl : (a, HV.list l) ∈ ls) (hln : (l.length : Int) = n) (hsz : n < 2 ^ 63) (hst : starEach [e] env = (false, eval e env) :: starEach [] env := by rfl) :
    Pur prog w A (At P T h0 g0 o0 env ρ ls) env (.Call (.Name "len" p) [e] [] pos) (.int n) := by
  intro s Q E X h
  refine wpAny_Call_NameR (Pur.blt G hk hn hv rfl s _ _ X fun f tk hf htk => ?_)
  apply hf.e0 rfl
  refine PyProof.Rows.callWith_builtin1 (PurL.cons he .nil hst _ _ _ _ X.toks fun vs tk' hvs htk' => ?_) hst rfl
  cases hvs with
  | cons h1 h2 =>
    apply h2.nilE; apply h1.e0 rfl
    obtain ⟨vals, hL, hR⟩ := X.lists a _ hl
    have e1 : (vals.toArray.size : Int) = n := by rw [List.size_toArray, hR.length, hln]
    refine call_len_list (s := { s with toks := tk' }) hL (by rw [e1]; exact hsz) ?_
    rw [e1]
    exact h _ _ (.int _ _) (Nat.le_trans htk (Nat.le_trans htk' (Nat.le_add_right tk' 2)))
end
end Mine
end
section
set_option maxRecDepth 100000
set_option exponentiation.threshold 3000
namespace Mine
open PySem PySem.Float64 PySem.Builtin.Math PySem.W PySem.Calls PyProof.Rows

section
variable {prog : Program} {w : World} {A : Around} {E : Value → Shared → Prop} {s : Shared} {env : Env} {P : List Addr} {T : Heap → Prop} {h0 : Heap} {g0 : Array GenState} {o0 : OsState} {ρ : List (Str × AV)} {ls : List (Addr × HV)}
  {Q : Flow → Shared → Prop} {rest : List Stmt} {C : Shared → Prop}

theorem walks_rep {n : Nat} {I : Addr} {fp wr : List Addr} {Pv Pv' : Nat → Value → Prop} {St : Nat → Heap → Prop} (W : Walks prog w A I fp wr n Pv St) (h : ∀ i v, i < n → Pv i v → Pv' i v) : Walks prog w A I fp wr n Pv' St :=
  ⟨W.sub, W.frame, fun i s Q E hi st k => W.item i s Q E hi st fun v h' tk hv st' hk => k v h' tk (h i v hi hv) st' hk, W.done, W.self⟩
theorem rangeSize_1 (n : Nat) : Builtin.Range.rangeSize 0 n 1 = n := by
  unfold Builtin.Range.rangeSize
  split <;> rename_i h
  · rw [Int.ediv_one]; split <;> omega
  · exact absurd (by decide) h
theorem range_small (n : Nat) (h : n ≤ 2 ^ 53) : Builtin.Range.small 0 n 1 = true := by
  unfold Builtin.Range.small
  rw [rangeSize_1]
  have f : ∀ m : Int, 0 ≤ m → m ≤ 2 ^ 53 → Builtin.Range.rangeFitsLong m = true := fun m h1 h2 => by
    unfold Builtin.Range.rangeFitsLong
    simp
    omega
  have fn := f n (by omega) (by omega)
  have f0 := f 0 (by decide) (by decide)
  have f1 := f 1 (by decide) (by decide)
  simp [fn, f0, f1]

/-- range(e) -/
theorem iter_range [TabKeep T] {mg mb} {p pos : Pos} {e : Expr} {n : Nat} (hA : A.handled = none) (G : Gl P env h0 mg mb) (X : At P T h0 g0 o0 env ρ ls s) (he : Pur prog w A (At P T h0 g0 o0 env ρ ls) env e (.int n)) (hn : n ≤ 2 ^ 53)
    (hk : env.kindOf "range" = some .globalImplicit) (hm : mg "range" = Option.none) (hv : mb "range" = some (.type "range")) (hst : starEach [e] env = (false, eval e env) :: starEach [] env := by rfl) :
    wpAny (model prog w) A (eval (.Call (.Name "range" p) [e] [] pos) env) (fun xv s₁ => At P T h0 g0 o0 env ρ ls s₁ ∧ wpAny (model prog w) A (pyIter xv) (fun it s₂ => ∃ I fp wr St, it = .ref I ∧ IterOf prog w A n (fun i => .int i) [] I fp wr St s₁ s₂) E s₁) E s := by
  refine wpAny_Call_NameR (Pur.blt G hk hm hv rfl s _ _ X fun f tk hf htk => ?_)
  apply hf.e0 rfl
  refine PyProof.Rows.callWith_type1 (PurL.cons he .nil hst _ _ _ _ X.toks fun vs tk' hvs htk' => ?_) hst rfl
  cases hvs with
  | cons h1 h2 =>
    apply h2.nilE; apply h1.e1 rfl; intro _
    refine call_range_1 ⟨?_, ?_⟩
    · exact (X.toks (tk := tk')).keeps (fun b o e => Heap.get?_push_of_some _ e) rfl rfl
    · refine wpAny_pyIter_range (Heap.get?_push_size _ rfl) (range_small n hn) ?_
      rw [rangeSize_1]
      refine ⟨_, _, _, _, rfl, walks_rep (Walks.range hA _ 0 1 n) (fun i v _ h => ?_), ?_, fun b hb => ?_, fun i h st b hb => ?_, fun i h st b hb => ?_, fun i h st b hb => ?_, fun b o e => Heap.get?_push_of_some _ e, rfl, rfl, size_push_le _ _, fun b hb => ?_⟩
      · obtain ⟨t, rfl⟩ := h
        rw [Int.zero_add, Int.mul_one]
        exact .int _ _
      · show IsRangeIter _ _ _ _ _
        rw [show (0 : Int) + ((0 : Nat) : Int) * 1 = 0 from rfl, show ((n : Int) - ((0 : Nat) : Int)) = n from by omega]
        exact Heap.get?_push_size _ rfl
      · obtain rfl := List.mem_singleton.mp hb
        exact Nat.le_refl _
      · obtain rfl := List.mem_singleton.mp hb
        exact ⟨_, st, rfl⟩
      · obtain rfl := List.mem_singleton.mp hb
        exact ⟨_, _, st, rfl⟩
      · obtain rfl := List.mem_singleton.mp hb
        exact .inr ⟨_, _, st, rfl⟩
      · obtain rfl := List.mem_singleton.mp hb
        exact .inl (Nat.le_refl _)

/-- a list is made -/
theorem At.push [TabKeep T] {avs : List AV} {vs : List Value} {tk : Nat} (X : At P T h0 g0 o0 env ρ ls s) (hr : Reps avs vs) :
    At P T h0 g0 o0 env ρ ((s.heap.objs.size, .acc avs) :: ls) { s with heap := s.heap.push { cls := .type "list", data := .seq vs.toArray }, toks := tk } := by
  have Y := X.keeps (s' := { s with heap := s.heap.push { cls := .type "list", data := .seq vs.toArray }, toks := tk }) (fun b o e => Heap.get?_push_of_some _ e) rfl rfl
  refine ⟨Y.ok, Y.grow, Y.here, fun a l h => ?_, Y.far, Y.big, Y.tb, Y.gens, Y.os⟩
  rcases List.mem_cons.mp h with q | q
  · cases q
    exact ⟨vs, ⟨_, _, Heap.get?_push_size _ rfl, rfl, rfl, rfl⟩, hr⟩
  · exact Y.lists a l q
theorem At.low (X : At P T h0 g0 o0 env ρ ls s) : h0.objs.size ≤ s.heap.objs.size := by
  obtain ⟨m, hn⟩ := X.ok.ns
  exact Nat.le_trans X.ok.lo (Nat.le_of_lt hn.lt)
/-- [a, b, ..] -/
theorem eval_list [TabKeep T] {es : List Expr} {avs : List AV} {pos : Pos} {Q : Value → Shared → Prop} (X : At P T h0 g0 o0 env ρ ls s) (hes : PurL prog w A (At P T h0 g0 o0 env ρ ls) env es avs) (hsz : avs.length ≤ sizeLine)
    (k : ∀ a s', h0.objs.size ≤ a → At P T h0 g0 o0 env ρ ((a, .acc avs) :: ls) s' → Q (.ref a) s') : wpAny (model prog w) A (eval (.List es pos) env) Q E s := by
  refine wpAny_List (hes _ s _ _ X fun vs tk hvs _ => ⟨by rw [hvs.length]; exact hsz, k _ _ X.low (X.push (tk := tk) hvs)⟩)
/-- column.append(e) -/
theorem s_append [TabKeep T] {x : Str} {e : Expr} {px apos cpos pos : Pos} {a : Addr} {l : List AV} {av : AV} (X : At P T h0 g0 o0 env ρ ((a, .acc l) :: ls) s) (hx : ρ.lookup x = some (.ref a)) (hd : (x == ("__debug__" : Str)) = false) (he : Pur prog w A (At P T h0 g0 o0 env ρ ((a, .acc l) :: ls)) env e av)
    (ha : h0.objs.size ≤ a) (hsz : l.length ≤ sizeLine) (hls : ∀ b l', (b, HV.list l') ∈ ls → b ≠ a) (hacc : ∀ b l', (b, HV.acc l') ∈ ls → b ≠ a) (hpin : ∀ b fp h₁, (b, HV.pin fp h₁) ∈ ls → ∀ c ∈ fp, c ≠ a ∨ ∃ o vs, h₁.get? c = some o ∧ o.data = .fields vs)
    (k : ∀ s', At P T h0 g0 o0 env ρ ((a, .acc (l ++ [av])) :: ls) s' → wpAny (model prog w) A (execs rest env) Q E s')
    (hbase : attributeBase (.Name x px) "append" env (eval (.Name x px) env) = eval (.Name x px) env := by rfl)
    (hfew : ((backTo cpos (starEach [e] env)).all (fun x => !x.1) && (backToKw cpos (keywordEach [] env)).all (fun x => x.1.isSome)
      && decide (([e] : List Expr).length + ([] : List Keyword).length + (if ([] : List Keyword).isEmpty then 0 else 1) < 30)) = true := by rfl)
    (hline : (apos.endLine == cpos.line) = true := by rfl) (htrees : backTo cpos (starEach [e] env) = [(false, eval e env)] := by rfl)
    (hi : interactive env = false := by rfl) :
    wpAny (model prog w) A (execs (.Expr (.Call (.Attribute (.Name x px) "append" apos) [e] [] cpos) pos :: rest) env) Q E s := by
  refine wpAny_execs_cons (wpAny_Expr_any (wpAny_Call_append hbase hfew hline htrees (Pur.nm hx hd s _ _ X fun v tk hv htk => ?_)) hi rfl)
  apply hv.e0 rfl
  obtain ⟨vals, hP, hR⟩ := X.lists a _ List.mem_cons_self
  refine ⟨a, _, rfl, hP, he _ _ _ X.toks fun v tk' hv htk' => ?_⟩
  have hv' := hv
  refine list_append_plainL (its := vals.toArray) (s := { s with toks := tk' }) hP (fun h' hP' hs => k _ ?_) (by rw [List.size_toArray, hR.length]; exact hsz)
  have hseq : ∀ o, s.heap.get? a = some o → ∃ it n, o.data = .seq it n := fun o e => by
    obtain ⟨o', n, e', _, _, d⟩ := hP
    rw [e] at e'; cases e'
    exact ⟨_, _, d⟩
  have keep : ∀ b o, b ≠ a → s.heap.get? b = some o → h'.get? b = some o := fun b o hb e => (hs.2 b hb).trans e
  have nl : ∀ b o, s.heap.get? b = some o → Lasting o = false → h'.get? b = some o := fun b o e hl => keep b o (fun q => by
    subst q
    obtain ⟨it, n, d⟩ := hseq o e
    unfold Lasting at hl; rw [d] at hl; cases hl) e
  refine ⟨envOk_keep nl X.ok, X.grow.keep fun b o o₀ hb e₀ e => keep b o (fun q => ?_) e, fun y av hy => let ⟨v, h1, h2⟩ := X.here y av hy; ⟨v, h1, loads_keep nl h2⟩, fun b l' hm => ?_, X.far, X.big, TabKeep.go _ _ X.tb fun b o hb e => keep b o (fun q => ?_) e, X.gens, X.os⟩
  · exact Nat.lt_irrefl _ (Nat.lt_of_lt_of_le (by rw [← q]; exact Heap.lt_size e₀) ha)
  · rcases List.mem_cons.mp hm with q | q
    · cases q
      refine ⟨vals ++ [v], ?_, hR.append (.cons hv' .nil)⟩
      rw [show (vals ++ [v]).toArray = vals.toArray.push v from by simp]
      exact hP'
    · have := X.lists b l' (List.mem_cons_of_mem _ q)
      cases l' with
      | list l' =>
        obtain ⟨vs, ⟨o, ho, hc, n, hd⟩, hr⟩ := this
        exact ⟨vs, ⟨o, keep b o (hls b _ q) ho, hc, n, hd⟩, hr⟩
      | acc l' =>
        obtain ⟨vs, ⟨o, n, ho, h1, h2, hd⟩, hr⟩ := this
        exact ⟨vs, ⟨o, n, keep b o (hacc b _ q) ho, h1, h2, hd⟩, hr⟩
      | pin fp h₁ =>
        intro c hc o e
        obtain ⟨h1, h2⟩ := this c hc o e
        refine ⟨h1, keep c o ?_ h2⟩
        rcases hpin b fp h₁ q c hc with h | ⟨o', vs, e', d⟩
        · exact h
        · rw [e] at e'; cases e'
          intro qq; subst qq
          obtain ⟨it, n, d'⟩ := hseq o h2
          rw [d] at d'; cases d'
  · have := X.nT_le
    exact Nat.lt_irrefl _ (Nat.lt_of_lt_of_le (by rw [← q]; exact hb) (Nat.le_trans this ha))
theorem At.unacc {a : Addr} {l : List AV} (X : At P T h0 g0 o0 env ρ ((a, .acc l) :: ls) s) : At P T h0 g0 o0 env ρ ((a, .list l) :: ls) s := by
  refine ⟨X.ok, X.grow, X.here, fun b l' hm => ?_, X.far, X.big, X.tb, X.gens, X.os⟩
  rcases List.mem_cons.mp hm with q | q
  · cases q
    obtain ⟨vals, ⟨o, n, ho, h1, h2, hd⟩, hr⟩ := X.lists a _ List.mem_cons_self
    exact ⟨vals, ⟨o, ho, h1, n, hd⟩, hr⟩
  · exact X.lists b l' (List.mem_cons_of_mem _ q)
/-- a and b -/
theorem Tst.and2 [TokFree C] {x y : Expr} {pos : Pos} {b c : Bool} (hx : Tst prog w A C env x b) (hy : Tst prog w A C env y c) : Tst prog w A C env (.BoolOp .And [x, y] pos) (b && c) := by
  intro s Q E hC h
  refine isTrue_and (hx s _ _ hC fun tk htk => ?_)
  cases b with
  | false => exact h tk htk
  | true =>
    refine isTrue_and (hy _ _ _ (TokFree.go _ _ hC) fun tk' htk' => ?_)
    cases c with
    | false => exact h tk' (Nat.le_trans htk htk')
    | true => exact isTrue_and_nil (h tk' (Nat.le_trans htk htk'))
end
end Mine
end
section
set_option maxRecDepth 100000
set_option exponentiation.threshold 3000
namespace Mine
open PySem PySem.Float64 PySem.Builtin.Math PySem.W PySem.Calls PyProof.Rows

/-- a whole number, as a float or as an int -/
noncomputable def nv (f : Bool) (n : Int) : AV := match f with
  | true => .fl n
  | false => .int n
noncomputable def nums (f : Bool) (ns : List Int) : List AV := ns.map (nv f)
theorem nums_numsE {f : Bool} : ∀ {ns : List Int} {vals : List Value}, Reps (nums f ns) vals → (∀ n ∈ ns, n.natAbs ≤ 2 ^ 53) → NumsE vals ns
  | [], _, h, _ => by cases h; exact .nil
  | n :: ns, _, h, hb => by
    cases h with
    | cons h1 h2 =>
      refine .cons ?_ (nums_numsE h2 fun m hm => hb m (List.mem_cons_of_mem _ hm))
      cases f with
      | true => cases h1 with | fl _ b t hF => exact .float b t n hF
      | false => cases h1 with | int _ t => exact .int n t (hb n List.mem_cons_self)
theorem nums_fl : ∀ {ns : List Int} {vals : List Value}, Reps (nums true ns) vals → AllFl vals
  | [], _, h => by cases h; intro v hv; cases hv
  | n :: ns, _, h => by
    cases h with
    | cons h1 h2 =>
      intro v hv
      rcases List.mem_cons.mp hv with q | q
      · subst q; cases h1; rfl
      · exact nums_fl h2 v q
theorem nums_in : ∀ {ns : List Int} {vals : List Value}, Reps (nums false ns) vals → AllIn vals ns
  | [], _, h => by cases h; intro i v hv; cases hv
  | n :: ns, _, h => by
    cases h with
    | cons h1 h2 =>
      intro i v hv
      cases i with
      | zero =>
        cases hv
        cases h1 with | int _ t => exact ⟨n, t, rfl, rfl⟩
      | succ i => exact nums_in h2 i v hv

section
variable {prog : Program} {w : World} {A : Around} {E : Value → Shared → Prop} {s : Shared} {env : Env} {P : List Addr} {T : Heap → Prop} {h0 : Heap} {g0 : Array GenState} {o0 : OsState} {ρ : List (Str × AV)} {ls : List (Addr × HV)}
  {rest : List Stmt} {C : Shared → Prop}

theorem lt_1023 {n : Int} (h : n.natAbs ≤ 2 ^ 53) : n.natAbs < 2 ^ 1023 := Nat.lt_of_le_of_lt h (Nat.pow_lt_pow_right (by decide) (by decide))
theorem op_sub_ff {a b : Int} (h : (a - b).natAbs ≤ 2 ^ 53) : Op2 prog w A (binaryOp .Sub) (.fl a) (.fl b) (.fl (a - b)) := by
  intro va vb s Q E ha hb k
  cases ha with | fl _ x t hx => cases hb with | fl _ y u hy => exact sub_float (k _ _ (.fl _ _ _ (isF_sub hx hy h)) (Nat.le_succ _))
theorem op_sub_if {a b : Int} (ha' : a.natAbs ≤ 2 ^ 53) (h : (a - b).natAbs ≤ 2 ^ 53) : Op2 prog w A (binaryOp .Sub) (.int a) (.fl b) (.fl (a - b)) := by
  intro va vb s Q E ha hb k
  cases ha with | int _ t => cases hb with | fl _ y u hy => exact sub_if_fits (lt_1023 ha') (k _ _ (.fl _ _ _ (isF_sub (isF_ofInt ha') hy h)) (Nat.le_succ _))
theorem op_mul_ff {a b : Int} (h : (a * b).natAbs ≤ 2 ^ 53) : Op2 prog w A (binaryOp .Mult) (.fl a) (.fl b) (.fl (a * b)) := by
  intro va vb s Q E ha hb k
  cases ha with | fl _ x t hx => cases hb with | fl _ y u hy => exact mul_float (k _ _ (.fl _ _ _ (isF_mul hx hy h)) (Nat.le_succ _))
theorem op_mul_fi {a b : Int} (hb' : b.natAbs ≤ 2 ^ 53) (h : (a * b).natAbs ≤ 2 ^ 53) : Op2 prog w A (binaryOp .Mult) (.fl a) (.int b) (.fl (a * b)) := by
  intro va vb s Q E ha hb k
  cases ha with | fl _ x t hx => cases hb with | int _ u => exact mul_fi_fits (lt_1023 hb') (k _ _ (.fl _ _ _ (isF_mul hx (isF_ofInt hb') h)) (Nat.le_succ _))
theorem op_add_ff {a b : Int} (h : (a + b).natAbs ≤ 2 ^ 53) : Op2 prog w A (binaryOp .Add) (.fl a) (.fl b) (.fl (a + b)) := by
  intro va vb s Q E ha hb k
  cases ha with | fl _ x t hx => cases hb with | fl _ y u hy => exact add_float (k _ _ (.fl _ _ _ (isF_add hx hy h)) (Nat.le_succ _))
theorem op_add_if {a b : Int} (ha' : a.natAbs ≤ 2 ^ 53) (h : (a + b).natAbs ≤ 2 ^ 53) : Op2 prog w A (binaryOp .Add) (.int a) (.fl b) (.fl (a + b)) := by
  intro va vb s Q E ha hb k
  cases ha with | int _ t => cases hb with | fl _ y u hy => exact add_if_fits (lt_1023 ha') (k _ _ (.fl _ _ _ (isF_add (isF_ofInt ha') hy h)) (Nat.le_succ _))
theorem over_small {n : Int} (h : n.natAbs ≤ 2 ^ 53) : ¬ PySem.Flt.Over n := int_fits h
/-- an exact division of a float by an int -/
theorem op_div_fi {a b q : Int} (hA : A.handled = Option.none) (e : a = q * b) (hb : b ≠ 0) (hb' : b.natAbs ≤ 2 ^ 53) (hq : q.natAbs ≤ 2 ^ 53) : Op2 prog w A (binaryOp .Div) (.fl a) (.int b) (.fl q) := by
  intro va vb s Q E ha hb2 k
  subst e
  cases ha with | fl _ x t hx => cases hb2 with | int _ u => exact PySem.Flt.truediv_fi hA (fun h => absurd h (over_small hb')) (fun h => absurd h hb) fun _ _ => k _ _ (.fl _ _ _ (isF_div hx (isF_ofInt hb') hb hq)) (Nat.le_succ _)
/-- a division of a float by an int -/
theorem op_divq_fi {a b : Int} (hA : A.handled = Option.none) (hb : b ≠ 0) (hb' : b.natAbs ≤ 2 ^ 53) : ∀ (va vb : Value) (s : Shared) (Q : Value → Shared → Prop) (E : Value → Shared → Prop), 0 < s.toks → Rep (.fl a) va → Rep (.int b) vb → (∀ v tk, Rep (.q a b) v → s.toks ≤ tk → Q v { s with toks := tk }) → wpAny (model prog w) A (binaryOp .Div va vb) Q E s := by
  intro va vb s Q E ht ha hb2 k
  cases ha with | fl _ x t hx => cases hb2 with | int _ u => exact PySem.Flt.truediv_fi hA (fun h => absurd h (over_small hb')) (fun h => absurd h hb) fun _ _ => k _ _ (.q _ _ _ _ _ hx (isF_ofInt hb') ht) (Nat.le_succ _)
theorem Pur.fzero {k pos} : Pur prog w A C env (.Constant (.float 0) k pos) (.fl 0) := by
  intro s Q E _ h
  exact PySem.wpAny_Constant_float (h _ _ (.fl _ _ _ (isF_zero false)) (Nat.le_succ _))
end
end Mine
end
section
set_option maxRecDepth 100000
set_option exponentiation.threshold 3000
namespace Mine
open PySem PySem.Float64 PySem.Builtin.Math PySem.W PySem.Calls PyProof.Rows

/-- the code tables that generator expressions fill -/
noncomputable def TT (cs : List (Addr × Addr)) (h : Heap) : Prop := ∀ p ∈ cs, p.1 < nT ∧ p.2 < nT ∧ ∃ ps, h.IsCode p.1 p.2 ps ∧ h.TableAt p.1 p.2 ps
structure CsOk (cs : List (Addr × Addr)) : Prop where
  cross : ∀ p ∈ cs, ∀ q ∈ cs, p.1 ≠ q.2
  apart : ∀ p ∈ cs, ∀ q ∈ cs, p.2 = q.2 → p = q
theorem isCode_of {h h' : Heap} {c P : Addr} {ps} (x : h.IsCode c P ps) (h1 : ∀ o, h.get? c = some o → h'.get? c = some o) (h2 : ∀ o, h.get? P = some o → h'.get? P = some o) : h'.IsCode c P ps :=
  Exists.imp (fun _ => Exists.imp fun _ => Exists.imp fun _ => Exists.imp fun _ => Exists.imp fun _ => Exists.imp fun _ => Exists.imp fun _ => Exists.imp fun _ => Exists.imp fun _ => Exists.imp fun _ p =>
    ⟨h1 _ p.1, p.2.1, p.2.2.1, p.2.2.2.1, p.2.2.2.2.1, p.2.2.2.2.2.1, p.2.2.2.2.2.2.1, h2 _ p.2.2.2.2.2.2.2.1, p.2.2.2.2.2.2.2.2⟩) x
theorem tableAt_of {h h' : Heap} {c P : Addr} {ps} (x : h.TableAt c P ps) (h1 : ∀ o, h.get? c = some o → h'.get? c = some o) (h2 : ∀ o, h.get? P = some o → h'.get? P = some o) : h'.TableAt c P ps :=
  let ⟨⟨o, vs, a, r⟩, t⟩ := x; ⟨⟨o, vs, h1 _ a, r⟩, h2 _ t⟩
instance {cs} : TabKeep (TT cs) := ⟨fun _ _ t hk p hp => let ⟨h1, h2, ps, x, y⟩ := t p hp; ⟨h1, h2, ps, isCode_of x (fun o e => hk _ o h1 e) fun o e => hk _ o h2 e, tableAt_of y (fun o e => hk _ o h1 e) fun o e => hk _ o h2 e⟩⟩
noncomputable abbrev tabs (cs : List (Addr × Addr)) : List Addr := cs.map (·.2)

theorem closure_one {scope : Scope} {env : Env} {cn a b : Str} {cc : Addr} (h : env.cells.lookup cn = some cc) (hn : scope.names = [(a, .local), (b, .local), (cn, .free)]) : closureFor scope env = pure [(cn, cc)] := by
  unfold closureFor
  rw [hn]
  simp [cellOf, h]
section
variable {prog : Program} {w : World} {A : Around} {E : Value → Shared → Prop} {s : Shared} {env : Env} {cs : List (Addr × Addr)} {h0 : Heap} {g0 : Array GenState} {o0 : OsState} {ρ : List (Str × AV)} {ls : List (Addr × HV)}
  {rest : List Stmt}

/-- a change that spares all but a table -/
theorem At.spare {Pt c : Addr} {s' : Shared} (hm : (c, Pt) ∈ cs) (X : At (tabs cs) (TT cs) h0 g0 o0 env ρ ls s) (hnp : ∀ a fp h, (a, HV.pin fp h) ∉ ls) (hk : ∀ b o, b ≠ Pt → s.heap.get? b = some o → s'.heap.get? b = some o)
    (hT : TT cs s'.heap) (hg : BareG g0 s'.gens) (ho : s'.os = o0) : At (tabs cs) (TT cs) h0 g0 o0 env ρ ls s' := by
  obtain ⟨h1, h2, ps, hc, _⟩ := X.tb _ hm
  obtain ⟨op, hop, hpd⟩ : ∃ op, s.heap.get? Pt = some op ∧ op.data = .fields ps := by
    obtain ⟨o, vs, file, tf, flags, tg, inF, text, tt, op, a, r1, r2, r3, r4, r5, r6, b, r, _⟩ := hc
    exact ⟨op, b, r⟩
  have hmP : Pt ∈ tabs cs := List.mem_map.mpr ⟨_, hm, rfl⟩
  have nf : ∀ b o, (∀ vs, o.data ≠ .fields vs) → s.heap.get? b = some o → s'.heap.get? b = some o := fun b o hd e => hk b o (fun q => by
    subst q
    rw [hop] at e; cases e
    exact hd _ hpd) e
  have nl : ∀ b o, s.heap.get? b = some o → Lasting o = false → s'.heap.get? b = some o := fun b o e hl => nf b o (fun vs q => by
    unfold Lasting at hl; rw [q] at hl; cases hl) e
  refine ⟨envOk_keep nl X.ok, X.grow.keep fun b o _ hb _ e => hk b o (fun q => hb (by rw [q]; exact hmP)) e, fun x av h => let ⟨v, h1, h2⟩ := X.here x av h; ⟨v, h1, loads_keep nl h2⟩, fun a l h => ?_, X.far, X.big, hT, hg, ho⟩
  have := X.lists a l h
  cases l with
  | list l =>
    obtain ⟨vals, ⟨o, ho, hc, n, hd⟩, hr⟩ := this
    exact ⟨vals, ⟨o, nf a o (fun vs q => by rw [hd] at q; cases q) ho, hc, n, hd⟩, hr⟩
  | acc l =>
    obtain ⟨vals, ⟨o, n, ho, h1, h2, hd⟩, hr⟩ := this
    exact ⟨vals, ⟨o, n, nf a o (fun vs q => by rw [hd] at q; cases q) ho, h1, h2, hd⟩, hr⟩
  | pin fp h₁ => exact absurd h (hnp a fp h₁)

/-- the builtins' module, as the top left it -/
structure Bm (P : List Addr) (env : Env) (h0 : Heap) (mg : Str → Option Value) : Prop where
  go : ∃ bm o, mg "__builtins__" = some (.ref bm) ∧ bm ≠ builtinsNs ∧ bm ∉ P ∧ h0.get? bm = some o ∧ o.cls = .type "module" ∧ o.dict = some builtinsNs ∧ o.data = .plain

theorem genexp_at {mg mb} {c Pt ax : Addr} {x cn y : Str} {p1 p2 p3 px py pos : Pos} {scope : Scope} {f : Bool} {ys : List Int} {m : Int} {Q : Value → Shared → Prop}
    (hA : A.handled = none) (hroom : A.depth < recursionLimit) (hcs : CsOk cs) (G : Gl (tabs cs) env h0 mg mb) (B : Bm (tabs cs) env h0 mg) (hm : (c, Pt) ∈ cs) (hcode : env.code = .ref c)
    (X : At (tabs cs) (TT cs) h0 g0 o0 env ρ ls s) (hnp : ∀ a fp h, (a, HV.pin fp h) ∉ ls) (hlim : s.heap.NoLimit) (hcP : cStatics ∉ tabs cs) (hcP' : cStatics < nT)
    (hy : ρ.lookup y = some (.ref ax)) (hdy : (y == ("__debug__" : Str)) = false) (hl : (ax, HV.list (nums f ys)) ∈ ls) (hb1 : ∀ n ∈ ys, n.natAbs ≤ 2 ^ 53) (hb2 : ∀ n ∈ ys, (n - m).natAbs ≤ 2 ^ 53)
    (hcn : ρ.lookup cn = some (.fl m)) (hkc : env.kindOf cn = some .cell)
    (hclos : ∀ cc, env.cells.lookup cn = some cc → closureFor scope env = pure [(cn, cc)])
    (hco : scope.isCoroutine = false) (hcell : ∀ y ∈ scope.names, y.2 ≠ .cell) (hn0 : scope.names.lookup (".0" : Str) = some NameKind.local)
    (hx : scope.names.lookup x = some .local) (hc : scope.names.lookup cn = some .free) (hkind : scope.kind = .function)
    (hdx : (x == ("__debug__" : Str)) = false) (hdc : (cn == ("__debug__" : Str)) = false) (hdd : (cn == ("__classdict__" : Str)) = false)
    (k : ∀ a C I cc s', At (tabs cs) (TT cs) h0 g0 o0 env ρ ls s' → GenHere prog w A s' a C I ax cc s.gens.size ys m → s.heap.objs.size ≤ I → I < C → C < a → a < s'.heap.objs.size → cc < s.heap.objs.size → ax < s.heap.objs.size → s'.gens.size = s.gens.size + 1 →
      (∀ (i : Nat) (z : GenState), s.gens[i]? = some z → s'.gens[i]? = some z) → (∀ b o, b ≠ Pt → s.heap.get? b = some o → s'.heap.get? b = some o) → (∀ b ∈ [a, C, I, ax, cc, cStatics], b ≠ Pt) → env.cells.lookup cn = some cc → Q (.ref a) s')
    (hfold : ∀ u, genFold (.Name y py) env u = pure u := by intro _; rfl) :
    wpAny (model prog w) A (eval (.GeneratorExp (.BinOp (.Name x p1) .Sub (.Name cn p2) p3) [⟨.Name x px, .Name y py, [], 0⟩] scope pos) env) Q E s := by
  obtain ⟨h1, h2, ps, hcd, htab⟩ := X.tb _ hm
  obtain ⟨v, hv, hld⟩ := X.here cn _ hcn
  cases hv with | fl _ yb t hF =>
  obtain ⟨cc, hlk, hcc⟩ : ∃ cc, env.cells.lookup cn = some cc ∧ s.heap.IsCell cc (some (.float yb t)) := by
    rcases hld with ⟨h, _⟩ | ⟨_, r⟩ | ⟨h, _⟩
    · rw [hkc] at h; cases h
    · exact r
    · rw [hkc] at h; cases h
  obtain ⟨vals, hL, hR⟩ := X.lists ax _ hl
  have hPs : Pt < s.heap.objs.size := Nat.lt_of_lt_of_le h2 (Nat.le_trans X.nT_le X.low)
  obtain ⟨op, hop, hpd⟩ : ∃ op, s.heap.get? Pt = some op ∧ op.data = .fields ps := by
    obtain ⟨o, vs, file, tf, flags, tg, inF, text, tt, op, a, r1, r2, r3, r4, r5, r6, b, r, _⟩ := hcd
    exact ⟨op, b, r⟩
  have hmP : Pt ∈ tabs cs := List.mem_map.mpr ⟨_, hm, rfl⟩
  have e1 : cStatics ≠ Pt := fun q => hcP (by rw [q]; exact hmP)
  have e2 : ax ≠ Pt := fun q => by
    subst q
    obtain ⟨o, ho, _, n, hd⟩ := hL
    rw [hop] at ho; cases ho
    rw [hpd] at hd; cases hd
  have e3 : cc ≠ Pt := fun q => by
    subst q
    obtain ⟨o, ho, hd⟩ := hcc
    rw [hop] at ho; cases ho
    rw [hpd] at hd; cases hd
  refine genexp_sub (T := TT cs) (P := Pt) (ay := ax) hA hco (hclos cc hlk) (by rw [List.lookup_cons, beq_self_eq_true]) hcell hn0 hx hc hkind hroom hfold hdx hdc hdd
    (fun Q' hQ' => by
      obtain ⟨u, hu, hud⟩ := X.here y _ hy
      replace hu := hu.inv; obtain rfl := hu
      refine wpAny_Name ?_ hdy
      rcases hud with ⟨q1, mm, q2, q3⟩ | ⟨q1, c', q2, q3⟩ | ⟨q1, q4, c', q2, q3⟩
      · exact wpAny_loadName_local X.ok.fn q1 q2 q3 hQ'
      · exact wpAny_loadName_cell X.ok.fn q1 q2 q3 hQ'
      · exact wpAny_loadName_free X.ok.fn q1 q2 q3 hQ' q4)
    hL (nums_numsE hR hb1) hcc hF hb2 hlim e1 e2 e3 hPs
    (fun h h' t hk => TabKeep.go _ _ t fun b o _ e => hk b o e) ?_ ?_ ?_
  · intro s₂ Q' hk hQ'
    cases hf : codeAmong pos ps.toList with
    | some c' =>
      exact wpAny_genexprCode_hit hcode (hcd.keeps hk) hf (hQ' c' s₂.heap s₂.toks (fun _ _ _ e => e) (Nat.le_refl _) (TabKeep.go _ _ X.tb fun b o _ e => hk b o e))
    | none =>
      refine wpAny_genexprCodeX hcode (hcd.keeps hk) (htab.keeps hk) hf fun c' h' tk hx' hlo hhi hc' _ ht' _ => hQ' _ h' tk hx' (Nat.le_of_lt (Nat.lt_of_le_of_lt hlo hhi)) fun p hp => ?_
      obtain ⟨q1, q2, qs, q3, q4⟩ := X.tb p hp
      refine ⟨q1, q2, ?_⟩
      by_cases e : p.2 = Pt
      · have := hcs.apart p hp _ hm e
        subst this
        exact ⟨_, hc', ht'⟩
      · exact ⟨qs, isCode_of (q3.keeps hk) (fun o e' => hx' _ o (hcs.cross p hp _ hm) e') (fun o e' => hx' _ o e e'), tableAt_of (q4.keeps hk) (fun o e' => hx' _ o (hcs.cross p hp _ hm) e') fun o e' => hx' _ o e e'⟩
  · intro s₂ Q' hk hQ'
    obtain ⟨bm, o, q1, q2, q3, q4, q5, q6, q7⟩ := B.go
    have nP : ∀ b, b ∉ tabs cs → b ≠ Pt := fun b hb q => hb (by rw [q]; exact hmP)
    exact wpAny_builtinsFor ((X.grow.ns G.gP G.g).at' fun o e => hk _ o (nP _ G.gP) e) q1 q2 (hk _ o (nP _ q3) (X.grow.plain q3 (fun es ep d => by rw [q7] at d; cases d) q4)) q5 q6 q7 hQ'
  · intro a C I h₅ tk gs hgs hI hIC hCa ha hk hT₅ W GA
    obtain ⟨ol, hol, _⟩ := id hL
    obtain ⟨oc, hoc, _⟩ := id hcc
    have hax := Heap.lt_size hol
    have hccs := Heap.lt_size hoc
    have hst : cStatics < s.heap.objs.size := Nat.lt_of_lt_of_le hcP' (Nat.le_trans X.nT_le X.low)
    refine k a C I cc _ (X.spare hm hnp hk hT₅ (fun h y hy => ?_) X.os) ⟨W, GA, fun b hb => ?_⟩ hI hIC hCa ha hccs hax (Array.size_push ..) (fun i z e => ?_) hk (fun b hb => ?_) hlk
    · rcases Array.mem_push.mp hy with q | q
      · exact X.gens h y q
      · rw [q]; exact hgs
    · show b < h₅.objs.size
      simp only [List.mem_cons, List.not_mem_nil, or_false] at hb
      have lI : I < h₅.objs.size := Nat.lt_trans hIC (Nat.lt_trans hCa ha)
      rcases hb with q | q | q | q | q | q <;> rw [q]
      · exact ha
      · exact Nat.lt_trans hCa ha
      · exact lI
      · exact Nat.lt_of_lt_of_le hax (Nat.le_trans hI (Nat.le_of_lt lI))
      · exact Nat.lt_of_lt_of_le hccs (Nat.le_trans hI (Nat.le_of_lt lI))
      · exact Nat.lt_of_lt_of_le hst (Nat.le_trans hI (Nat.le_of_lt lI))
    · show (s.gens.push gs)[i]? = some z
      have hi : i < s.gens.size := by
        rcases Nat.lt_or_ge i s.gens.size with h | h
        · exact h
        · rw [Array.getElem?_eq_none h] at e; cases e
      rw [Array.getElem?_push, if_neg (Nat.ne_of_lt hi)]
      exact e
    · simp only [List.mem_cons, List.not_mem_nil, or_false] at hb
      rcases hb with q | q | q | q | q | q <;> rw [q]
      · exact Nat.ne_of_gt (Nat.lt_of_lt_of_le hPs (Nat.le_trans hI (Nat.le_of_lt (Nat.lt_trans hIC hCa))))
      · exact Nat.ne_of_gt (Nat.lt_of_lt_of_le hPs (Nat.le_trans hI (Nat.le_of_lt hIC)))
      · exact Nat.ne_of_gt (Nat.lt_of_lt_of_le hPs hI)
      · exact e2
      · exact e3
      · exact e1
end
end Mine
end
section
set_option maxRecDepth 100000
set_option exponentiation.threshold 3000
namespace Mine
open PySem PySem.Float64 PySem.Builtin.Math PySem.W PySem.Calls PyProof.Rows

section
variable {prog : Program} {w : World} {A : Around} {E : Value → Shared → Prop} {s : Shared} {env : Env} {cs : List (Addr × Addr)} {h0 : Heap} {g0 : Array GenState} {o0 : OsState} {ρ : List (Str × AV)} {ls : List (Addr × HV)}
  {rest : List Stmt} {P : List Addr} {T : Heap → Prop}

/-- fsum(x) -/
theorem eval_fsum [TabKeep T] {mg mb} {x : Str} {p px pos : Pos} {a : Addr} {f : Bool} {ns : List Int} {Q : Value → Shared → Prop} (hA : A.handled = none) (G : Gl P env h0 mg mb) (hk : env.kindOf "fsum" = some .globalImplicit) (hg : mg "fsum" = some (.builtin "math.fsum"))
    (X : At P T h0 g0 o0 env ρ ls s) (hx : ρ.lookup x = some (.ref a)) (hd : (x == ("__debug__" : Str)) = false) (hl : (a, HV.list (nums f ns)) ∈ ls) (hb1 : ∀ i, (ns.take i).sum.natAbs ≤ 2 ^ 53) (hb2 : ∀ n ∈ ns, n.natAbs ≤ 2 ^ 53)
    (k : ∀ v s', Rep (.fl ns.sum) v → At P T h0 g0 o0 env ρ ls s' → Q v s') (hst : starEach [.Name x px] env = (false, eval (.Name x px) env) :: starEach [] env := by rfl) :
    wpAny (model prog w) A (eval (.Call (.Name "fsum" p) [.Name x px] [] pos) env) Q E s := by
  refine wpAny_Call_NameR (Pur.glob G hk hg rfl s _ _ X fun f' tk hf htk => ?_)
  apply hf.e0 rfl
  refine PyProof.Rows.callWith_builtin1 (PurL.cons (.nm hx hd) .nil hst _ _ _ _ X.toks fun vs tk' hvs htk' => ?_) hst rfl
  cases hvs with
  | cons h1 h2 =>
    apply h2.nilE; apply h1.e0 rfl
    obtain ⟨vals, hL, hR⟩ := X.lists a _ hl
    exact call_fsum_list (s := { s with toks := tk' }) hA hL (nums_numsE hR hb2) hb1 hb2 fun b t h' tk'' hF hkp => k _ _ (.fl _ _ _ hF) (X.keeps hkp rfl rfl)

/-- sumprod((x - c for ..), (y - d for ..)) -/
theorem eval_sumprod_gens {mg mb} {c Pt ax ay : Addr} {x cn nx y dn ny : Str} {p1 p2 p3 px py pos p1' p2' p3' px' py' pos' p cpos : Pos} {scope scope' : Scope} {f f' : Bool} {xs ys : List Int} {m m' : Int} {Q : Value → Shared → Prop}
    (hA : A.handled = none) (hroom : A.depth < recursionLimit) (hcs : CsOk cs) (G : Gl (tabs cs) env h0 mg mb) (B : Bm (tabs cs) env h0 mg) (hm : (c, Pt) ∈ cs) (hcode : env.code = .ref c) (hks : env.kindOf "sumprod" = some .globalImplicit) (hgs : mg "sumprod" = some (.builtin "math.sumprod"))
    (X : At (tabs cs) (TT cs) h0 g0 o0 env ρ ls s) (hnp : ∀ a fp h, (a, HV.pin fp h) ∉ ls) (hlim : h0.NoLimit) (hcP : cStatics ∉ tabs cs) (hcP' : cStatics < nT)
    (hx : ρ.lookup nx = some (.ref ax)) (hdx : (nx == ("__debug__" : Str)) = false) (hlx : (ax, HV.list (nums f xs)) ∈ ls) (hbx1 : ∀ n ∈ xs, n.natAbs ≤ 2 ^ 53) (hbx2 : ∀ n ∈ xs, (n - m).natAbs ≤ 2 ^ 53)
    (hy : ρ.lookup ny = some (.ref ay)) (hdy : (ny == ("__debug__" : Str)) = false) (hly : (ay, HV.list (nums f' ys)) ∈ ls) (hby1 : ∀ n ∈ ys, n.natAbs ≤ 2 ^ 53) (hby2 : ∀ n ∈ ys, (n - m').natAbs ≤ 2 ^ 53)
    (hcn : ρ.lookup cn = some (.fl m)) (hkc : env.kindOf cn = some .cell) (hdn : ρ.lookup dn = some (.fl m')) (hkd : env.kindOf dn = some .cell)
    (hclos : ∀ cc, env.cells.lookup cn = some cc → closureFor scope env = pure [(cn, cc)]) (hclos' : ∀ cc, env.cells.lookup dn = some cc → closureFor scope' env = pure [(dn, cc)])
    (hco : scope.isCoroutine = false) (hcell : ∀ y ∈ scope.names, y.2 ≠ .cell) (hn0 : scope.names.lookup (".0" : Str) = some NameKind.local) (hxs : scope.names.lookup x = some .local) (hc : scope.names.lookup cn = some .free) (hkind : scope.kind = .function)
    (hco' : scope'.isCoroutine = false) (hcell' : ∀ y ∈ scope'.names, y.2 ≠ .cell) (hn0' : scope'.names.lookup (".0" : Str) = some NameKind.local) (hxs' : scope'.names.lookup y = some .local) (hc' : scope'.names.lookup dn = some .free) (hkind' : scope'.kind = .function)
    (hdx2 : (x == ("__debug__" : Str)) = false) (hdc : (cn == ("__debug__" : Str)) = false) (hdd : (cn == ("__classdict__" : Str)) = false)
    (hdy2 : (y == ("__debug__" : Str)) = false) (hdc' : (dn == ("__debug__" : Str)) = false) (hdd' : (dn == ("__classdict__" : Str)) = false)
    (hlen : ys.length = xs.length) (hdot : DotOk (xs.map (· - m)) (ys.map (· - m'))) (hpos : 0 < xs.length)
    (k : ∀ v s', Rep (.fl (dotN (xs.map (· - m)) (ys.map (· - m')) xs.length)) v → At (tabs cs) (TT cs) h0 g0 o0 env ρ ls s' → Q v s') :
    wpAny (model prog w) A (eval (.Call (.Name "sumprod" p) [.GeneratorExp (.BinOp (.Name x p1) .Sub (.Name cn p2) p3) [⟨.Name x px, .Name nx py, [], 0⟩] scope pos, .GeneratorExp (.BinOp (.Name y p1') .Sub (.Name dn p2') p3') [⟨.Name y px', .Name ny py', [], 0⟩] scope' pos'] [] cpos) env) Q E s := by
  refine wpAny_Call_NameR (Pur.glob G hks hgs rfl s _ _ X fun f' tk hf htk => ?_)
  apply hf.e0 rfl
  have nl : ∀ s : Shared, At (tabs cs) (TT cs) h0 g0 o0 env ρ ls s → s.heap.NoLimit := fun s X => by
    obtain ⟨mc, h1, h2⟩ := hlim
    exact ⟨mc, X.grow.ns hcP h1, h2⟩
  refine PyProof.Rows.callWith_builtin1 (spliced_more (genexp_at hA hroom hcs G B hm hcode (X.toks (tk := tk)) hnp (nl _ X.toks) hcP hcP' hx hdx hlx hbx1 hbx2 hcn hkc hclos hco hcell hn0 hxs hc hkind hdx2 hdc hdd fun a C I cc s₁ X₁ GH hI hIC hCa ha hcc hax hgsz hgk hkp hne hlk => ?_)) rfl rfl
  refine spliced_more (genexp_at hA hroom hcs G B hm hcode X₁ hnp (nl _ X₁) hcP hcP' hy hdy hly hby1 hby2 hdn hkd hclos' hco' hcell' hn0' hxs' hc' hkind' hdy2 hdc' hdd' fun a' C' I' cc' s₂ X₂ GH' hI' hIC' hCa' ha' hcc' hay hgsz' hgk' hkp' hne' hlk' => ?_)
  refine spliced_nil ?_
  have hs1 : ∀ b ∈ [a, C, I, ax, cc, cStatics], b < s₁.heap.objs.size := GH.below
  have big : s₁.heap.objs.size ≤ s₂.heap.objs.size := Nat.le_trans hI' (Nat.le_of_lt (Nat.lt_trans hIC' (Nat.lt_trans hCa' ha')))
  have GH2 : GenHere prog w A s₂ a C I ax cc s.gens.size xs m := GH.grow (fun b hb o e => hkp' b o (hne b hb) e) (fun z e => hgk' _ z e) big
  have hay0 : ay < s.heap.objs.size := by
    obtain ⟨vals, ⟨o, ho, _⟩, _⟩ := X.lists ay _ hly
    exact Heap.lt_size ho
  have hcc0 : cc' < s.heap.objs.size := by
    obtain ⟨_, _, v, o, ho, _⟩ := X.ok.cell dn cc' hlk'
    exact Heap.lt_size ho
  have hst : cStatics < s.heap.objs.size := Nat.lt_of_lt_of_le hcP' (Nat.le_trans X.nT_le X.low)
  have hI0 : s.heap.objs.size ≤ I := hI
  refine call_sumprod_gens GH2 GH' hlen hdot hpos ?_ (fun b hb => ?_) (fun b hb => ?_) fun b t s₃ hF hk₃ hg₃ ho₃ => k _ _ (.fl _ _ _ hF) ?_
  · show s.gens.size ≠ s₁.gens.size
    rw [hgsz]
    exact Nat.ne_of_lt (Nat.lt_succ_self _)
  · have := hs1 b hb
    exact ⟨Nat.ne_of_lt (Nat.lt_trans (Nat.lt_of_lt_of_le this hI') hIC'), Nat.ne_of_lt (Nat.lt_of_lt_of_le this hI')⟩
  · have hC1 : C < s₁.heap.objs.size := hs1 C (by simp)
    have hI1 : I < s₁.heap.objs.size := hs1 I (by simp)
    have hi : ∀ b, s₁.heap.objs.size ≤ b → b ≠ C ∧ b ≠ I := fun b h => ⟨Nat.ne_of_gt (Nat.lt_of_lt_of_le hC1 h), Nat.ne_of_gt (Nat.lt_of_lt_of_le hI1 h)⟩
    have lo : ∀ b, b < s.heap.objs.size → b ≠ C ∧ b ≠ I := fun b h => ⟨Nat.ne_of_lt (Nat.lt_trans (Nat.lt_of_lt_of_le h hI0) hIC), Nat.ne_of_lt (Nat.lt_of_lt_of_le h hI0)⟩
    simp only [List.mem_cons, List.not_mem_nil, or_false] at hb
    rcases hb with q | q | q | q | q | q <;> rw [q]
    · exact hi _ (Nat.le_trans hI' (Nat.le_of_lt (Nat.lt_trans hIC' hCa')))
    · exact hi _ (Nat.le_trans hI' (Nat.le_of_lt hIC'))
    · exact hi _ hI'
    · exact lo _ hay0
    · exact lo _ hcc0
    · exact lo _ hst
  · have far : ∀ b, b < s.heap.objs.size → b ≠ C ∧ b ≠ I ∧ b ≠ C' ∧ b ≠ I' := fun b h => by
      have h1 := Nat.lt_of_lt_of_le h hI0
      have h2 : I < s₁.heap.objs.size := hs1 I (by simp)
      have h3 := Nat.lt_of_lt_of_le (Nat.lt_trans h1 h2) hI'
      exact ⟨Nat.ne_of_lt (Nat.lt_trans h1 hIC), Nat.ne_of_lt h1, Nat.ne_of_lt (Nat.lt_trans h3 hIC'), Nat.ne_of_lt h3⟩
    have kall : ∀ b o, b < s.heap.objs.size → s₂.heap.get? b = some o → s₃.heap.get? b = some o := fun b o hb e => let ⟨q1, q2, q3, q4⟩ := far b hb; hk₃ b o q1 q2 q3 q4 e
    have hns : nT ≤ s.heap.objs.size := Nat.le_trans X.nT_le X.low
    refine X.spare hm hnp (fun b o hb e => kall b o (Heap.lt_size e) (hkp' b o hb (hkp b o hb e))) (TabKeep.go _ _ X₂.tb fun b o hb e => kall b o (Nat.lt_of_lt_of_le hb hns) e) (fun y => hg₃ (X₂.gens y)) (ho₃.trans X₂.os)
end
end Mine
end
section
set_option maxRecDepth 100000
set_option exponentiation.threshold 3000
namespace Mine
open PySem PySem.Float64 PySem.Builtin.Math PySem.W PySem.Calls PyProof.Rows

instance {cs} : TabFields (tabs cs) (TT cs) := ⟨fun _ t p hp => by
    obtain ⟨q, hq, rfl⟩ := List.mem_map.mp hp
    exact (t q hq).2.1, fun _ t p hp => by
    obtain ⟨q, hq, rfl⟩ := List.mem_map.mp hp
    obtain ⟨_, _, ps, _, _, h⟩ := t q hq
    exact ⟨_, _, h, rfl⟩⟩

section
variable {prog : Program} {w : World} {A : Around} {E : Value → Shared → Prop} {s : Shared} {env : Env} {h0 : Heap} {g0 : Array GenState} {o0 : OsState} {ρ : List (Str × AV)} {ls : List (Addr × HV)}
  {rest : List Stmt} {P : List Addr} {T : Heap → Prop}

/-- behind a call -/
theorem At.after [TabKeep T] [TabFields P T] {s' : Shared} (X : At P T h0 g0 o0 env ρ ls s) (hg : Grow P s.heap s'.heap) (hT : T s'.heap) (hb : BareG s.gens s'.gens) (ho : s'.os = s.os) (hp : ∀ a fp h, (a, HV.pin fp h) ∈ ls → ∀ b ∈ fp, b ∉ P) : At P T h0 g0 o0 env ρ ls s' := by
  have np : ∀ b o, (∀ vs, o.data ≠ .fields vs) → s.heap.get? b = some o → b ∉ P := fun b o hd e q => by
    obtain ⟨o', vs, e', d⟩ := TabFields.fields _ X.tb b q
    rw [e] at e'; cases e'
    exact hd _ d
  have nf : ∀ b o, (∀ vs, o.data ≠ .fields vs) → (∀ es ep, o.data ≠ .dict es ep) → s.heap.get? b = some o → s'.heap.get? b = some o := fun b o hd hd' e => hg.plain (np b o hd e) hd' e
  have nl : ∀ b o, s.heap.get? b = some o → Lasting o = false → ∃ o', s'.heap.get? b = some o' ∧ o'.data = o.data := fun b o e hl => hg.data (np b o (fun vs q => by
    unfold Lasting at hl; rw [q] at hl; cases hl) e) e
  refine ⟨envOk_keepD nl X.ok, X.grow.trans hg, fun x av h => let ⟨v, h1, h2⟩ := X.here x av h; ⟨v, h1, loads_keepD nl h2⟩, fun a l h => ?_, X.far, X.big, hT, fun y => hb (X.gens y), ho.trans X.os⟩
  have := X.lists a l h
  cases l with
  | list l =>
    obtain ⟨vals, ⟨o, ho, hc, n, hd⟩, hr⟩ := this
    exact ⟨vals, ⟨o, nf a o (fun vs q => by rw [hd] at q; cases q) (fun es ep q => by rw [hd] at q; cases q) ho, hc, n, hd⟩, hr⟩
  | acc l =>
    obtain ⟨vals, ⟨o, n, ho, h1, h2, hd⟩, hr⟩ := this
    exact ⟨vals, ⟨o, n, nf a o (fun vs q => by rw [hd] at q; cases q) (fun es ep q => by rw [hd] at q; cases q) ho, h1, h2, hd⟩, hr⟩
  | pin fp h₁ => exact fun b hb o e => ⟨(this b hb o e).1, hg.plain (hp a fp h₁ h b hb) (fun es ep q => by
    have hl := (this b hb o e).1
    unfold Lasting at hl; rw [q] at hl; cases hl) (this b hb o e).2⟩

theorem lookup_relabel_cell {env : Env} (hf : env.scope.kind = .function) : ∀ {names : List (Str × NameKind)} {x : Str}, names.lookup x = some .free → env.kindOf x = some .cell →
    (names.map fun (n, k) => if (k == NameKind.free && env.scope.kind == .function && env.kindOf n == some .cell) then (n, NameKind.cell) else (n, k)).lookup x = some .cell
  | [], _, h, _ => by simp at h
  | (n, k) :: r, x, h, hc => by
    show List.lookup x ((if (k == NameKind.free && env.scope.kind == .function && env.kindOf n == some .cell) = true then (n, NameKind.cell) else (n, k)) :: _) = _
    by_cases hx : x = n
    · subst hx
      rw [List.lookup_cons, beq_self_eq_true] at h
      cases h
      rw [if_pos (by rw [hf, hc]; rfl), List.lookup_cons, beq_self_eq_true]
    · have hb := beq_eq_false_iff_ne.mpr hx
      rw [List.lookup_cons, hb] at h
      have ih := lookup_relabel_cell hf h hc
      split <;> (rw [List.lookup_cons, hb]; exact ih)

/-- a value is appended -/
theorem At.append_call [TabKeep T] {a : Addr} {l : List AV} {v : Value} {av : AV} {Q : Value → Shared → Prop} (X : At P T h0 g0 o0 env ρ ((a, .acc l) :: ls) s) (hv : Rep av v) (ha : h0.objs.size ≤ a) (hsz : l.length ≤ sizeLine)
    (hls : ∀ b l', (b, HV.list l') ∈ ls → b ≠ a) (hacc : ∀ b l', (b, HV.acc l') ∈ ls → b ≠ a) (hpin : ∀ b fp h₁, (b, HV.pin fp h₁) ∈ ls → ∀ c ∈ fp, c ≠ a)
    (k : ∀ h', At P T h0 g0 o0 env ρ ((a, .acc (l ++ [av])) :: ls) { s with heap := h' } → Heap.SameBut a s.heap h' → Q .none { s with heap := h' }) : wpAny (model prog w) A (call (.builtin "list.append") [.ref a, v]) Q E s := by
  obtain ⟨vals, hP, hR⟩ := X.lists a _ List.mem_cons_self
  refine list_append_plainL (its := vals.toArray) hP (fun h' hP' hs => k _ ?_ hs) (by rw [List.size_toArray, hR.length]; exact hsz)
  have hseq : ∀ o, s.heap.get? a = some o → ∃ it n, o.data = .seq it n := fun o e => by
    obtain ⟨o', n, e', _, _, d⟩ := hP
    rw [e] at e'; cases e'
    exact ⟨_, _, d⟩
  have keep : ∀ b o, b ≠ a → s.heap.get? b = some o → h'.get? b = some o := fun b o hb e => (hs.2 b hb).trans e
  have nl : ∀ b o, s.heap.get? b = some o → Lasting o = false → h'.get? b = some o := fun b o e hl => keep b o (fun q => by
    subst q
    obtain ⟨it, n, d⟩ := hseq o e
    unfold Lasting at hl; rw [d] at hl; cases hl) e
  refine ⟨envOk_keep nl X.ok, X.grow.keep fun b o o₀ hb e₀ e => keep b o (fun q => ?_) e, fun y av hy => let ⟨v, h1, h2⟩ := X.here y av hy; ⟨v, h1, loads_keep nl h2⟩, fun b l' hm => ?_, X.far, X.big, TabKeep.go _ _ X.tb fun b o hb e => keep b o (fun q => ?_) e, X.gens, X.os⟩
  · exact Nat.lt_irrefl _ (Nat.lt_of_lt_of_le (by rw [← q]; exact Heap.lt_size e₀) ha)
  · rcases List.mem_cons.mp hm with q | q
    · cases q
      refine ⟨vals ++ [v], ?_, hR.append (.cons hv .nil)⟩
      rw [show (vals ++ [v]).toArray = vals.toArray.push v from by simp]
      exact hP'
    · have := X.lists b l' (List.mem_cons_of_mem _ q)
      cases l' with
      | list l' =>
        obtain ⟨vs, ⟨o, ho, hc, n, hd⟩, hr⟩ := this
        exact ⟨vs, ⟨o, keep b o (hls b _ q) ho, hc, n, hd⟩, hr⟩
      | acc l' =>
        obtain ⟨vs, ⟨o, n, ho, h1, h2, hd⟩, hr⟩ := this
        exact ⟨vs, ⟨o, n, keep b o (hacc b _ q) ho, h1, h2, hd⟩, hr⟩
      | pin fp h₁ => exact fun c hc o e => ⟨(this c hc o e).1, keep c o (hpin b fp h₁ q c hc) (this c hc o e).2⟩
  · have := X.nT_le
    exact Nat.lt_irrefl _ (Nat.lt_of_lt_of_le (by rw [← q]; exact hb) (Nat.le_trans this ha))
end
end Mine
end
section
set_option maxRecDepth 100000
set_option exponentiation.threshold 3000
namespace Mine
open PySem PySem.Float64 PySem.Builtin.Math PySem.W PySem.Calls PyProof.Rows

section
variable {prog : Program} {w : World} {A : Around} {E : Value → Shared → Prop} {s : Shared} {env : Env} {h0 : Heap} {g0 : Array GenState} {o0 : OsState} {ρ ρc : List (Str × AV)} {ls : List (Addr × HV)}
  {rest : List Stmt} {P : List Addr} {T : Heap → Prop}

noncomputable abbrev accOf (n : Nat) (keep : Nat → Bool) (bv : Nat → AV) : List AV := ((List.range n).filter keep).map bv
theorem accOf_succ (n : Nat) (keep : Nat → Bool) (bv : Nat → AV) : accOf (n + 1) keep bv = if keep n then accOf n keep bv ++ [bv n] else accOf n keep bv := by
  unfold accOf
  rw [List.range_succ, List.filter_append, List.map_append]
  cases h : keep n <;> simp [h]
theorem accOf_len (n : Nat) (keep : Nat → Bool) (bv : Nat → AV) : (accOf n keep bv).length ≤ n := by
  unfold accOf
  rw [List.length_map]
  exact Nat.le_trans (List.length_filter_le ..) (by rw [List.length_range]; exact Nat.le_refl _)

/-- what a comprehension's loop asks of its element -/
noncomputable def CompStep (prog : Program) (w : World) (A : Around) (P : List Addr) (T : Heap → Prop) (s₁ : Shared) (env : Env) (scope : Scope) (cl : List (Str × Addr)) (x : Str) (ifs : List Expr) (elt : Expr) (n : Nat) (av bv : Nat → AV) (keep : Nat → Bool) (ρc : List (Str × AV)) (ls : List (Addr × HV)) : Prop :=
  ∀ (C i : Nat) (s' : Shared) (a : Addr) (fp : List Addr) (hp : Heap) (l : List AV) (E' : Value → Shared → Prop), i < n → (∀ b ∈ fp, b ∉ P) → At P T s₁.heap s₁.gens s₁.os (compEnvC scope cl C env) ((x, av i) :: ρc) ((a, .acc l) :: (0, .pin fp hp) :: ls) s' →
    wpAny (model prog w) A (forIn ifs true fun c r => if r = true then do let ok ← isTrue c (compEnvC scope cl C env) (eval c (compEnvC scope cl C env)); pure (ForInStep.yield ok) else pure (ForInStep.yield r))
      (fun ok s₃ => ok = keep i ∧ At P T s₁.heap s₁.gens s₁.os (compEnvC scope cl C env) ((x, av i) :: ρc) ((a, .acc l) :: (0, .pin fp hp) :: ls) s₃ ∧
        (ok = true → wpAny (model prog w) A (eval elt (compEnvC scope cl C env)) (fun y s₄ => Rep (bv i) y ∧ At P T s₁.heap s₁.gens s₁.os (compEnvC scope cl C env) ((x, av i) :: ρc) ((a, .acc l) :: (0, .pin fp hp) :: ls) s₄) E' s₃)) E' s'

/-- the state at a comprehension's start -/
theorem comp_start [TabKeep T] {scope : Scope} {cl : List (Str × Addr)} {s₂ : Shared} {h₁ : Heap} {C D : Addr} {tk : Nat} {mm : Str → Option Value} (X : At P T h0 g0 o0 env ρ ls s₁) (hkind : scope.kind = .function) (hns : h₁.Ns C mm)
    (kp : ∀ b o, s₁.heap.get? b = some o → h₁.get? b = some o) (hC : s₁.heap.objs.size ≤ C) (hacc : PlainL h₁ D #[]) (hg : s₂.gens = s₁.gens) (ho : s₂.os = s₁.os)
    (hclE : ∀ y c, cl.lookup y = some c → env.cells.lookup y = some c)
    (hρc : ∀ y a, ρc.lookup y = some a → ρ.lookup y = some a ∧ env.kindOf y = some .cell ∧ scope.names.lookup y = some .free ∧ ∃ c, cl.lookup y = some c) :
    At P T s₁.heap s₁.gens s₁.os (compEnvC scope cl C env) ρc ((D, .acc []) :: ls) { s₂ with heap := h₁, toks := tk } := by
  refine ⟨⟨hkind, ⟨_, hns⟩, hC, fun y c hc => ?_, fun y z c hy hz => X.ok.inj y z c (hclE y c hy) (hclE z c hz)⟩, Grow.of fun b o _ e => kp b o e, fun y a hy => ?_, fun b l hm => ?_, X.far, ?_, TabKeep.go _ _ X.tb fun b o _ e => kp b o e, ?_, ho⟩
  · obtain ⟨_, h2, v, hv⟩ := X.ok.cell y c (hclE y c hc)
    refine ⟨fun h => absurd rfl h, ?_, v, hv.keeps kp⟩
    obtain ⟨o, ho, _⟩ := hv
    exact Nat.ne_of_lt (Nat.lt_of_lt_of_le (Heap.lt_size ho) hC)
  · obtain ⟨h1, h2, h3, c, h4⟩ := hρc y a hy
    obtain ⟨v, hv, hld⟩ := X.here y a h1
    refine ⟨v, hv, .inr (.inl ⟨lookup_relabel_cell X.ok.fn h3 h2, c, h4, ?_⟩)⟩
    rcases hld with ⟨q, _⟩ | ⟨_, c', q, hc'⟩ | ⟨q, _⟩
    · rw [h2] at q; cases q
    · rw [hclE y c h4] at q; cases q
      exact hc'.keeps kp
    · rw [h2] at q; cases q
  · rcases List.mem_cons.mp hm with q | q
    · cases q
      exact ⟨[], hacc, .nil⟩
    · exact holds_keep kp (X.lists b l q)
  · obtain ⟨o, ho⟩ := X.big
    exact let ⟨o', e', _⟩ := X.grow _ _ X.far ho; ⟨o', e'⟩
  · show BareG s₁.gens s₂.gens
    rw [hg]; exact fun h => h

theorem comp_core [TabKeep T] [TabFields P T] {elt iter : Expr} {x : Str} {px : Pos} {ifs : List Expr} {scope : Scope} {cl : List (Str × Addr)} {pos : Pos} {n : Nat} {av bv : Nat → AV} {keep : Nat → Bool} {src : List Addr} {I : Addr} {fp wr : List Addr} {St : Nat → Heap → Prop} {s₁ s₂ : Shared}
    {RR : Value → Addr → Result → Shared → Prop}
    (X : At P T h0 g0 o0 env ρ ls s₁) (hnp : ∀ a fp h, (a, HV.pin fp h) ∉ ls) (IO : IterOf prog w A n av src I fp wr St s₁ s₂) (hsz : n ≤ sizeLine)
    (hcell : ∀ y ∈ scope.names, y.2 ≠ .cell) (hkind : scope.kind = .function) (hx : scope.names.lookup x = some .local)
    (hclE : ∀ y c, cl.lookup y = some c → env.cells.lookup y = some c)
    (hρc : ∀ y a, ρc.lookup y = some a → ρ.lookup y = some a ∧ env.kindOf y = some .cell ∧ scope.names.lookup y = some .free ∧ ∃ c, cl.lookup y = some c)
    (step : CompStep prog w A P T s₁ env scope cl x ifs elt n av bv keep ρc ls)
    (fin : ∀ D C s' m, At P T s₁.heap s₁.gens s₁.os (compEnvC scope cl C env) ρc ((D, .acc (accOf n keep bv)) :: ls) s' → s'.heap.Ns C m → s₁.heap.objs.size ≤ D → s₁.heap.objs.size ≤ C → D ≠ C → RR (.ref D) C (.ok .next) s') :
    wpAny (model prog w) A (newList []) (fun acc s₃ => wpAny (model prog w) A (newFunctionEnv scope env.globals cl [] env.qual none .none (some env)) (fun cenv s₄ =>
      codeAny (model prog w) A (.compStart (.ListComp elt [⟨.Name x px, iter, ifs, 0⟩] scope pos) 0 (.ref I) acc { cenv with scope := relabel scope env }) (RR acc cenv.locals) s₄) E s₃) E s₂ := by
  refine wpAny_newObj_type (wpAny_newFunctionEnv hcell (by intro y hy; simp at hy) (fun h₁ hns₁ hsb₁ => ?_) hkind)
  dsimp only at hns₁ hsb₁ ⊢
  generalize hH2 : s₂.heap.push { cls := .type "list", dict := none, data := .seq ([] : List Value).toArray } = H2 at hns₁ hsb₁ ⊢
  have hC : H2.objs.size = s₂.heap.objs.size + 1 := by rw [← hH2, Heap.size_push]
  have hDC : s₂.heap.objs.size ≠ H2.objs.size := by rw [hC]; exact Nat.ne_of_lt (Nat.lt_succ_self _)
  have below : ∀ b, b < s₂.heap.objs.size → b ≠ H2.objs.size ∧ b ≠ s₂.heap.objs.size := fun b hb => ⟨by rw [hC]; exact Nat.ne_of_lt (Nat.lt_succ_of_lt hb), Nat.ne_of_lt hb⟩
  have old : ∀ b o, s₂.heap.get? b = some o → h₁.get? b = some o := fun b o e => hsb₁.extBut b o (below b (Heap.lt_size e)).1 (Heap.get?_push_of_some _ (hH2 ▸ Heap.get?_push_of_some _ e))
  have hacc : PlainL h₁ s₂.heap.objs.size #[] := ⟨_, _, hsb₁.extBut _ _ hDC (Heap.get?_push_of_some _ (hH2 ▸ Heap.get?_push_size _ rfl)), rfl, rfl, rfl⟩
  have hst₁ : St 0 h₁ := IO.walks.frame _ _ _ IO.st0 fun b _ o e => old b o e
  have big : s₁.heap.objs.size ≤ s₂.heap.objs.size := IO.size
  have X₂ := X.keeps IO.keep IO.gens IO.os
  -- the loop's own state
  have Y0 : At P T s₁.heap s₁.gens s₁.os (compEnvC scope cl H2.objs.size env) ρc ((s₂.heap.objs.size, .acc (accOf 0 keep bv)) :: ls) { s₂ with heap := h₁, toks := s₂.toks + ([] : List (Str × Value)).length } :=
    comp_start X hkind hns₁ (fun b o e => old b o (IO.keep b o e)) (by rw [hC]; exact Nat.le_succ_of_le big) hacc IO.gens IO.os hclE hρc
  have loop : ∀ s₃ : Shared, s₃ = { s₂ with heap := h₁, toks := s₂.toks + ([] : List (Str × Value)).length } →
      codeAny (model prog w) A (.compLoop (.ListComp elt [⟨.Name x px, iter, ifs, 0⟩] scope pos) 0 (.ref I) (.ref s₂.heap.objs.size) (compEnvC scope cl H2.objs.size env))
        (RR (.ref s₂.heap.objs.size) H2.objs.size) s₃ := by
    rintro s₃ rfl
    refine codeAny_compLoop_tests (fun m s' => ∃ i, i ≤ n ∧ m = n - i ∧ At P T s₁.heap s₁.gens s₁.os (compEnvC scope cl H2.objs.size env) ρc ((s₂.heap.objs.size, .acc (accOf i keep bv)) :: ls) s' ∧ St i s'.heap) ?_ n ⟨0, Nat.zero_le _, rfl, Y0, hst₁⟩
    intro m s' hinv
    refine ex1and4 hinv fun i hi hm Y st => ?_
    subst hm
    clear hinv
    have h0w : ∀ b o, b ∉ P → s₁.heap.get? b = some o → b < s₁.heap.objs.size := fun b o _ e => Heap.lt_size e
    have hpn : ∀ a fp h₁, (a, HV.pin fp h₁) ∈ ((s₂.heap.objs.size, HV.acc (accOf i keep bv)) :: ls) → ∀ b ∈ fp, ∀ o, h₁.get? b = some o → b < s₁.heap.objs.size := fun a fp h₁ hm => by
      rcases List.mem_cons.mp hm with q | q
      · cases q
      · exact absurd q (hnp a fp h₁)
    rcases Nat.lt_or_ge i n with hlt | hge
    · refine IO.walks.item i s' _ _ hlt st fun v h' tk hv st' hk => ?_
      have Y' := Y.iter (tk := tk) IO.fresh X.lt451 (IO.fields i _ st) h0w hpn hk
      refine wpAny_assign_Name (Y'.store hv (.inl (lookup_relabel_local hx)) fun s'' Y'' hst _ => ?_)
      have st'' : St (i + 1) s''.heap := IO.walks.frame _ _ _ st' fun b hb o e => by
        obtain ⟨o', e', hl⟩ := IO.lasts _ _ st' b hb
        rw [e] at e'; cases e'
        exact hst.2.1 b o hl e
      have pin : Holds s''.heap 0 (.pin fp s''.heap) := fun b hb o e => by
        obtain ⟨o', e', hl⟩ := IO.lasts _ _ st'' b hb
        rw [e] at e'; cases e'
        exact ⟨hl, e⟩
      refine wpAny_mono (step H2.objs.size i s'' s₂.heap.objs.size fp s''.heap (accOf i keep bv) _ hlt (IO.apart X X₂.tb) ⟨Y''.ok, Y''.grow, Y''.here, fun a l hm => ?_, Y''.far, Y''.big, Y''.tb, Y''.gens, Y''.os⟩) (fun ok s₃ h => ?_) fun _ _ e => e
      · rcases List.mem_cons.mp hm with q | q
        · cases q; exact Y''.lists _ _ List.mem_cons_self
        · rcases List.mem_cons.mp q with q | q
          · cases q; exact pin
          · exact Y''.lists a l (List.mem_cons_of_mem _ q)
      · obtain ⟨hok, Y₃, helt⟩ := h
        have sub : ∀ y a, ρc.lookup y = some a → ((x, av i) :: ρc).lookup y = some a := fun y a hy => by
          have hne : y ≠ x := by
            intro q
            subst q
            rw [(hρc y a hy).2.2.1] at hx
            cases hx
          rw [List.lookup_cons, beq_eq_false_iff_ne.mpr hne]
          exact hy
        have lowls : ∀ b l', (b, l') ∈ ls → (∃ l'', l' = .list l'' ∨ l' = .acc l'') → b ≠ s₂.heap.objs.size := fun b l' hm hl => by
          have : ∃ o, s₁.heap.get? b = some o := by
            have hh := X.lists b l' hm
            obtain ⟨l'', q | q⟩ := hl <;> subst q
            · obtain ⟨_, ⟨o, ho, _⟩, _⟩ := hh
              exact ⟨o, ho⟩
            · obtain ⟨_, ⟨o, _, ho, _⟩, _⟩ := hh
              exact ⟨o, ho⟩
          obtain ⟨o, ho⟩ := this
          exact Nat.ne_of_lt (Nat.lt_of_lt_of_le (Heap.lt_size ho) big)
        have lowfp : ∀ b ∈ fp, b ≠ s₂.heap.objs.size := fun b hb => by
          obtain ⟨o, ho, _⟩ := IO.lasts 0 _ IO.st0 b hb
          exact Nat.ne_of_lt (Heap.lt_size ho)
        by_cases hkp : keep i = true
        · rw [hok, if_pos hkp]
          refine wpAny_mono (helt (hok.trans hkp)) (fun y s₄ h₄ => ?_) fun _ _ e => e
          obtain ⟨hy, Y₄⟩ := h₄
          refine Y₄.append_call hy big (Nat.le_trans (accOf_len ..) (Nat.le_trans hi hsz)) (fun b l' hm => ?_) (fun b l' hm => ?_) (fun b fp' h₂ hm => ?_) fun h₅ Y₅ hs₅ => ⟨n - (i + 1), by omega, i + 1, hlt, rfl, ?_, ?_⟩
          · rcases List.mem_cons.mp hm with q | q
            · cases q
            · exact lowls b _ q ⟨_, .inl rfl⟩
          · rcases List.mem_cons.mp hm with q | q
            · cases q
            · exact lowls b _ q ⟨_, .inr rfl⟩
          · rcases List.mem_cons.mp hm with q | q
            · cases q; exact lowfp
            · exact absurd q (hnp _ _ _)
          · rw [accOf_succ, if_pos hkp]
            exact Y₅.weak sub fun p hp => by
              rcases List.mem_cons.mp hp with q | q
              · rw [q]; exact List.mem_cons_self
              · exact List.mem_cons_of_mem _ (List.mem_cons_of_mem _ q)
          · exact IO.walks.frame _ _ _ st'' fun b hb o e => (hs₅.2 b (lowfp b hb)).trans (Y₄.lists 0 _ (List.mem_cons_of_mem _ List.mem_cons_self) b hb o e).2
        · rw [hok, if_neg hkp]
          refine ⟨n - (i + 1), by omega, i + 1, hlt, rfl, ?_, ?_⟩
          · rw [accOf_succ, if_neg hkp]
            exact Y₃.weak sub fun p hp => by
              rcases List.mem_cons.mp hp with q | q
              · rw [q]; exact List.mem_cons_self
              · exact List.mem_cons_of_mem _ (List.mem_cons_of_mem _ q)
          · exact IO.walks.frame _ _ _ st'' fun b hb o e => (Y₃.lists 0 _ (List.mem_cons_of_mem _ List.mem_cons_self) b hb o e).2
    · obtain rfl : i = n := Nat.le_antisymm hi hge
      refine IO.walks.done s' _ _ st fun h' tk hk => ?_
      have Y' := Y.iter (tk := tk) IO.fresh X.lt451 (IO.fields _ _ st) h0w hpn hk
      obtain ⟨m, hn⟩ := Y'.ok.ns
      exact fin _ _ _ m Y' hn big (by rw [hC]; exact Nat.le_succ_of_le big) hDC
  exact codeAny_compStart_list (loop _ rfl) (IO.walks.self 0 _ _ _ hst₁ (loop _ rfl))
end
end Mine
end
section
set_option maxRecDepth 100000
set_option exponentiation.threshold 3000
namespace Mine
open PySem PySem.Float64 PySem.Builtin.Math PySem.W PySem.Calls PyProof.Rows

section
variable {prog : Program} {w : World} {A : Around} {E : Value → Shared → Prop} {s : Shared} {env : Env} {h0 : Heap} {g0 : Array GenState} {o0 : OsState} {ρ ρc : List (Str × AV)} {ls : List (Addr × HV)}
  {rest : List Stmt} {P : List Addr} {T : Heap → Prop}

/-- the state behind a comprehension -/
theorem comp_out [TabKeep T] [TabFields P T] {s₁ s' : Shared} {cenv : Env} {D C : Addr} {l : List AV} {h' : Heap} (X : At P T h0 g0 o0 env ρ ls s₁) (hnp : ∀ a fp h, (a, HV.pin fp h) ∉ ls) (Y : At P T s₁.heap s₁.gens s₁.os cenv ρc ((D, .acc l) :: ls) s')
    (hC : s₁.heap.objs.size ≤ C) (hDC : D ≠ C) (hs : Heap.SameBut C s'.heap h') : At P T h0 g0 o0 env ρ ((D, .acc l) :: ls) { s' with heap := h' } := by
  have lt : ∀ b, b < s₁.heap.objs.size → b ≠ C := fun b hb => Nat.ne_of_lt (Nat.lt_of_lt_of_le hb hC)
  have Z : At P T h0 g0 o0 env ρ ls { s' with heap := h' } := X.after (s' := { s' with heap := h' }) (Y.grow.keep fun b o o₀ _ e₀ e => (hs.2 b (lt b (Heap.lt_size e₀))).trans e)
    (TabKeep.go _ _ Y.tb fun b o hb e => (hs.2 b (lt b (Nat.lt_of_lt_of_le hb (Nat.le_trans X.nT_le X.low)))).trans e) Y.gens Y.os (fun a fp h hm => absurd hm (hnp a fp h))
  refine ⟨Z.ok, Z.grow, Z.here, fun a l' hm => ?_, Z.far, Z.big, Z.tb, Z.gens, Z.os⟩
  rcases List.mem_cons.mp hm with q | q
  · cases q
    obtain ⟨vals, ⟨o, n, ho, r⟩, hr⟩ := Y.lists D _ List.mem_cons_self
    exact ⟨vals, ⟨o, n, (hs.2 D hDC).trans ho, r⟩, hr⟩
  · exact Z.lists a l' q

theorem At.drop [TabKeep T] {C : Addr} {h' : Heap} (X : At P T h0 g0 o0 env ρ ls s) (hs : Heap.SameBut C s.heap h') (hC : h0.objs.size ≤ C) (hL : env.locals ≠ C) (hcell : ∀ y c, env.cells.lookup y = some c → c ≠ C)
    (hls : ∀ a l, (a, l) ∈ ls → a ≠ C) (hnp : ∀ a fp h, (a, HV.pin fp h) ∉ ls) : At P T h0 g0 o0 env ρ ls { s with heap := h' } := by
  have kp : ∀ b o, b ≠ C → s.heap.get? b = some o → h'.get? b = some o := fun b o hb e => (hs.2 b hb).trans e
  have ld : ∀ {x v}, Loads env s.heap x v → Loads env h' x v := fun {x v} y => by
    rcases y with ⟨hk', m, hn, hm⟩ | ⟨hk', c, h1, hv⟩ | ⟨hk', hnn, c, h1, hv⟩
    · exact .inl ⟨hk', m, hn.at' fun o e => kp _ o hL e, hm⟩
    · exact .inr (.inl ⟨hk', c, h1, hv.sameBut hs (hcell _ _ h1)⟩)
    · exact .inr (.inr ⟨hk', hnn, c, h1, hv.sameBut hs (hcell _ _ h1)⟩)
  obtain ⟨m, hn⟩ := X.ok.ns
  refine ⟨⟨X.ok.fn, ⟨m, hn.at' fun o e => kp _ o hL e⟩, X.ok.lo, fun y c hc => ?_, X.ok.inj⟩, X.grow.keep fun b o o₀ _ e₀ e => kp b o (Nat.ne_of_lt (Nat.lt_of_lt_of_le (Heap.lt_size e₀) hC)) e, fun x av h => let ⟨v, h1, h2⟩ := X.here x av h; ⟨v, h1, ld h2⟩, fun a l hm => ?_, X.far, X.big,
    TabKeep.go _ _ X.tb fun b o hb e => kp b o (Nat.ne_of_lt (Nat.lt_of_lt_of_le hb (Nat.le_trans X.nT_le hC))) e, X.gens, X.os⟩
  · obtain ⟨h1, h2, v, h3⟩ := X.ok.cell y c hc
    exact ⟨h1, h2, v, h3.sameBut hs (hcell _ _ hc)⟩
  · have := X.lists a l hm
    have ha := hls a l hm
    cases l with
    | list l =>
      obtain ⟨vals, ⟨o, ho, r⟩, hr⟩ := this
      exact ⟨vals, ⟨o, kp a o ha ho, r⟩, hr⟩
    | acc l =>
      obtain ⟨vals, ⟨o, n, ho, r⟩, hr⟩ := this
      exact ⟨vals, ⟨o, n, kp a o ha ho, r⟩, hr⟩
    | pin fp h₁ => exact absurd hm (hnp _ _ _)

/-- y = [.. for x in ..], y a local name on the same line -/
theorem s_comp [TabKeep T] [TabFields P T] {Q : Flow → Shared → Prop} {elt iter : Expr} {x y : Str} {px py : Pos} {ifs : List Expr} {scope : Scope} {cl : List (Str × Addr)} {pos spos : Pos} {n : Nat} {av bv : Nat → AV} {keep : Nat → Bool} {src : List Addr}
    (hsw : swapsWith (.ListComp elt [⟨.Name x px, iter, ifs, 0⟩] scope pos) (some (.Name y py)) spos.line env = pure true) (hy : env.kindOf y = some .local)
    (hnp : ∀ a fp h, (a, HV.pin fp h) ∉ ls) (hsz : n ≤ sizeLine)
    (hcell : ∀ y ∈ scope.names, y.2 ≠ .cell) (hkind : scope.kind = .function) (hx : scope.names.lookup x = some .local) (hnames : ∀ z ∈ scope.names, z.2 = .local → scope.names.lookup z.1 = some .local)
    (hclos : closureFor scope env = pure cl) (hclE : ∀ y c, cl.lookup y = some c → env.cells.lookup y = some c)
    (hρc : ∀ y a, ρc.lookup y = some a → ρ.lookup y = some a ∧ env.kindOf y = some .cell ∧ scope.names.lookup y = some .free ∧ ∃ c, cl.lookup y = some c)
    (hiter : wpAny (model prog w) A (eval iter env) (fun xv s₁ => At P T h0 g0 o0 env ρ ls s₁ ∧ wpAny (model prog w) A (pyIter xv) (fun it s₂ => ∃ I fp wr St, it = .ref I ∧ IterOf prog w A n av src I fp wr St s₁ s₂) E s₁) E s)
    (step : ∀ s₁, At P T h0 g0 o0 env ρ ls s₁ → CompStep prog w A P T s₁ env scope cl x ifs elt n av bv keep ρc ls)
    (k : ∀ D s', h0.objs.size ≤ D → At P T h0 g0 o0 env ((y, .ref D) :: ρ) ((D, .acc (accOf n keep bv)) :: ls) s' → wpAny (model prog w) A (execs rest env) Q E s')
    (hs : ∀ x, foldedSetIterable iter env x = pure x := by intro _; rfl) :
    wpAny (model prog w) A (execs (.Assign [.Name y py] (.ListComp elt [⟨.Name x px, iter, ifs, 0⟩] scope pos) spos :: rest) env) Q E s := by
  refine wpAny_execs_cons ?_
  rw [exec_Assign_Name_used _ _ _ _ hsw]
  refine wpAny_bind (wpAny_standAt (wpAny_bind ?_))
  show wpAny _ A (do let _ ← comprehension (.ListComp elt [⟨.Name x px, iter, ifs, 0⟩] scope pos) scope env _ (newList []) false (eval iter env) (some (assign (.Name y py) env))) _ _ s
  refine wpAny_bind (wpAny_mono (wpAny_comprehension_free (use := some (assign (.Name y py) env)) (Q := fun _ s' => wpAny (model prog w) A (execs rest env) Q E s') rfl hs hclos hkind hnames
    (wpAny_mono hiter (fun xv s₁ h₁ => wpAny_mono h₁.2 (fun it s₂ h₂ => ?_) fun _ _ e => e) fun _ _ e => e)) (fun _ s' hq => wpAny_pure (wpAny_pure hq)) fun _ _ e => e)
  obtain ⟨X, _⟩ := h₁
  obtain ⟨I, fp, wr, St, rfl, IO⟩ := h₂
  refine comp_core (RR := fun acc C => compPost (model prog w) A E (some (assign (.Name y py) env)) (fun _ s' => wpAny (model prog w) A (execs rest env) Q E s') acc C) X hnp IO hsz hcell hkind hx hclE hρc (step s₁ X) fun D C s' m Y hn hD hC hDC => ?_
  show wpAny _ A (assign (.Name y py) env (.ref D)) _ _ _
  have Z : At P T h0 g0 o0 env ρ ((D, .acc (accOf n keep bv)) :: ls) s' := comp_out X hnp Y hC hDC (Heap.SameBut.refl C s'.heap)
  refine wpAny_assign_Name (Z.store (.ref D) (.inl hy) fun s₃ Z₃ _ hsb => ?_)
  obtain ⟨a, hsb, ha, _⟩ := hsb
  have haC : C ≠ a := by
    intro q
    subst q
    rcases ha with ⟨_, e⟩ | ⟨_, e⟩
    · obtain ⟨mm, o, _, _, ho, _⟩ := X.ok.ns
      rw [← e] at ho
      exact Nat.lt_irrefl _ (Nat.lt_of_lt_of_le (Heap.lt_size ho) hC)
    · obtain ⟨_, _, v, o, ho, _⟩ := X.ok.cell y _ e
      exact Nat.lt_irrefl _ (Nat.lt_of_lt_of_le (Heap.lt_size ho) hC)
  refine ⟨m, hn.sameBut hsb haC, fun h₄ hs₄ => k D _ (Nat.le_trans X.low hD) ?_⟩
  have nc : ∀ b o, s₁.heap.get? b = some o → b ≠ C := fun b o e => Nat.ne_of_lt (Nat.lt_of_lt_of_le (Heap.lt_size e) hC)
  refine Z₃.drop hs₄ (Nat.le_trans X.low hC) ?_ (fun z c hc => ?_) (fun b l hm => ?_) fun b fp h hm => ?_
  · obtain ⟨mm, o, _, _, ho, _⟩ := X.ok.ns
    exact nc _ o ho
  · obtain ⟨_, _, v, o, ho, _⟩ := X.ok.cell z _ hc
    exact nc _ o ho
  · rcases List.mem_cons.mp hm with q | q
    · cases q; exact hDC
    · have hh := X.lists b l q
      cases l with
      | list l =>
        obtain ⟨_, ⟨o, ho, _⟩, _⟩ := hh
        exact nc _ o ho
      | acc l =>
        obtain ⟨_, ⟨o, _, ho, _⟩, _⟩ := hh
        exact nc _ o ho
      | pin fp h => exact absurd q (hnp _ _ _)
  · rcases List.mem_cons.mp hm with q | q
    · cases q
    · exact hnp _ _ _ q
end
end Mine
end
section
set_option maxRecDepth 100000
set_option exponentiation.threshold 3000
namespace Mine
open PySem PySem.Float64 PySem.Builtin.Math PySem.W PySem.Calls PyProof.Rows

section
variable {prog : Program} {w : World} {A : Around} {E : Value → Shared → Prop} {s : Shared} {env : Env} {h0 : Heap} {g0 : Array GenState} {o0 : OsState} {ρ ρc : List (Str × AV)} {ls : List (Addr × HV)}
  {rest : List Stmt} {P : List Addr} {T : Heap → Prop}

/-- a list's items -/
theorem iter_list [TabKeep T] {e : Expr} {a : Addr} {l : List AV} (hA : A.handled = none) (X : At P T h0 g0 o0 env ρ ls s) (he : Pur prog w A (At P T h0 g0 o0 env ρ ls) env e (.ref a)) (hl : (a, HV.list l) ∈ ls) :
    wpAny (model prog w) A (eval e env) (fun xv s₁ => At P T h0 g0 o0 env ρ ls s₁ ∧ wpAny (model prog w) A (pyIter xv) (fun it s₂ => ∃ I fp wr St, it = .ref I ∧ IterOf prog w A l.length (fun i => l.getD i .none) [a] I fp wr St s₁ s₂) E s₁) E s := by
  refine he s _ _ X fun v tk hv htk => ?_
  apply hv.e0 rfl
  obtain ⟨vals, hL, hR⟩ := X.lists a _ hl
  refine ⟨X.toks, wpAny_pyIter_list (s := { s with toks := tk }) hL ?_⟩
  have hlt : a < s.heap.objs.size := by obtain ⟨o, ho, _⟩ := hL; exact Heap.lt_size ho
  have hne : a ≠ s.heap.objs.size := Nat.ne_of_lt hlt
  have W := Walks.list (prog := prog) (w := w) hA s.heap.objs.size a hne vals.toArray
  rw [show vals.toArray.size = l.length from by rw [List.size_toArray, hR.length]] at W
  refine ⟨_, _, _, _, rfl, walks_rep W (fun i v hi h => ?_), ⟨isListIter_of (Heap.get?_push_size _ rfl), hL.push _⟩, fun b hb => ?_, fun i h st b hb => ?_, fun i h st b hb => ?_, fun i h st b hb => ?_, fun b o e => Heap.get?_push_of_some _ e, rfl, rfl, size_push_le _ _, fun b hb => ?_⟩
  · obtain ⟨a', h1, h2⟩ := hR.at' (i := i) (v := v) (by simpa using h)
    rw [List.getD_eq_getElem?_getD, h1]
    exact h2
  · obtain rfl := List.mem_singleton.mp hb
    exact Nat.le_refl _
  · simp only [List.mem_cons, List.not_mem_nil, or_false] at hb
    rcases hb with q | q <;> subst q
    · obtain ⟨o, ho, _, hd⟩ := st.1
      exact ⟨o, ho, by unfold Lasting; rw [hd]⟩
    · obtain ⟨o, ho, _, n, hd⟩ := st.2
      exact ⟨o, ho, by unfold Lasting; rw [hd]⟩
  · obtain rfl := List.mem_singleton.mp hb
    obtain ⟨o, ho, _, hd⟩ := st.1
    exact ⟨o, _, ho, hd⟩
  · simp only [List.mem_cons, List.not_mem_nil, or_false] at hb
    rcases hb with q | q <;> subst q
    · obtain ⟨o, ho, _, hd⟩ := st.1
      exact .inr ⟨o, _, ho, hd⟩
    · exact .inl (List.mem_singleton.mpr rfl)
  · simp only [List.mem_cons, List.not_mem_nil, or_false] at hb
    rcases hb with q | q <;> subst q
    · exact .inl (Nat.le_refl _)
    · obtain ⟨o, ho, _, n, hd⟩ := id hL
      exact .inr ⟨o, _, n, Heap.get?_push_of_some _ ho, hd⟩

/-- a step whose element changes nothing but the tokens -/
theorem step_pur [TabKeep T] {s₁ : Shared} {scope : Scope} {cl : List (Str × Addr)} {x : Str} {elt : Expr} {n : Nat} {av bv : Nat → AV}
    (h : ∀ C i a fp hp l, i < n → Pur prog w A (At P T s₁.heap s₁.gens s₁.os (compEnvC scope cl C env) ((x, av i) :: ρc) ((a, .acc l) :: (0, .pin fp hp) :: ls)) (compEnvC scope cl C env) elt (bv i)) :
    CompStep prog w A P T s₁ env scope cl x [] elt n av bv (fun _ => true) ρc ls := by
  intro C i s' a fp hp l E' hi _ Y
  refine wpAny_pure ⟨rfl, Y, fun _ => ?_⟩
  exact h C i a fp hp l hi s' _ _ Y fun v tk hv _ => ⟨hv, Y.toks⟩
theorem accOf_all (n : Nat) (bv : Nat → AV) : accOf n (fun _ => true) bv = (List.range n).map bv := by
  unfold accOf
  rw [List.filter_eq_self.mpr fun _ _ => rfl]
theorem range_getD {α β : Type} (l : List α) (d : α) (g : α → β) : (List.range l.length).map (fun i => g (l.getD i d)) = l.map g := by
  apply List.ext_getElem
  · simp
  · intro i h1 h2
    have : i < l.length := by simpa using h2
    simp [this]
theorem nums_getD {f : Bool} {ns : List Int} {i : Nat} (h : i < ns.length) : (nums f ns).getD i .none = nv f (ns.getD i 0) := by
  unfold nums
  simp [h]

/-- y = [xi - c for xi in x] -/
theorem s_center [TabKeep T] [TabFields P T] {Q : Flow → Shared → Prop} {x y cn nx : Str} {p1 p2 p3 px py pxx pos spos : Pos} {scope : Scope} {f : Bool} {ns : List Int} {m : Int} {a : Addr} (hA : A.handled = none) (X : At P T h0 g0 o0 env ρ ls s)
    (hnp : ∀ a fp h, (a, HV.pin fp h) ∉ ls) (hxx : ρ.lookup nx = some (.ref a)) (hdn : (nx == ("__debug__" : Str)) = false) (hl : (a, HV.list (nums f ns)) ∈ ls) (hb1 : ∀ n ∈ ns, n.natAbs ≤ 2 ^ 53) (hb2 : ∀ n ∈ ns, (n - m).natAbs ≤ 2 ^ 53) (hsz : ns.length ≤ sizeLine)
    (hcn : ρ.lookup cn = some (.fl m)) (hkc : env.kindOf cn = some .cell) (hclos : ∀ cc, env.cells.lookup cn = some cc → closureFor scope env = pure [(cn, cc)])
    (hsw : swapsWith (.ListComp (.BinOp (.Name x p1) .Sub (.Name cn p2) p3) [⟨.Name x px, .Name nx pxx, [], 0⟩] scope pos) (some (.Name y py)) spos.line env = pure true) (hy : env.kindOf y = some .local)
    (hcell : ∀ y ∈ scope.names, y.2 ≠ .cell) (hkind : scope.kind = .function) (hx : scope.names.lookup x = some .local) (hc : scope.names.lookup cn = some .free) (hnames : ∀ z ∈ scope.names, z.2 = .local → scope.names.lookup z.1 = some .local)
    (hdx : (x == ("__debug__" : Str)) = false) (hdc : (cn == ("__debug__" : Str)) = false)
    (k : ∀ D s', h0.objs.size ≤ D → At P T h0 g0 o0 env ((y, .ref D) :: ρ) ((D, .list (nums true (ns.map (· - m)))) :: ls) s' → wpAny (model prog w) A (execs rest env) Q E s') :
    wpAny (model prog w) A (execs (.Assign [.Name y py] (.ListComp (.BinOp (.Name x p1) .Sub (.Name cn p2) p3) [⟨.Name x px, .Name nx pxx, [], 0⟩] scope pos) spos :: rest) env) Q E s := by
  obtain ⟨v, hv, hld⟩ := X.here cn _ hcn
  obtain ⟨cc, hlk⟩ : ∃ cc, env.cells.lookup cn = some cc := by
    rcases hld with ⟨h, _⟩ | ⟨_, c, r, _⟩ | ⟨h, _⟩
    · rw [hkc] at h; cases h
    · exact ⟨c, r⟩
    · rw [hkc] at h; cases h
  have hne : x ≠ cn := fun q => by
    subst q
    rw [hx] at hc; cases hc
  refine s_comp (P := P) (T := T) (h0 := h0) (g0 := g0) (o0 := o0) (ρ := ρ) (ls := ls) (ρc := [(cn, .fl m)]) (keep := fun _ => true) (bv := fun i => .fl (ns.getD i 0 - m)) hsw hy hnp (by unfold nums; rw [List.length_map]; exact hsz) hcell hkind hx hnames (hclos cc hlk) (fun z c hz => ?_) (fun z b hz => ?_) (iter_list hA X (.nm hxx hdn) hl) (fun s₁ X₁ => step_pur fun C i a' fp hp l hi => ?_) fun D s' hD X' => ?_
  · rw [List.lookup_cons] at hz
    by_cases e : z = cn
    · subst e
      rw [beq_self_eq_true] at hz
      cases hz
      exact hlk
    · rw [beq_eq_false_iff_ne.mpr e] at hz
      cases hz
  · rw [List.lookup_cons] at hz
    by_cases e : z = cn
    · subst e
      rw [beq_self_eq_true] at hz
      cases hz
      exact ⟨hcn, hkc, hc, cc, by rw [List.lookup_cons, beq_self_eq_true]⟩
    · rw [beq_eq_false_iff_ne.mpr e] at hz
      cases hz
  · have hi' : i < ns.length := by simpa [nums] using hi
    rw [nums_getD hi']
    have hmem : ns.getD i 0 ∈ ns := by
      rw [List.getD_eq_getElem?_getD, List.getElem?_eq_getElem hi']
      exact List.getElem_mem hi'
    have h1 := hb1 _ hmem
    have h2 := hb2 _ hmem
    have lx : ([(x, nv f (ns.getD i 0)), (cn, AV.fl m)] : List (Str × AV)).lookup x = some (nv f (ns.getD i 0)) := by rw [List.lookup_cons, beq_self_eq_true]
    have lc : ([(x, nv f (ns.getD i 0)), (cn, AV.fl m)] : List (Str × AV)).lookup cn = some (.fl m) := by rw [List.lookup_cons, beq_eq_false_iff_ne.mpr (Ne.symm hne)]; dsimp only; rw [List.lookup_cons, beq_self_eq_true]
    refine .bin (.nm lx hdx) (.nm lc hdc) ?_
    cases f with
    | true => exact op_sub_ff h2
    | false => exact op_sub_if h1 h2
  · refine k D s' hD ?_
    have e : accOf (nums f ns).length (fun _ => true) (fun i => AV.fl (ns.getD i 0 - m)) = nums true (ns.map (· - m)) := by
      rw [accOf_all]
      unfold nums
      rw [List.length_map, List.map_map]
      exact range_getD ns 0 (fun n => AV.fl (n - m))
    rw [← e]
    exact X'.unacc
end
end Mine
end
section
set_option maxRecDepth 100000
set_option exponentiation.threshold 3000
namespace Mine
open PySem PySem.Float64 PySem.Builtin.Math PySem.W PySem.Calls PyProof.Rows

noncomputable def defAt (i : Nat) : DefRec := match (PySem.Challenge.pw_ij0063_01).main.body[i]? with
  | some (.FunctionDef name params body _ _ _ scope _ _ pos) => ⟨name, params, body, scope, pos⟩
  | _ => ⟨"", default, [], default, default⟩

theorem lookup_mem {β : Type} {x : Str} {v : β} : ∀ {l : List (Str × β)}, l.lookup x = some v → (x, v) ∈ l
  | [], h => by cases h
  | (y, u) :: r, h => by
    rw [List.lookup_cons] at h
    by_cases e : x = y
    · subst e
      rw [beq_self_eq_true] at h
      cases h
      exact List.mem_cons_self
    · rw [beq_eq_false_iff_ne.mpr e] at h
      exact List.mem_cons_of_mem _ (lookup_mem h)
section
variable {prog : Program} {w : World} {A : Around} {E : Value → Shared → Prop} {s : Shared} {P : List Addr} {T : Heap → Prop}

/-- the world behind the top, as a function's call finds it -/
structure World0 (P : List Addr) (T : Heap → Prop) (mg mb : Str → Option Value) (h : Heap) : Prop where
  g : h.Ns mainGlobals mg
  b : h.Ns builtinsNs mb
  lim : h.NoLimit
  far : topOf P ∉ P
  big : ∃ o, h.get? (topOf P) = some o
  tb : T h
  gP : mainGlobals ∉ P
  bP : builtinsNs ∉ P
  cP : cStatics ∉ P

/-- a call of a def without cells -/
theorem enter {mg mb} {a : Addr} {o : Obj} {fd : FuncData} {body : List Stmt} {vals : List Value} {kw : List (Str × Value)} {binds : List (Str × Value)} {ρ : List (Str × AV)} {ls : List (Addr × HV)} {Q : Value → Shared → Prop} [TabKeep T] (W : World0 P T mg mb s.heap)
    (hroom : A.depth < recursionLimit) (ho : s.heap.get? a = some o) (hdata : o.data = .func fd) (hcd : s.heap.CodeRec fd.code fd.qualname)
    (hbody : fd.body = .stmts body) (hbind : BindsTo s fd ⟨vals, kw⟩ binds)
    (hcell : ∀ x ∈ fd.scope.names, x.2 ≠ .cell) (hloc : ∀ x ∈ binds, fd.scope.names.lookup x.1 = some .local)
    (hclo : fd.closure = []) (hgl : fd.globals = mainGlobals) (hbl : fd.builtins = builtinsNs)
    (hρ : ∀ x av, ρ.lookup x = some av → ∃ v, binds.reverse.lookup x = some v ∧ Rep av v) (hls : ∀ b l, (b, l) ∈ ls → Holds s.heap b l)
    (k : ∀ s', Gl P (callEnv fd s.heap.objs.size a) s.heap mg mb → At P T s.heap s.gens s.os (callEnv fd s.heap.objs.size a) ρ ls s' →
      wpAny (model prog w) (A.deeper (callEnv fd s.heap.objs.size a)) (execs body (callEnv fd s.heap.objs.size a)) (fun f s' => Q (match f with | .ret v => v | _ => .none) s')
        (fun e s' => wpAny (model prog w) (A.deeper (callEnv fd s.heap.objs.size a)) (leaving (callEnv fd s.heap.objs.size a) e) (fun _ s'' => E e s'') (fun e' s'' => E e' s'') s') s')
    (hco : fd.scope.isCoroutine = false := by rfl) (hgen : fd.scope.isGenerator = false := by rfl) (hk : fd.scope.kind = .function := by rfl) :
    wpAny (model prog w) A (call (.ref a) vals kw) Q E s := by
  refine wpAny_call (codeAny_call_def hroom ho hdata W.lim hcd hbody hbind hcell hloc (fun h₀ hn hkeep => ?_) hco hgen hk)
  refine k _ ?_ ?_
  · exact ⟨by show s.heap.Ns fd.globals mg; rw [hgl]; exact W.g, by show s.heap.Ns fd.builtins mb; rw [hbl]; exact W.b, by show fd.globals ∉ P; rw [hgl]; exact W.gP, by show fd.builtins ∉ P; rw [hbl]; exact W.bP⟩
  · refine ⟨⟨hk, ⟨_, hn⟩, Nat.le_refl _, fun x c hc => ?_, fun x y c hc => ?_⟩, Grow.of fun b o _ e => hkeep b o e, fun x av hx => ?_, fun b l hb => holds_keep hkeep (hls b l hb), W.far, W.big, TabKeep.go _ _ W.tb fun b o _ e => hkeep b o e, fun h => h, rfl⟩
    · have : (callEnv fd s.heap.objs.size a).cells = [] := hclo
      rw [this] at hc; cases hc
    · have : (callEnv fd s.heap.objs.size a).cells = [] := hclo
      rw [this] at hc; cases hc
    · obtain ⟨v, h1, h2⟩ := hρ x av hx
      refine ⟨v, h2, .inl ⟨?_, _, hn, h1⟩⟩
      have hm : (x, v) ∈ binds := by
        exact List.mem_reverse.mp (lookup_mem h1)
      exact hloc _ hm
end

end Mine
end
section
set_option maxRecDepth 100000
set_option exponentiation.threshold 3000
namespace Mine
open PySem PySem.Float64 PySem.Builtin.Math PySem.W PySem.Calls PyProof.Rows
noncomputable def dSize : DefRec := defAt 25
/-- one step of _law_size -/
noncomputable def sizeTerm (cs : List Int) (ow : Int) (k : Nat) : Int := if (cs.getD k 0).fmod 3 = ow then ((cs.getD k 0).fdiv 3 - 2) ^ 2 * (k + 1) * (k + 2) else 0
noncomputable def sizeN (cs : List Int) (ow : Int) : Nat → Int
  | 0 => 0
  | k + 1 => sizeN cs ow k + sizeTerm cs ow k

section
variable {prog : Program} {w : World} {A : Around} {E : Value → Shared → Prop} {s : Shared} {env : Env} {P : List Addr} {T : Heap → Prop} {h0 : Heap} {g0 : Array GenState} {o0 : OsState}
  {Q : Flow → Shared → Prop}
theorem bits_le {b : Int} {k : Nat} (h : b.natAbs < 2 ^ k) : Builtin.Int.intBits b ≤ k := by
  unfold Builtin.Int.intBits
  split
  · omega
  · rename_i h0
    have h0' : b.natAbs ≠ 0 := by
      intro q; exact h0 (by simpa using Int.natAbs_eq_zero.mp q)
    have := (Nat.log2_lt h0').mpr h
    omega
theorem mulOk_r {a b : Int} (h : b.natAbs < 2 ^ 60) : IntMulOk a b := by
  unfold IntMulOk
  have h1 := bits_le h
  have : ¬ (Builtin.Int.intBits b > shortFactorBits) := by
    have : shortFactorBits = 64 := rfl
    omega
  simp [this]
theorem mulOk_l {a b : Int} (h : a.natAbs < 2 ^ 60) : IntMulOk a b := by
  unfold IntMulOk
  have h1 := bits_le h
  have : ¬ (Builtin.Int.intBits a > shortFactorBits) := by
    have : shortFactorBits = 64 := rfl
    omega
  simp [this]
theorem op_pow {a n : Int} (hn : 0 ≤ n) (hb : (Builtin.Int.intBits a : Int) * n ≤ 2 ^ 27) : Op2 prog w A (binaryOp .Pow) (.int a) (.int n) (.int (a ^ n.toNat)) := by
  intro va vb s Q E ha hb' h; apply ha.e1 rfl; intro _; apply hb'.e1 rfl; intro _
  exact pow_int hn hb (h _ _ (.int _ _) (Nat.le_succ _))
theorem op_sq {a : Int} (hb : a.natAbs < 2 ^ 60) : Op2 prog w A (binaryOp .Pow) (.int a) (.int 2) (.int (a ^ 2)) := op_pow (by decide) (by have := bits_le hb; omega)

theorem sub_nil {ρ : List (Str × AV)} : ∀ x av, ([] : List (Str × AV)).lookup x = some av → ρ.lookup x = some av := fun _ _ h => by cases h
theorem sub_cons {ρ ρ' : List (Str × AV)} {y : Str} {bv : AV} (h : ∀ x av, ρ'.lookup x = some av → ρ.lookup x = some av) (hy : ρ.lookup y = some bv) : ∀ x av, ((y, bv) :: ρ').lookup x = some av → ρ.lookup x = some av := by
  intro x av hx
  rw [List.lookup_cons] at hx
  by_cases e : x = y
  · subst e
    rw [beq_self_eq_true] at hx
    cases hx
    exact hy
  · rw [beq_eq_false_iff_ne.mpr e] at hx
    exact h x av hx

theorem size_body [TabKeep T] [TabFields P T] {mg mb} {cs : List Int} {ow : Int} {c : Addr} (hA : A.handled = none) (hsc : env.scope = dSize.scope) (G : Gl P env h0 mg mb) (hlen : cs.length ≤ 100) (hb : ∀ x ∈ cs, 0 ≤ x ∧ x < 15)
    (hr : mg "range" = Option.none ∧ mb "range" = some (.type "range")) (hl : mg "len" = Option.none ∧ mb "len" = some (.builtin "len"))
    (X : At P T h0 g0 o0 env [("cells", .ref c), ("owner", .int ow)] [(c, .list (cs.map .int))] s)
    (k : ∀ v s' , Rep (.int (sizeN cs ow cs.length)) v → At P T h0 g0 o0 env [] [] s' → Q (.ret v) s') : wpAny (model prog w) A (execs dSize.body env) Q E s := by
  have hk : ∀ x, env.kindOf x = dSize.scope.names.lookup x := fun x => by unfold Env.kindOf; rw [hsc]
  refine s_assign X .int (.inl ((hk _).trans rfl)) fun s₁ X₁ => ?_
  refine s_for (P := P) (T := T) (h0 := h0) (g0 := g0) (o0 := o0) (ρf := fun i => [("size", .int (sizeN cs ow i)), ("cells", .ref c), ("owner", .int ow)]) (lf := fun _ => [(c, .list (cs.map .int))]) (n := cs.length) (av := fun i => .int i) (src := []) (.inl ((hk _).trans rfl)) ?_ (fun i a fp h hm => hm) ?_ ?_
  · refine iter_range hA G X₁ ?_ (by omega) ((hk _).trans rfl) hr.1 hr.2
    exact Pur.len G ((hk _).trans rfl) hl.1 hl.2 (.nm rfl) List.mem_cons_self (by rw [List.length_map]) (by omega)
  · intro i s' fp hp E' hi X' _ _
    have hci : cs[i]? = some (cs.getD i 0) := by rw [List.getD_eq_getElem?_getD, List.getElem?_eq_getElem hi]; rfl
    have hx := hb _ (List.mem_of_getElem? hci)
    generalize hx0 : cs.getD i 0 = x at hci hx
    have hit : (cs.map AV.int)[i]? = some (.int x) := by rw [List.getElem?_map, hci]; rfl
    refine s_if X' (b := decide (x.fmod 3 = ow)) (.cmp (.bin (.item (.nm rfl) (.nm rfl) (List.mem_cons_of_mem _ List.mem_cons_self) (by omega) (by omega) (by rw [Int.toNat_natCast]; exact hit)) .int (op_mod (by decide))) (.nm rfl) ?_) ?_ ?_
    · exact op_eq
    · intro ht s₂ X₂
      have hx3 : (x.fdiv 3 - 2).natAbs ≤ 10 := by
        have h1 : x.fdiv 3 = x / 3 := by rw [Int.fdiv_eq_ediv_of_nonneg _ (by decide)]
        rw [h1]; omega
      have hit' := List.mem_cons_of_mem (0, HV.pin fp hp) (List.mem_cons_self (a := (c, HV.list (cs.map AV.int))) (l := []))
      refine s_aug (a := .int (sizeN cs ow i)) X₂ rfl (.bin (.bin (.bin (.bin (.bin (.item (.nm rfl) (.nm rfl) hit' (by omega) (by omega) (by rw [Int.toNat_natCast]; exact hit)) .int (op_fdiv (by decide) (by decide))) .int op_sub) .int (op_sq ?_)) (.bin (.nm rfl) .int op_add) (op_mul (mulOk_r ?_))) (.bin (.nm rfl) .int op_add) (op_mul (mulOk_r ?_))) op_iadd (.inl ((hk _).trans rfl)) fun s₃ X₃ => s_nil (s_nil ?_)
      · exact Nat.lt_of_le_of_lt hx3 (by decide)
      · omega
      · omega
      · have e : sizeN cs ow (i + 1) = sizeN cs ow i + (x.fdiv 3 - 2) ^ 2 * ((i : Int) + 1) * ((i : Int) + 2) := by
          show sizeN cs ow i + sizeTerm cs ow i = _
          unfold sizeTerm
          rw [hx0, if_pos (of_decide_eq_true ht)]
        show At P T h0 g0 o0 env _ _ s₃
        rw [e]
        exact X₃.weak (sub_cons (sub_cons (sub_cons sub_nil rfl) rfl) rfl) fun p hp => hp
    · intro hf s₂ X₂
      refine s_nil (s_nil ?_)
      have e : sizeN cs ow (i + 1) = sizeN cs ow i := by
        show sizeN cs ow i + sizeTerm cs ow i = _
        unfold sizeTerm
        rw [hx0, if_neg (of_decide_eq_false hf), Int.add_zero]
      show At P T h0 g0 o0 env _ _ s₂
      rw [e]
      exact X₂.weak (sub_cons (sub_cons (sub_cons sub_nil rfl) rfl) rfl) fun p hp => hp
  · intro s' X'
    exact s_ret X' (.nm rfl) fun v s₂ hv X₂ => k v s₂ hv (X₂.weak sub_nil fun p hp => by cases hp)
end
end Mine
end
section
set_option maxRecDepth 100000
set_option exponentiation.threshold 3000
namespace Mine
open PySem PySem.Float64 PySem.Builtin.Math PySem.W PySem.Calls PyProof.Rows
noncomputable def dColumn : DefRec := defAt 24
/-- one turn of the inner loop -/
noncomputable def colTerm (cs : List Int) (ow pt : Int) (k : Nat) : Int := if (cs.getD k 0).fmod 3 = ow ∧ pt ≤ k + 1 then ((cs.getD k 0).fdiv 3 - 2) * (if pt = k + 1 then -(k : Int) - 1 else 1) else 0
noncomputable def heightN (cs : List Int) (ow pt : Int) : Nat → Int
  | 0 => 0
  | k + 1 => heightN cs ow pt k + colTerm cs ow pt k
noncomputable def colN (cs : List Int) (ow turn : Int) (place : Nat) : Int := heightN cs ow ((place + turn).fmod (cs.length + 1)) cs.length
noncomputable def columnN (cs : List Int) (ow turn : Int) : List Int := (List.range (cs.length + 1)).map (colN cs ow turn)

section
variable {prog : Program} {w : World} {A : Around} {E : Value → Shared → Prop} {s : Shared} {env : Env} {P : List Addr} {T : Heap → Prop} {h0 : Heap} {g0 : Array GenState} {o0 : OsState}
  {Q : Flow → Shared → Prop}

theorem column_body [TabKeep T] [TabFields P T] {mg mb} {cs : List Int} {ow turn : Int} {c : Addr} (hA : A.handled = none) (hsc : env.scope = dColumn.scope) (G : Gl P env h0 mg mb) (hlen : cs.length ≤ 100) (hb : ∀ x ∈ cs, 0 ≤ x ∧ x < 15)
    (hr : mg "range" = Option.none ∧ mb "range" = some (.type "range")) (hl : mg "len" = Option.none ∧ mb "len" = some (.builtin "len")) (hc0 : c < h0.objs.size) (hi : interactive env = false)
    (X : At P T h0 g0 o0 env [("cells", .ref c), ("owner", .int ow), ("turn", .int turn)] [(c, .list (cs.map .int))] s)
    (k : ∀ a s' , At P T h0 g0 o0 env [] [(a, .list ((columnN cs ow turn).map .int))] s' → h0.objs.size ≤ a → Q (.ret (.ref a)) s') : wpAny (model prog w) A (execs dColumn.body env) Q E s := by
  have hk : ∀ x, env.kindOf x = dColumn.scope.names.lookup x := fun x => by unfold Env.kindOf; rw [hsc]
  refine s_assignE (P := P) (T := T) (h0 := h0) (g0 := g0) (o0 := o0) (.inl ((hk _).trans rfl)) (eval_list X .nil (by decide) fun a s₁ ha X₁ => ⟨.ref a, _, _, .ref a, X₁, fun s₂ X₂ => ?_⟩)
  have hca : c ≠ a := Nat.ne_of_lt (Nat.lt_of_lt_of_le hc0 ha)
  refine s_for (P := P) (T := T) (h0 := h0) (g0 := g0) (o0 := o0) (ρf := fun _ => [("column", .ref a), ("cells", .ref c), ("owner", .int ow), ("turn", .int turn)]) (lf := fun i => [(a, .acc (((List.range i).map (colN cs ow turn)).map .int)), (c, .list (cs.map .int))])
    (n := cs.length + 1) (av := fun i => .int i) (src := []) (.inl ((hk _).trans rfl)) ?_ (fun i a fp h hm => ?_) ?_ ?_
  · refine iter_range hA G X₂ ?_ (by omega) ((hk _).trans rfl) hr.1 hr.2
    exact .bin (Pur.len G ((hk _).trans rfl) hl.1 hl.2 (.nm rfl) (List.mem_cons_of_mem _ List.mem_cons_self) (by rw [List.length_map]) (by omega)) .int op_add
  · rcases List.mem_cons.mp hm with q | q
    · cases q
    · rcases List.mem_cons.mp q with q | q
      · cases q
      · cases q
  · intro i s' fp hp E' hin X' hpn _
    have hmem : (c, HV.list (cs.map .int)) ∈ [(0, HV.pin fp hp), (a, HV.acc (((List.range i).map (colN cs ow turn)).map .int)), (c, HV.list (cs.map .int))] := List.mem_cons_of_mem _ (List.mem_cons_of_mem _ List.mem_cons_self)
    refine s_assign X' (.bin (.bin (.nm rfl) (.nm rfl) op_add) (.bin (Pur.len G ((hk _).trans rfl) hl.1 hl.2 (.nm rfl) hmem (by rw [List.length_map]) (by omega)) .int op_add) (op_mod (by omega))) (.inl ((hk _).trans rfl)) fun s₃ X₃ => ?_
    generalize hpt : ((i : Int) + turn).fmod ((cs.length : Int) + 1) = pt at X₃
    refine s_assign X₃ .int (.inl ((hk _).trans rfl)) fun s₄ X₄ => ?_
    refine s_for (P := P) (T := T) (h0 := h0) (g0 := g0) (o0 := o0) (ρf := fun j => [("height", .int (heightN cs ow pt j)), ("point", .int pt), ("column", .ref a), ("cells", .ref c), ("owner", .int ow), ("turn", .int turn)])
      (lf := fun _ => [(0, HV.pin fp hp), (a, .acc (((List.range i).map (colN cs ow turn)).map .int)), (c, .list (cs.map .int))])
      (n := cs.length) (av := fun i => .int i) (src := []) (.inl ((hk _).trans rfl)) ?_ (fun i a fp h hm => hm) ?_ ?_
    · have X₄' := X₄.weak (ρ' := [("height", .int (heightN cs ow pt 0)), ("point", .int pt), ("column", .ref a), ("cells", .ref c), ("owner", .int ow), ("turn", .int turn)]) (ls' := _) (sub_cons (sub_cons (sub_cons (sub_cons (sub_cons (sub_cons sub_nil rfl) rfl) rfl) rfl) rfl) rfl) fun p hp => hp
      refine iter_range hA G X₄' ?_ (by omega) ((hk _).trans rfl) hr.1 hr.2
      exact Pur.len G ((hk _).trans rfl) hl.1 hl.2 (.nm rfl) hmem (by rw [List.length_map]) (by omega)
    · intro j s₅ fp' hp' E'' hj X₅ _ _
      have hmem' : (c, HV.list (cs.map .int)) ∈ [(0, HV.pin fp' hp'), (0, HV.pin fp hp), (a, HV.acc (((List.range i).map (colN cs ow turn)).map .int)), (c, HV.list (cs.map .int))] := List.mem_cons_of_mem _ hmem
      have hci : cs[j]? = some (cs.getD j 0) := by rw [List.getD_eq_getElem?_getD, List.getElem?_eq_getElem hj]; rfl
      have hx := hb _ (List.mem_of_getElem? hci)
      generalize hx0 : cs.getD j 0 = x at hci hx
      have hit : (cs.map AV.int)[j]? = some (.int x) := by rw [List.getElem?_map, hci]; rfl
      refine s_if X₅ (b := decide (x.fmod 3 = ow) && decide (pt ≤ j + 1)) (.and2 (.cmp (.bin (.item (.nm rfl) (.nm rfl) hmem' (by omega) (by omega) (by rw [Int.toNat_natCast]; exact hit)) .int (op_mod (by decide))) (.nm rfl) op_eq) (.cmp (.nm rfl) (.bin (.nm rfl) .int op_add) op_le)) ?_ ?_
      · intro ht s₆ X₆
        have hx3 : (x.fdiv 3 - 2).natAbs ≤ 10 := by
          have h1 : x.fdiv 3 = x / 3 := by rw [Int.fdiv_eq_ediv_of_nonneg _ (by decide)]
          rw [h1]; omega
        rw [Bool.and_eq_true, decide_eq_true_eq, decide_eq_true_eq] at ht
        refine s_aug (a := .int (heightN cs ow pt j)) X₆ rfl (.bin (.bin (.bin (.item (.nm rfl) (.nm rfl) hmem' (by omega) (by omega) (by rw [Int.toNat_natCast]; exact hit)) .int (op_fdiv (by decide) (by decide))) .int op_sub)
          (.ite (b := decide (pt = j + 1)) (av := .int (if pt = j + 1 then -(j : Int) - 1 else 1)) (.cmp (.nm rfl) (.bin (.nm rfl) .int op_add) op_eq) (fun hb => ?_) fun hb => ?_) (op_mul (mulOk_l ?_))) op_iadd (.inl ((hk _).trans rfl)) fun s₇ X₇ => s_nil (s_nil ?_)
        · rw [if_pos (of_decide_eq_true hb)]
          exact .bin (.neg (.nm rfl)) .int op_sub
        · rw [if_neg (of_decide_eq_false hb)]
          exact .int
        · exact Nat.lt_of_le_of_lt hx3 (by decide)
        · have e : heightN cs ow pt (j + 1) = heightN cs ow pt j + (x.fdiv 3 - 2) * (if pt = j + 1 then -(j : Int) - 1 else 1) := by
            show heightN cs ow pt j + colTerm cs ow pt j = _
            unfold colTerm
            rw [hx0, if_pos ht]
          show At P T h0 g0 o0 env _ _ s₇
          rw [e]
          exact X₇.weak (sub_cons (sub_cons (sub_cons (sub_cons (sub_cons (sub_cons sub_nil rfl) rfl) rfl) rfl) rfl) rfl) fun p hp => hp
      · intro hf s₆ X₆
        refine s_nil (s_nil ?_)
        have e : heightN cs ow pt (j + 1) = heightN cs ow pt j := by
          show heightN cs ow pt j + colTerm cs ow pt j = _
          unfold colTerm
          rw [hx0, if_neg, Int.add_zero]
          intro h
          rw [decide_eq_true h.1, decide_eq_true h.2] at hf
          cases hf
        show At P T h0 g0 o0 env _ _ s₆
        rw [e]
        exact X₆.weak (sub_cons (sub_cons (sub_cons (sub_cons (sub_cons (sub_cons sub_nil rfl) rfl) rfl) rfl) rfl) rfl) fun p hp => hp
    · intro s₅ X₅
      have X₅' := X₅.weak (ρ' := [("height", .int (heightN cs ow pt cs.length)), ("column", .ref a), ("cells", .ref c), ("owner", .int ow), ("turn", .int turn)]) (ls' := [(a, .acc (((List.range i).map (colN cs ow turn)).map .int)), (0, HV.pin fp hp), (c, .list (cs.map .int))]) (sub_cons (sub_cons (sub_cons (sub_cons (sub_cons sub_nil rfl) rfl) rfl) rfl) rfl) (fun p hp => by simp only [List.mem_cons, List.not_mem_nil, or_false] at hp ⊢; rcases hp with q | q | q <;> simp [q])
      refine s_append X₅' rfl (by decide) (.nm rfl) ha (by rw [List.length_map, List.length_map, List.length_range]; have : sizeLine = (2 ^ 24) := rfl; omega) ?_ ?_ ?_ (fun s₆ X₆ => s_nil ?_) rfl rfl rfl rfl hi
      · intro b l' hm
        rcases List.mem_cons.mp hm with q | q
        · cases q
        · obtain rfl := (Prod.mk.inj (List.mem_singleton.mp q)).1
          exact hca
      · intro b l' hm
        rcases List.mem_cons.mp hm with q | q
        · cases q
        · cases List.mem_singleton.mp q
      · intro b fp₂ h₂ hm d hd
        rcases List.mem_cons.mp hm with q | q
        · cases q
          rcases hpn d hd with h | h
          · cases h
          · exact .inr h
        · cases List.mem_singleton.mp q
      · show At P T h0 g0 o0 env _ _ s₆
        have e : ((List.range (i + 1)).map (colN cs ow turn)).map AV.int = ((List.range i).map (colN cs ow turn)).map AV.int ++ [.int (heightN cs ow pt cs.length)] := by
          rw [List.range_succ, List.map_append, List.map_append]
          show _ ++ [AV.int (colN cs ow turn i)] = _
          unfold colN
          rw [hpt]
        rw [e]
        exact X₆.weak (sub_cons (sub_cons (sub_cons (sub_cons sub_nil rfl) rfl) rfl) rfl) fun p hp => by
          simp only [List.mem_cons, List.not_mem_nil, or_false] at hp ⊢
          rcases hp with q | q | q <;> simp [q]
  · intro s' X'
    exact s_ret X' (.nm rfl) fun v s₂ hv X₂ => by
      apply hv.e0 rfl
      exact k a s₂ (X₂.unacc.weak sub_nil fun p hp => by
        obtain rfl := List.mem_singleton.mp hp
        exact List.mem_cons_self) ha
end
end Mine
end
section
set_option maxRecDepth 100000
set_option exponentiation.threshold 3000
namespace Mine
open PySem PySem.Float64 PySem.Builtin.Math PySem.W PySem.Calls PyProof.Rows

section
variable {prog : Program} {w : World} {A : Around} {E : Value → Shared → Prop} {s : Shared} {P : List Addr} {T : Heap → Prop}

/-- a call of a def with cells -/
theorem enterC {mg mb} {a : Addr} {o : Obj} {fd : FuncData} {body : List Stmt} {vals : List Value} {kw : List (Str × Value)} {binds : List (Str × Value)} {ρ : List (Str × AV)} {ls : List (Addr × HV)} {Q : Value → Shared → Prop} [TabKeep T] (W : World0 P T mg mb s.heap)
    (hroom : A.depth < recursionLimit) (ho : s.heap.get? a = some o) (hdata : o.data = .func fd) (hcd : s.heap.CodeRec fd.code fd.qualname)
    (hbody : fd.body = .stmts body) (hbind : BindsTo s fd ⟨vals, kw⟩ binds) (hloc : ∀ x ∈ binds, fd.scope.names.lookup x.1 = some .local)
    (hclo : fd.closure = []) (hgl : fd.globals = mainGlobals) (hbl : fd.builtins = builtinsNs)
    (hρ : ∀ x av, ρ.lookup x = some av → ∃ v, fd.scope.names.lookup x = some .local ∧ bindL (fun y => fd.scope.names.lookup y) binds (fun _ => none) x = some v ∧ Rep av v) (hls : ∀ b l, (b, l) ∈ ls → Holds s.heap b l)
    (k : ∀ s', Gl P (callEnvC fd s.heap.objs.size a) s.heap mg mb → At P T s.heap s.gens s.os (callEnvC fd s.heap.objs.size a) ρ ls s' →
      wpAny (model prog w) (A.deeper (callEnvC fd s.heap.objs.size a)) (execs body (callEnvC fd s.heap.objs.size a)) (fun f s' => Q (match f with | .ret v => v | _ => .none) s')
        (fun e s' => wpAny (model prog w) (A.deeper (callEnvC fd s.heap.objs.size a)) (leaving (callEnvC fd s.heap.objs.size a) e) (fun _ s'' => E e s'') (fun e' s'' => E e' s'') s') s')
    (hco : fd.scope.isCoroutine = false := by rfl) (hgen : fd.scope.isGenerator = false := by rfl) (hk : fd.scope.kind = .function := by rfl) :
    wpAny (model prog w) A (call (.ref a) vals kw) Q E s := by
  refine wpAny_call (codeAny_call_function hroom ho hdata hco hgen hbody hcd (hbind _ _ _ _ ?_))
  rw [hclo]
  refine wpAny_newFunctionEnv_cells hk (fun x hx => .inl (hloc x hx)) fun env he s' x => ?_
  have he' : env = callEnvC fd s.heap.objs.size a := he
  subst he'
  refine ⟨W.lim.keeps x.toInCall.keep, codeAny_func (k s' ?_ ?_)⟩
  · exact ⟨by show s.heap.Ns fd.globals mg; rw [hgl]; exact W.g, by show s.heap.Ns fd.builtins mb; rw [hbl]; exact W.b, by show fd.globals ∉ P; rw [hgl]; exact W.gP, by show fd.builtins ∉ P; rw [hbl]; exact W.bP⟩
  · obtain ⟨h', tk, hs, -⟩ := x.done
    refine ⟨⟨hk, ⟨_, x.toInCall.ns⟩, x.toInCall.fresh, fun y c hc => ?_, fun y z c hy hz => ?_⟩, Grow.of fun b o _ e => x.toInCall.keep b o e, fun y av hy => ?_, fun b l hb => holds_keep x.toInCall.keep (hls b l hb), W.far, W.big, TabKeep.go _ _ W.tb fun b o _ e => x.toInCall.keep b o e, ?_, ?_⟩
    · have hm := x.above y c (lookup_mem hc)
      exact ⟨fun _ => Nat.le_trans x.toInCall.fresh (Nat.le_of_lt hm), Nat.ne_of_gt hm, _, x.cell y c hc⟩
    · exact name_of_addr x.apart (lookup_mem hy) (lookup_mem hz)
    · obtain ⟨v, h1, h2, h3⟩ := hρ y av hy
      exact ⟨v, h3, .inl ⟨h1, _, x.toInCall.ns, h2⟩⟩
    · rw [hs]; exact fun h => h
    · rw [hs]
end
end Mine
end
section
set_option maxRecDepth 100000
set_option exponentiation.threshold 3000
namespace Mine
open PySem PySem.Float64 PySem.Builtin.Math PySem.W PySem.Calls PyProof.Rows

/-- short lists of small numbers -/
structure Sm (l : List Int) : Prop where
  len : l.length ≤ 64
  val : ∀ n ∈ l, n.natAbs ≤ 2 ^ 20
theorem sum_le {B : Nat} : ∀ (l : List Int), (∀ n ∈ l, n.natAbs ≤ B) → l.sum.natAbs ≤ l.length * B
  | [], _ => by simp
  | n :: l, h => by
    have h1 := h n List.mem_cons_self
    have h2 := sum_le l fun m hm => h m (List.mem_cons_of_mem _ hm)
    have h3 : (n + l.sum).natAbs ≤ n.natAbs + l.sum.natAbs := Int.natAbs_add_le _ _
    rw [List.sum_cons, List.length_cons, Nat.add_mul, Nat.one_mul]
    omega
theorem Sm.take {l : List Int} (h : Sm l) (i : Nat) : (l.take i).sum.natAbs ≤ 2 ^ 53 := by
  have h1 := sum_le (B := 2 ^ 20) (l.take i) fun n hn => h.val n (List.mem_of_mem_take hn)
  have h2 : (l.take i).length ≤ 64 := Nat.le_trans (List.length_take_le' ..) h.len
  have h3 := Nat.mul_le_mul_right (2 ^ 20) h2
  omega
theorem Sm.val53 {l : List Int} (h : Sm l) : ∀ n ∈ l, n.natAbs ≤ 2 ^ 53 := fun n hn => Nat.le_trans (h.val n hn) (by decide)
theorem Sm.sub53 {l : List Int} (h : Sm l) {m : Int} (hm : m.natAbs ≤ 2 ^ 20) : ∀ n ∈ l, (n - m).natAbs ≤ 2 ^ 53 := fun n hn => by
  have := h.val n hn
  omega
theorem dot_ok {as bs : List Int} (hl : as.length ≤ 64) (ha : ∀ n ∈ as, n.natAbs ≤ 2 ^ 21) (hb : ∀ n ∈ bs, n.natAbs ≤ 2 ^ 21) : DotOk as bs := by
  have hp : ∀ a b : Int, a.natAbs ≤ 2 ^ 21 → b.natAbs ≤ 2 ^ 21 → (a * b).natAbs ≤ 2 ^ 42 := fun a b h1 h2 => by
    rw [Int.natAbs_mul]
    exact Nat.le_trans (Nat.mul_le_mul h1 h2) (by decide)
  refine ⟨fun i => ?_, fun i a b e1 e2 => Nat.le_trans (hp a b (ha a (List.mem_of_getElem? e1)) (hb b (List.mem_of_getElem? e2))) (by decide)⟩
  unfold dotN
  have h1 := sum_le (B := 2 ^ 42) ((List.zipWith (· * ·) as bs).take i) fun n hn => by
    have := List.mem_of_mem_take hn
    rw [← List.map_uncurry_zip_eq_zipWith] at this
    obtain ⟨⟨a, b⟩, h1, rfl⟩ := List.mem_map.mp this
    exact hp a b (ha a (List.of_mem_zip h1).1) (hb b (List.of_mem_zip h1).2)
  have h2 : ((List.zipWith (· * ·) as bs).take i).length ≤ 64 := by
    rw [List.length_take, List.length_zipWith]
    omega
  have h3 := Nat.mul_le_mul_right (2 ^ 42) h2
  omega
theorem Sm.dot {xs ys : List Int} (hx : Sm xs) (hy : Sm ys) {m m' : Int} (hm : m.natAbs ≤ 2 ^ 20) (hm' : m'.natAbs ≤ 2 ^ 20) : DotOk (xs.map (· - m)) (ys.map (· - m')) := by
  refine dot_ok (by rw [List.length_map]; exact hx.len) (fun n hn => ?_) fun n hn => ?_
  · obtain ⟨a, h1, rfl⟩ := List.mem_map.mp hn
    have := hx.val a h1
    show (a - m).natAbs ≤ _
    omega
  · obtain ⟨a, h1, rfl⟩ := List.mem_map.mp hn
    have := hy.val a h1
    show (a - m').natAbs ≤ _
    omega

section
variable {prog : Program} {w : World} {A : Around} {E : Value → Shared → Prop} {s : Shared} {env : Env} {P : List Addr} {T : Heap → Prop} {h0 : Heap} {g0 : Array GenState} {o0 : OsState} {ρ : List (Str × AV)} {ls : List (Addr × HV)}
  {Q : Flow → Shared → Prop} {rest : List Stmt}
theorem s_doc {x : Str} {kd : Nat} {p pos : Pos} (X : At P T h0 g0 o0 env ρ ls s) (hi : interactive env = false) (k : ∀ s', At P T h0 g0 o0 env ρ ls s' → wpAny (model prog w) A (execs rest env) Q E s') :
    wpAny (model prog w) A (execs (.Expr (.Constant (.str x) kd p) pos :: rest) env) Q E s :=
  wpAny_execs_cons (wpAny_Expr_any (PySem.wpAny_Constant_str (k _ X.toks)) hi rfl)
/-- a test that fails -/
theorem s_skip {test : Expr} {body : List Stmt} {pos : Pos} {b : Bool} (X : At P T h0 g0 o0 env ρ ls s) (ht : Tst prog w A (At P T h0 g0 o0 env ρ ls) env test b) (hb : b = false)
    (k : ∀ s', At P T h0 g0 o0 env ρ ls s' → wpAny (model prog w) A (execs rest env) Q E s') :
    wpAny (model prog w) A (execs (.If test body [] pos :: rest) env) Q E s := by
  subst hb
  exact s_if X ht (fun h => by cases h) fun _ s' X' => s_nil (k s' X')
end

noncomputable def dCov : DefRec := defAt 19
structure GlF (mg mb : Str → Option Value) : Prop where
  len : mg "len" = none ∧ mb "len" = some (.builtin "len")
  range : mg "range" = none ∧ mb "range" = some (.type "range")
  fsum : mg "fsum" = some (.builtin "math.fsum")
  sumprod : mg "sumprod" = some (.builtin "math.sumprod")

section
variable {prog : Program} {w : World} {A : Around} {E : Value → Shared → Prop} {s : Shared} {env : Env} {cs : List (Addr × Addr)} {h0 : Heap} {g0 : Array GenState} {o0 : OsState}
  {Q : Flow → Shared → Prop}
theorem cov_body {mg mb} {xs ys : List Int} {f f' : Bool} {a b c Pt : Addr} {m m' : Int} (hA : A.handled = none) (hroom : A.depth < recursionLimit) (hsc : env.scope = dCov.scope) (hfn : env.func ≠ none) (hcells : ∃ cx cy, env.cells.lookup ("xbar" : Str) = some cx ∧ env.cells.lookup ("ybar" : Str) = some cy)
    (hcs : CsOk cs) (G : Gl (tabs cs) env h0 mg mb) (B : Bm (tabs cs) env h0 mg) (gl : GlF mg mb) (hm : (c, Pt) ∈ cs) (hcode : env.code = .ref c) (hlim : h0.NoLimit) (hcP : cStatics ∉ tabs cs) (hi : interactive env = false)
    (hx : Sm xs) (hy : Sm ys) (hlen : ys.length = xs.length) (h2 : 2 ≤ xs.length) (hmx : xs.sum = m * xs.length) (hmy : ys.sum = m' * xs.length) (hm1 : m.natAbs ≤ 2 ^ 20) (hm2 : m'.natAbs ≤ 2 ^ 20)
    (X : At (tabs cs) (TT cs) h0 g0 o0 env [("x", .ref a), ("y", .ref b)] [(a, .list (nums f xs)), (b, .list (nums f' ys))] s)
    (k : ∀ v s' , Rep (.q (dotN (xs.map (· - m)) (ys.map (· - m')) xs.length) (xs.length - 1)) v → At (tabs cs) (TT cs) h0 g0 o0 env [] [] s' → Q (.ret v) s') : wpAny (model prog w) A (execs dCov.body env) Q E s := by
  have hk : ∀ x, env.kindOf x = dCov.scope.names.lookup x := fun x => by unfold Env.kindOf; rw [hsc]
  obtain ⟨cx, cy, hcx, hcy⟩ := hcells
  have hl := hx.len
  have ma : ∀ {r : List (Addr × HV)}, (a, HV.list (nums f xs)) ∈ (a, HV.list (nums f xs)) :: r := List.mem_cons_self
  have mb' : (b, HV.list (nums f' ys)) ∈ [(a, HV.list (nums f xs)), (b, HV.list (nums f' ys))] := List.mem_cons_of_mem _ List.mem_cons_self
  refine s_doc X hi fun s₁ X₁ => ?_
  refine s_assign X₁ (.len G ((hk _).trans rfl) gl.len.1 gl.len.2 (.nm rfl) ma (by unfold nums; rw [List.length_map]) (by omega)) (.inl ((hk _).trans rfl)) fun s₂ X₂ => ?_
  refine s_skip X₂ (.cmp (.len G ((hk _).trans rfl) gl.len.1 gl.len.2 (.nm rfl) mb' (by unfold nums; rw [List.length_map, hlen]) (by omega)) (.nm rfl) op_ne) (by simp) fun s₃ X₃ => ?_
  refine s_skip X₃ (.cmp (.nm rfl) .int op_lt) (by simp; omega) fun s₄ X₄ => ?_
  have hN : ((xs.length : Int)).natAbs ≤ 2 ^ 53 := by omega
  refine s_assignE (P := tabs cs) (T := TT cs) (h0 := h0) (g0 := g0) (o0 := o0) (.inr ⟨(hk _).trans rfl, cx, hcx, hfn⟩) (wpAny_BinOp (eval_fsum hA G ((hk _).trans rfl) gl.fsum X₄ rfl (by decide) ma hx.take hx.val53 fun v s₅ hv X₅ => Pur.nm rfl (by decide) _ _ _ X₅ fun u tk hu _ =>
    op_div_fi (q := m) hA hmx (by omega) hN (by omega) _ _ _ _ _ hv hu fun v' tk' hv' _ => ⟨_, _, _, hv', X₅.toks, fun s₆ X₆ => ?_⟩))
  refine s_assignE (P := tabs cs) (T := TT cs) (h0 := h0) (g0 := g0) (o0 := o0) (.inr ⟨(hk _).trans rfl, cy, hcy, hfn⟩) (wpAny_BinOp (eval_fsum hA G ((hk _).trans rfl) gl.fsum X₆ rfl (by decide) mb' hy.take hy.val53 fun v s₅ hv X₅ => Pur.nm rfl (by decide) _ _ _ X₅ fun u tk hu _ =>
    op_div_fi (q := m') hA hmy (by omega) hN (by omega) _ _ _ _ _ hv hu fun v' tk' hv' _ => ⟨_, _, _, hv', X₅.toks, fun s₆ X₆ => ?_⟩))
  refine s_assignE (P := tabs cs) (T := TT cs) (h0 := h0) (g0 := g0) (o0 := o0) (.inl ((hk _).trans rfl)) (eval_sumprod_gens (ls := [(a, HV.list (nums f xs)), (b, HV.list (nums f' ys))]) (m := m) (m' := m') hA hroom hcs G B hm hcode ((hk _).trans rfl) gl.sumprod X₆ (fun a fp h hm => ?_) hlim hcP (by decide) rfl (by decide) ma hx.val53 (hx.sub53 hm1) rfl (by decide) mb' hy.val53 (hy.sub53 hm2)
    rfl ((hk _).trans rfl) rfl ((hk _).trans rfl) (fun cc h => closure_one h rfl) (fun cc h => closure_one h rfl) rfl (by decide) rfl rfl rfl rfl rfl (by decide) rfl rfl rfl rfl (by decide) (by decide) (by decide) (by decide) (by decide) (by decide) hlen (hx.dot hy hm1 hm2) (by omega) fun v s₇ hv X₇ => ⟨_, _, _, hv, X₇, fun s₈ X₈ => ?_⟩)
  · rcases List.mem_cons.mp hm with q | q
    · cases q
    · cases List.mem_singleton.mp q
  · refine wpAny_execs_cons (wpAny_Return_some (wpAny_BinOp (Pur.nm rfl (by decide) _ _ _ X₈ fun va tk hva _ => ?_)))
    refine wpAny_BinOp (Pur.nm rfl (by decide) _ _ _ X₈.toks fun vn tk1 hvn _ => wpAny_Constant_int ?_)
    cases hvn with | int _ t1 =>
    refine sub_int ?_
    exact op_divq_fi hA (by omega) (by omega) _ _ _ _ _ (Nat.succ_pos _) hva (.int _ _) fun v tk' hv _ => k v _ hv (X₈.toks.weak sub_nil fun p hp => by cases hp)
end
end Mine
end
section
set_option maxRecDepth 100000
set_option exponentiation.threshold 3000
namespace Mine
open PySem PySem.Float64 PySem.Builtin.Math PySem.W PySem.Calls PyProof.Rows

section
variable {prog : Program} {w : World} {A : Around} {E : Value → Shared → Prop} {s : Shared} {env : Env} {C : Shared → Prop} {h0 : Heap} {g0 : Array GenState} {o0 : OsState} {ρ ρc : List (Str × AV)} {ls : List (Addr × HV)}
  {rest : List Stmt} {P : List Addr} {T : Heap → Prop}

theorem Tst.name_bool {e : Expr} {b : Bool} (h : Pur prog w A C env e (.bool b)) (hp : ∀ whole : Sem Value, isTrue e env whole = (do let v ← whole; standAt e.pos; holding [v] (truthy v)) := by intro _; rfl) : Tst prog w A C env e b := by
  intro s Q E hC k
  refine isTrue_plain (h s _ _ hC fun v tk hv htk => ?_) (hp _)
  apply hv.e0 rfl
  exact wpAny_truthy_bool (k tk htk)
theorem Tst.not {e : Expr} {pos : Pos} {b : Bool} (h : Tst prog w A C env e b) : Tst prog w A C env (.UnaryOp .Not e pos) (!b) := by
  intro s Q E hC k
  exact isTrue_not (h s _ _ hC fun tk htk => k tk htk)

/-- sumprod(x, y) over lists -/
theorem eval_sumprod_lists [TabKeep T] {mg mb} {nx ny : Str} {p px py pos : Pos} {a b : Addr} {f : Bool} {xs ys : List Int} {Q : Value → Shared → Prop} (hA : A.handled = none) (G : Gl P env h0 mg mb) (hk : env.kindOf "sumprod" = some .globalImplicit) (hg : mg "sumprod" = some (.builtin "math.sumprod"))
    (X : At P T h0 g0 o0 env ρ ls s) (hx : ρ.lookup nx = some (.ref a)) (hdx : (nx == ("__debug__" : Str)) = false) (hlx : (a, HV.list (nums f xs)) ∈ ls) (hy : ρ.lookup ny = some (.ref b)) (hdy : (ny == ("__debug__" : Str)) = false) (hly : (b, HV.list (nums f ys)) ∈ ls)
    (hbx : ∀ n ∈ xs, n.natAbs ≤ 2 ^ 53) (hby : ∀ n ∈ ys, n.natAbs ≤ 2 ^ 53) (hlen : ys.length = xs.length) (hd : DotOk xs ys) (hn : 0 < xs.length)
    (k : ∀ v s', Rep (nv f (dotN xs ys xs.length)) v → At P T h0 g0 o0 env ρ ls s' → 0 < s'.toks → Q v s')
    (hst : starEach [.Name nx px, .Name ny py] env = (false, eval (.Name nx px) env) :: starEach [.Name ny py] env := by rfl) (hst' : starEach [.Name ny py] env = (false, eval (.Name ny py) env) :: starEach [] env := by rfl)
    (hpl : (backTo pos (starEach [.Name ny py] env)).any (·.1) = false := by rfl) :
    wpAny (model prog w) A (eval (.Call (.Name "sumprod" p) [.Name nx px, .Name ny py] [] pos) env) Q E s := by
  refine wpAny_Call_NameR (Pur.glob G hk hg rfl s _ _ X fun f' tk hf htk => ?_)
  apply hf.e0 rfl
  refine PyProof.Rows.callWith_builtin1 (PurL.cons (.nm hx hdx) (.cons (.nm hy hdy) .nil hst') hst _ _ _ _ X.toks fun vs tk' hvs htk' => ?_) hst hpl
  cases hvs with
  | cons h1 h2 =>
    cases h2 with
    | cons h2 h3 =>
      apply h3.nilE; apply h1.e0 rfl; apply h2.e0 rfl
      obtain ⟨vx, hLx, hRx⟩ := X.lists a _ hlx
      obtain ⟨vy, hLy, hRy⟩ := X.lists b _ hly
      cases f with
      | true => exact call_sumprod_lists (s := { s with toks := tk' }) hA hLx hLy (nums_numsE hRx hbx) (nums_numsE hRy hby) hlen (nums_fl hRx) hd hn fun b t h' tk'' hF hkp ht => k _ _ (.fl _ _ _ hF) (X.keeps hkp rfl rfl) ht
      | false => exact call_sumprod_ints (s := { s with toks := tk' }) hA hLx hLy (nums_numsE hRx hbx) (nums_numsE hRy hby) (nums_in hRx) (nums_in hRy) hlen hd hbx hby hn fun t h' tk'' hkp ht => k _ _ (.int _ t) (X.keeps hkp rfl rfl) ht
end
end Mine
end
section
set_option maxRecDepth 100000
set_option exponentiation.threshold 3000
namespace Mine
open PySem PySem.Float64 PySem.Builtin.Math PySem.W PySem.Calls PyProof.Rows

section
variable {prog : Program} {w : World} {A : Around} {E : Value → Shared → Prop} {s : Shared} {env : Env} {h0 : Heap} {g0 : Array GenState} {o0 : OsState} {ρ ρc : List (Str × AV)} {ls : List (Addr × HV)}
  {rest : List Stmt} {P : List Addr} {T : Heap → Prop} {mg mb : Str → Option Value}

theorem World0.grow {h h' : Heap} (W : World0 P T mg mb h) (hg : Grow P h h') (hT : T h') : World0 P T mg mb h' := by
  refine ⟨hg.ns W.gP W.g, hg.ns W.bP W.b, ?_, W.far, ?_, hT, W.gP, W.bP, W.cP⟩
  · obtain ⟨mc, h1, h2⟩ := W.lim
    exact ⟨mc, hg.ns W.cP h1, h2⟩
  · obtain ⟨o, e⟩ := W.big
    exact let ⟨o', e', _⟩ := hg _ o W.far e; ⟨o', e'⟩
theorem At.world (W : World0 P T mg mb h0) (X : At P T h0 g0 o0 env ρ ls s) : World0 P T mg mb s.heap := W.grow X.grow X.tb

/-- what a call leaves behind -/
structure After (P : List Addr) (T : Heap → Prop) (s s' : Shared) : Prop where
  grow : Grow P s.heap s'.heap
  tb : T s'.heap
  gens : BareG s.gens s'.gens
  os : s'.os = s.os
theorem At.call [TabKeep T] [TabFields P T] {s' : Shared} (X : At P T h0 g0 o0 env ρ ls s) (a : After P T s s') (hp : ∀ a fp h, (a, HV.pin fp h) ∈ ls → ∀ b ∈ fp, b ∉ P) : At P T h0 g0 o0 env ρ ls s' := X.after a.grow a.tb a.gens a.os hp
theorem At.out {s₀ : Shared} (X : At P T s₀.heap s₀.gens s₀.os env ρ ls s) : After P T s₀ s := ⟨X.grow, X.tb, X.gens, X.os⟩

/-- f(a, ..), f a def of the top -/
theorem eval_call {x : Str} {p pos : Pos} {f : Addr} {o : Obj} {fd : FuncData} {e : Expr} {es : List Expr} {avs : List AV} {Q : Value → Shared → Prop} (G : Gl P env h0 mg mb) (hk : env.kindOf x = some .globalImplicit) (hg : mg x = some (.ref f)) (hd : (x == ("__debug__" : Str)) = false)
    (X : At P T h0 g0 o0 env ρ ls s) (ho : s.heap.get? f = some o) (hdat : o.data = .func fd) (hes : PurL prog w A (At P T h0 g0 o0 env ρ ls) env (e :: es) avs)
    (h : ∀ vs tk, Reps avs vs → wpAny (model prog w) A (PySem.call (.ref f) vs) Q E { s with toks := tk })
    (he : starEach (e :: es) env = (false, eval e env) :: starEach es env := by rfl) :
    wpAny (model prog w) A (eval (.Call (.Name x p) (e :: es) [] pos) env) Q E s := by
  refine wpAny_Call_NameR (Pur.glob G hk hg hd s _ _ X fun v tk hv htk => ?_)
  apply hv.e0 rfl
  refine callWith_meth (h₀ := s.heap) (first := []) hdat ho (hes _ _ _ _ X.toks fun vs tk' hvs _ => ⟨fun _ _ e => e, ?_⟩) he
  rw [List.nil_append]
  exact h vs tk' hvs
end
end Mine
end
section
set_option maxRecDepth 100000
set_option maxHeartbeats 400000
namespace Mine
open PySem PySem.W PySem.Calls PyProof.Rows

/-- all that the top's objects say of a class under tuple with a __new__ of its own -/
structure Named (K : Frag) (C S F : Addr) : Prop where
  obj : ∃ oc od cd sl, K.lookup C = some ⟨oc, od, .cls cd, sl⟩ ∧ sl.toList[4]? = some (some .none) ∧ cd.mro = [.ref C, .type "tuple", .type "object"] ∧ cd.hasDel = false
  call : specialIn K (.ref C) "__call__" = some (some (.builtin "type.__call__"))
  typ : instIn K (.ref C) (.type "type") = some true
  reads : readsIn K C (.type "type") = true
  new : findCls K (.ref C) (.type "type") "__new__" = some (.get (.builtin "staticmethod.__get__") (.ref S) .none (.ref C))
  sm : recIn K S "staticmethod" = some [.ref F]
  init : findIn K (.ref C) "__init__" = some (some (.builtin "object.__init__"))
section
variable {prog : Program} {w : World} {A : Around} {E : Value → Shared → Prop} {s : Shared} {K : Frag} {C S F : Addr}

theorem named_madeBy {M : Model} {h : Heap} (X : K.In h) (N : Named K C S F) : Looks M h (Bind.madeBy (.ref C)) none := by
  obtain ⟨oc, od, cd, sl, ho, h4, hm, _⟩ := N.obj
  have hc : clsIn K C = some cd := by unfold clsIn; rw [ho]
  have L : Looks M h (mroOf (.ref C)) cd.mro := (looks_clsIn X hc).andThen .now
  intro A Q E s k q
  unfold Bind.madeBy
  refine wpAny_bind (L A _ E s k ?_)
  rw [hm, List.forIn_cons]
  refine wpAny_bind (wpAny_bind (wpAny_bind (wpAny_bind (wpAny_loadPart (k _ _ (X _ _ ho)) (wpAny_pure ?_)))))
  dsimp only
  rw [← Array.getElem?_toList, h4]
  exact wpAny_pure (wpAny_pure (wpAny_pure q))

theorem call_named {kw : List (Str × Value)} {Q : Value → Shared → Prop} (X : K.In s.heap) (N : Named K C S F)
    (h : ∀ (A' : Around) (tk : Nat), A'.handled = A.handled → A'.depth = A.depth + 1 → A'.frames = A.frames → wpAny (model prog w) A' (PySem.call (.ref F) [.ref C] kw) (fun v s' => ∃ x ox, v = .ref x ∧ s'.heap.get? x = some ox ∧ ox.cls = .ref C ∧ K.In s'.heap ∧ Q v s') E { s with toks := tk }) :
    wpAny (model prog w) A (PySem.call (.ref C) [] kw) Q E s := by
  obtain ⟨oc, od, cd, sl, ho, h4, hm, hdel⟩ := id N.obj
  have hcd : clsIn K C = some cd := by unfold clsIn; rw [ho]
  obtain ⟨hh, g, d, t, os⟩ := s
  refine wpAny_call (codeAny_of_tree ?_)
  show wpAny _ _ (callAny (.ref C) _) _ _ _
  refine nd_load (X _ _ ho) ?_
  show wpAny _ _ (callAny.viaDunder (.ref C) _) _ _ _
  unfold callAny.viaDunder
  refine wpAny_bind ((looks_specialIn X N.call).at ?_)
  dsimp only
  rw [tc_bind]
  refine wpAny_bind (wpAny_pure (wpAny_bind (wpAny_pure ?_)))
  refine wpAny_pure (a := Fin.again (.call (.builtin "type.__call__") ⟨[.ref C], kw⟩)) (And.intro rfl ?_)
  refine codeAny_call_builtin_at (Code.quiet_builtin _ (by decide +kernel)) entry_typeCall (check_slot tc_kind tc_split (looks_instIn X N.typ) (tc_args _ _ _) ?_)
  unfold Builtin.«type.__call__»
  have hmro : Looks (model prog w) hh (mroOf (.ref C)) cd.mro := (looks_clsIn X hcd).andThen .now
  have hmake := named_madeBy (M := model prog w) X N
  have e4 : cd.mro.isEmpty = false := by rw [hm]; rfl
  have X' : K.In (⟨hh, g, d, t, os⟩ : Shared).heap := X
  dsimp only
  rw [if_neg (show ¬ ((Value.ref C == Value.type "type") = true) from by intro q; cases eq_of_beq q)]
  refine wpAny_bind (hmro.at ?_)
  rw [e4, if_neg (by decide)]
  refine wpAny_bind (hmake.at ?_)
  dsimp only
  refine wpAny_bind ?_
  refine cls_bind X' N.reads N.new ?_
  refine wpAny_call ?_
  refine sm_get (s := ⟨hh, g, d, t + 1, os⟩) X N.sm ?_
  refine handed_on rfl ?_
  refine wpAny_bind (wpAny_holding (wpAny_mono (h _ _ ?_ ?_ ?_) (fun v s' hv => ?_) fun _ _ e => e))
  · rfl
  · show A.depth + _ = _
    rfl
  · cases A; rfl
  obtain ⟨x, ox, rfl, hx, hxc, X₂, hQ⟩ := hv
  obtain ⟨hh₂, g₂, d₂, t₂, os₂⟩ := s'
  have L1 : Looks (model prog w) hh₂ (typeOf (.ref x)) (.ref C) := (Looks.ld hx).andThen (by rw [hxc]; exact .now)
  have L2 : Looks (model prog w) hh₂ (isSubtype (.ref C) (.ref C)) true := looks_mroIn X₂ (by unfold mroIn; rw [hcd, Option.bind_some, if_neg (by rw [e4]; decide), hm]; simp)
  have L3 : Looks (model prog w) hh₂ (typeLookup (.ref C) "__init__") (some (.builtin "object.__init__")) := looks_findIn X₂ N.init
  have L4 : Looks (model prog w) hh₂ (bindSpecial (.builtin "object.__init__") (.ref x)) (.builtin "object.__init__", [.ref x]) := Looks.of_pure (oi_bind _)
  have L5 : Looks (model prog w) hh₂ (isSubtype (.ref C) (.type "object")) true := looks_mroIn X₂ (by unfold mroIn; rw [hcd, Option.bind_some, if_neg (by rw [e4]; decide), hm]; simp)
  have L6 := named_madeBy (M := model prog w) X₂ N
  unfold isInstance callSpecial? specialOf
  refine wpAny_bind (wpAny_bind (L1.at (L2.at ?_)))
  rw [if_neg (by decide)]
  refine wpAny_bind (wpAny_holding (wpAny_bind (wpAny_bind (L1.at (L3.at ?_)))))
  dsimp only
  refine wpAny_holding (wpAny_bind (L4.at ?_))
  dsimp only
  have t2 : Looks (model prog w) hh₂ (isInstance (.ref x) (.type "object")) true := L1.andThen L5
  have fin : Q (.ref x) ⟨hh₂, g₂, d₂, t₂, os₂⟩ := hQ
  refine wpAny_bind (wpAny_call (codeAny_call_builtin oi_plain entry_oi (@check_slot (model prog w) _ _ _ "object.__init__" "object" "__init__" (.ref x) [] kw _ oi_kind oi_split t2 (by unfold argsOk; kernel_rfl) ?_)))
  unfold Builtin.«object.__init__»
  simp only [List.cons_append, List.nil_append, List.isEmpty_nil]
  by_cases hkw : (!true || !kw.isEmpty) = true
  · rw [if_pos hkw]
    refine wpAny_bind (L1.at (wpAny_bind (L3.at (wpAny_bind (L6.at ?_)))))
    rw [if_neg (by simp), if_neg (by simp)]
    exact wpAny_pure (wpAny_pure (wpAny_pure fin))
  · rw [if_neg hkw]
    exact wpAny_pure (wpAny_pure (wpAny_pure fin))
end
end Mine
end
section
set_option maxRecDepth 100000
namespace Mine
open PySem PySem.W PySem.Calls PyProof.Rows
section
variable {prog : Program} {w : World} {A : Around} {E : Value → Shared → Prop} {s : Shared} {K : Frag} {env : Env}

theorem tuple_stub : opaqueClassAbove (.type "tuple") = pure none := by unfold opaqueClassAbove; dsimp only; rw [show Manifest.isStub "tuple" = false by decide +kernel]; rfl
theorem getm_tuple {name : Str} {v : Value} {pl : Sem Bool} {Q : Value × List Value → Shared → Prop} (e : findCls [] (.type "tuple") (.type "type") name = some (.val v)) (hh : handedIn v = true) (h : Q (v, []) { s with toks := s.toks + 1 }) :
    wpAny (model prog w) A (getMethod (.type "tuple") name pl) Q E s := by
  have X : (Frag.In [] s.heap) := fun a o e => by cases e
  have ht : typeOf (.type "tuple") = pure (.type "type") := by first | rfl | kernel_rfl
  have L0 : Looks (model prog w) s.heap (typeOf (.type "tuple")) (.type "type") := Looks.of_pure ht
  have hg : findIn [] (.type "type") "__getattribute__" = some (some (.builtin "type.__getattribute__")) := by kernel_rfl
  unfold getMethod specialOf
  refine wpAny_bind (wpAny_bind (L0.here ((looks_findIn X hg).here ?_)))
  dsimp only
  rw [if_pos canon_tga]
  refine wpAny_bind (wpAny_mono (Q := fun v => Q (v, [])) (E := E) ?_ (fun _ _ z => wpAny_pure z) fun _ _ z => z)
  have LO : Looks (model prog w) s.heap (opaqueClassAbove (.type "tuple")) none := Looks.of_pure tuple_stub
  refine cls_open X LO L0 hg (looks_hook X (r := none) (by rfl)) (by kernel_rfl) e ?_
  exact wpAny_pure (by show wpAny _ _ (handedOut v) _ _ _; rw [handedOut_of hh]; exact wpAny_pure h)

/-- tuple.name(..) -/
theorem eval_tuple_m {name : Str} {id : String} {p apos pos : Pos} {args : List Expr} {Q : Value → Shared → Prop} (hn : wpAny (model prog w) A (eval (.Name "tuple" p) env) (fun v s₁ => v = .type "tuple" ∧
      wpAny (model prog w) A (spliced (backTo pos (starEach args env))) (fun vs s₂ => wpAny (model prog w) A (call (.builtin id) vs) Q E s₂) E { s₁ with toks := s₁.toks + 1 }) E s)
    (e : findCls [] (.type "tuple") (.type "type") name = some (.val (.builtin id))) (hh : handedIn (.builtin id) = true)
    (hne : ∃ x r, backTo pos (starEach args env) = (false, x) :: r) (hplain : (backTo pos (starEach args env)).any (·.1) = false)
    (hbase : attributeBase (.Name "tuple" p) name env (eval (.Name "tuple" p) env) = eval (.Name "tuple" p) env)
    (hfew : ((backTo pos (starEach args env)).all (fun x => !x.1) && (backToKw pos (keywordEach [] env)).all (fun x => x.1.isSome)
      && decide (args.length + ([] : List Keyword).length + (if ([] : List Keyword).isEmpty then 0 else 1) < 30)) = true)
    (hline : (apos.endLine == pos.line) = true) :
    wpAny (model prog w) A (eval (.Call (.Attribute (.Name "tuple" p) name apos) args [] pos) env) Q E s := by
  rw [arm_eval_Call, hbase]
  refine wpAny_bind (wpAny_mono hn (fun ov s₁ h₁ => ?_) fun _ _ e => e)
  obtain ⟨rfl, hc⟩ := h₁
  refine wpAny_bind (wpAny_standAt ?_)
  have hform : methodCallForm (args.length + ([] : List Keyword).length) (backTo pos (starEach args env)) (backToKw pos (keywordEach [] env)) = true := hfew
  have hpos : methodCallPos true (.Name "tuple" p) env apos pos = pure pos := by unfold methodCallPos; simp [hline]
  unfold methodCall
  rw [hform]
  refine wpAny_bind (wpAny_holding (getm_tuple e hh ?_))
  refine wpAny_bind (wpAny_of_eq hpos ?_)
  obtain ⟨x, r, hx⟩ := hne
  refine Calls.callWith_builtin hplain ?_
  rw [hx] at hc ⊢
  exact evalArgs_plain hc
end
end Mine
end
section
set_option maxRecDepth 100000
namespace Mine
open PySem PySem.W PySem.Calls PyProof.Rows
namespace B
theorem best_tuple : Builtin.Slots.bestBase [.type "tuple"] = pure (.type "tuple") := by kernel_rfl
theorem madeBy_tuple : Bind.madeBy (.type "tuple") = pure (some "tuple.__new__") := by
  have h1 : mroOf (.type "tuple") = pure [.type "tuple", .type "object"] := by rw [mroOf_type]; kernel_rfl
  have h2 : typeLookup (.type "tuple") "__new__" = pure (some (.builtin "tuple.__new__")) := by rw [typeLookup_type, builtinLookup_eq_fast]; kernel_rfl
  unfold Bind.madeBy
  rw [h1]
  simp only [pure_bind, List.forIn_cons]
  rw [h2]
  simp only [pure_bind]
  first | refine wpAny_ite_false (by decide +kernel) ?_ | rw [if_neg (by decide +kernel)]
  rfl
theorem tn_kind : builtinKind "tuple.__new__" = some .builtinFn := by decide +kernel
theorem tn_split : splitId "tuple.__new__" = some ("tuple", "__new__") := by decide +kernel
theorem tn_sig : Manifest.signature? "tuple.__new__" = some ⟨.constructor, "tuple", "tuple", .cls, [⟨"iterable", .posOnly, false⟩]⟩ := by kernel_rfl
theorem tn_entry : entryFor table "tuple.__new__" = some Builtin.«tuple.__new__» := entryFor_of_tree (by kernel_rfl)
theorem tn_quiet : plainId "tuple.__new__" = true := by decide +kernel
theorem tn_args (a b : Value) : Bind.checkArgs "tuple.__new__" ⟨.constructor, "tuple", "tuple", .cls, [⟨"iterable", .posOnly, false⟩]⟩ ⟨[a, b], []⟩ = pure () := by kernel_rfl
end B
section
variable {prog : Program} {w : World} {A : Around} {E : Value → Shared → Prop} {s : Shared} {K : Frag} {C S F : Addr}
theorem named_base {M : Model} {h : Heap} (X : K.In h) (N : Named K C S F) (hb : ∃ cd, clsIn K C = some cd ∧ cd.bases = [.type "tuple"]) : Looks M h (Bind.staticBase (.ref C)) (.type "tuple") := by
  obtain ⟨oc, od, cd, sl, ho, h4, hm, _⟩ := N.obj
  have hc : clsIn K C = some cd := by unfold clsIn; rw [ho]
  obtain ⟨cd', hc', hbs⟩ := hb
  rw [hc] at hc'; cases hc'
  have L : Looks M h (mroOf (.ref C)) cd.mro := (looks_clsIn X hc).andThen .now
  intro A Q E s k q
  unfold Bind.staticBase
  refine wpAny_bind (L A _ E s k ?_)
  rw [hm, List.forIn_cons]
  refine wpAny_bind ?_
  dsimp only
  refine wpAny_bind (wpAny_bind ((named_madeBy X N) A _ E s k ?_))
  first | refine wpAny_ite_false (by decide) ?_ | rw [if_neg (by decide)]
  refine wpAny_bind ((looks_clsIn X hc) A _ E s k ?_)
  rw [hbs, B.best_tuple]
  refine wpAny_bind (wpAny_pure (wpAny_pure ?_))
  dsimp only
  rw [List.forIn_cons]
  refine wpAny_bind ?_
  dsimp only
  rw [B.madeBy_tuple]
  refine wpAny_bind ?_
  refine nd_pure ?_
  first | refine wpAny_ite_true (by decide) ?_ | rw [if_pos (by decide)]
  exact wpAny_pure (wpAny_pure (wpAny_pure q))

theorem newObj_seq_ref {M : Model} {cd : ClassData} {oc : Value} {od : Option Addr} {sl : Array (Option Value)} {items : Array Value} {dict : Option Addr} {Q : Value → Shared → Prop} (hC : s.heap.get? C = some ⟨oc, od, .cls cd, sl⟩) (hd : cd.hasDel = false) (hz : items.size ≤ sizeLine)
    (h : Q (.ref s.heap.objs.size) { s with heap := s.heap.push { cls := .ref C, dict, data := .seq items } }) : wpAny M A (newObj (.ref C) (.seq items) dict) Q E s := by
  simp only [newObj]
  rw [if_neg (Nat.not_lt.mpr hz)]
  unfold newObjAsIs classHasDel
  refine wpAny_bind (wpAny_alloc ?_)
  refine wpAny_bind (wpAny_bind (wpAny_load (Heap.get?_push_of_some _ hC) (wpAny_pure ?_)))
  rw [hd]
  exact wpAny_pure h
/-- an instance of the class under tuple -/
noncomputable def LineAt (h : Heap) (C x : Addr) (items : Array Value) : Prop := ∃ ox n dx od, h.get? x = some ox ∧ ox.cls = .ref C ∧ ox.data = .seq items n ∧ ox.dict = some dx ∧ h.get? dx = some od ∧ nT ≤ dx ∧ nT ≤ x
theorem call_tuple_new {t : Addr} {items : Array Value} {Q : Value → Shared → Prop} (X : K.In s.heap) (N : Named K C S F) (hb : ∃ cd, clsIn K C = some cd ∧ cd.bases = [.type "tuple"]) (ht : s.heap.IsTuple t items) (hz : items.size ≤ 100) (hbig : ∃ b o, 451 ≤ b ∧ s.heap.get? b = some o)
    (h : ∀ x h', (∀ b o, s.heap.get? b = some o → h'.get? b = some o) → LineAt h' C x items → Q (.ref x) { s with heap := h' }) :
    wpAny (model prog w) A (PySem.call (.builtin "tuple.__new__") [.ref C, .ref t]) Q E s := by
  obtain ⟨oc, od, cd, sl, ho, h4, hm, hdel⟩ := id N.obj
  have hcd : clsIn K C = some cd := by unfold clsIn; rw [ho]
  obtain ⟨hh, g, d, tk, os⟩ := s
  have e4 : cd.mro.isEmpty = false := by rw [hm]; rfl
  have L1 : Looks (model prog w) hh (isType (.ref C)) true := (Looks.ld (X _ _ ho)).andThen .now
  have L2 : Looks (model prog w) hh (isSubtype (.ref C) (.type "tuple")) true := looks_mroIn X (by unfold mroIn; rw [hcd, Option.bind_some, if_neg (by rw [e4]; decide), hm]; simp)
  have L3 := named_base (M := model prog w) X N hb
  have L4 : Looks (model prog w) hh (Bind.madeBy (.type "tuple")) (some "tuple.__new__") := Looks.of_pure B.madeBy_tuple
  refine wpAny_call (codeAny_call_builtin B.tn_quiet B.tn_entry ?_)
  · simp only [checkBuiltinCall, B.tn_kind, B.tn_split, B.tn_sig]
    first | refine wpAny_ite_true (by decide) ?_ | rw [if_pos (by decide)]
    refine wpAny_bind (L1.at ?_)
    first | refine wpAny_ite_false (by decide) ?_ | rw [if_neg (by decide)]
    refine wpAny_bind (L2.at ?_)
    first | refine wpAny_ite_false (by decide) ?_ | rw [if_neg (by decide)]
    refine wpAny_bind (L3.at ?_)
    refine wpAny_bind (L4.at ?_)
    dsimp only
    first | refine wpAny_ite_false (by decide +kernel) ?_ | rw [if_neg (by decide +kernel)]
    rw [B.tn_args]
    refine wpAny_pure ?_
    have L5 : Looks (model prog w) hh (Bind.madeHere "tuple.__new__" (.ref C)) () := L3.andThen (L4.andThen (Looks.of_pure (by simp only [Option.map_some, bne_self_eq_false, Bool.false_eq_true, if_false])))
    have L6 : Looks (model prog w) hh (typeLookup (.ref C) "__init__") (some (.builtin "object.__init__")) := looks_findIn X N.init
    unfold Builtin.«tuple.__new__»
    dsimp only
    refine wpAny_bind (L1.at ?_)
    first | refine wpAny_ite_false (by decide) ?_ | rw [if_neg (by decide)]
    refine wpAny_bind (L2.at ?_)
    first | refine wpAny_ite_false (by decide) ?_ | rw [if_neg (by decide)]
    refine wpAny_bind (L5.at ?_)
    refine wpAny_bind (L6.at ?_)
    first | refine wpAny_ite_true (by decide) ?_ | rw [if_pos (by decide)]
    refine wpAny_bind (wpAny_of_eq (a := ()) rfl (wpAny_bind (wpAny_of_eq (a := ()) rfl ?_)))
    rw [if_neg (show ¬ ((Value.ref C == Value.type "tuple") = true) from by intro q; cases eq_of_beq q)]
    obtain ⟨ot, hot, htc, n, htd⟩ := ht
    refine wpAny_bind (wpAny_collect_seq t (.inr rfl) hot htc htd (fun h' hk => ?_) (Nat.le_trans hz (by decide)))
    refine wpAny_bind (wpAny_pure (wpAny_bind (wpAny_alloc (wpAny_bind ?_))))
    refine newObj_seq_ref (Heap.get?_push_of_some _ (hk _ _ (X _ _ ho))) hdel (by simpa using Nat.le_trans hz (by decide)) ?_
    obtain ⟨bb, ob, hbb, hob⟩ := hbig
    have hlt : nT ≤ h'.objs.size := Nat.lt_of_le_of_lt hbb (Heap.lt_size (hk _ _ hob))
    refine wpAny_pure (h _ _ (fun b o e => Heap.get?_push_of_some _ (Heap.get?_push_of_some _ (hk b o e))) ⟨_, 0, _, _, Heap.get?_push_size _ rfl, rfl, by simp, rfl, Heap.get?_push_of_some _ (Heap.get?_push_size _ rfl), hlt, ?_⟩)
    show nT ≤ (h'.push _).objs.size
    rw [Heap.size_push]
    exact Nat.le_succ_of_le hlt
end
end Mine
end
section
set_option maxRecDepth 100000
set_option exponentiation.threshold 3000
namespace Mine
open PySem PySem.Float64 PySem.Builtin.Math PySem.W PySem.Calls PyProof.Rows

/-- a def of the top stands in the heap -/
structure FnAt (h : Heap) (d : DefRec) (f : Addr) (kV : Value) : Prop where
  go : ∃ o pm cd doc, h.get? f = some o ∧ o.data = .func { docDef d.name d.params d.body d.scope pm cd doc with kwdefaults := kV } ∧ h.CodeRec cd d.name
theorem FnAt.elim {h : Heap} {d : DefRec} {f : Addr} {kV : Value} {Go : Prop} (x : FnAt h d f kV) (k : ∀ o pm cd doc, h.get? f = some o → o.data = .func { docDef d.name d.params d.body d.scope pm cd doc with kwdefaults := kV } → h.CodeRec cd d.name → Go) : Go :=
  let ⟨o, pm, cd, doc, z0, z1, z2⟩ := x.go; k _ _ _ _ z0 z1 z2

section
variable {prog : Program} {w : World} {A : Around} {E : Value → Shared → Prop} {s : Shared} {P : List Addr} {T : Heap → Prop} {mg mb : Str → Option Value}

theorem loc_of {names : List (Str × NameKind)} {binds : List (Str × Value)} (h : ∀ n ∈ binds.map (·.1), names.lookup n = some NameKind.local) : ∀ x ∈ binds, names.lookup x.1 = some .local := fun _ hx => h _ (List.mem_map_of_mem hx)
theorem call_size [TabKeep T] [TabFields P T] {f c : Addr} {cs : List Int} {ow : Int} {vs : List Value} {Q : Value → Shared → Prop} (W : World0 P T mg mb s.heap) (F : FnAt s.heap dSize f .none) (gl : GlF mg mb) (hA : A.handled = none) (hroom : A.depth < recursionLimit)
    (hlen : cs.length ≤ 100) (hb : ∀ x ∈ cs, 0 ≤ x ∧ x < 15) (hl : IsAV s.heap c (cs.map .int)) (hvs : Reps [.ref c, .int ow] vs)
    (k : ∀ v s', Rep (.int (sizeN cs ow cs.length)) v → After P T s s' → Q v s') : wpAny (model prog w) A (call (.ref f) vs) Q E s := by
  refine F.elim fun o pm cd doc ho hd hcd => ?_
  apply hvs.consE; intro _ _ h1 h2
  apply h2.consE; intro _ _ h2 h3
  apply h3.nilE; apply h1.e0 rfl; cases h2 with | int _ t =>
  refine enter W hroom ho hd hcd rfl (binds := [("cells", .ref c), ("owner", .int ow t)]) (ρ := [("cells", .ref c), ("owner", .int ow)]) (ls := [(c, .list (cs.map .int))]) (BindsTo.of_eq rfl) (by show ∀ x ∈ dSize.scope.names, x.2 ≠ .cell; decide) (loc_of (by show ∀ n ∈ [("cells" : Str), "owner"], dSize.scope.names.lookup n = some .local; decide)) rfl rfl rfl (fun x av hx => ?_) (fun b l hm => ?_) (fun s' G X => ?_) rfl rfl rfl
  · rw [List.lookup_cons] at hx
    by_cases e : x = "cells"
    · subst e
      cases hx
      exact ⟨_, rfl, .ref c⟩
    · rw [beq_eq_false_iff_ne.mpr e] at hx
      dsimp only at hx
      rw [List.lookup_cons] at hx
      by_cases e : x = "owner"
      · subst e
        cases hx
        exact ⟨_, rfl, .int _ _⟩
      · rw [beq_eq_false_iff_ne.mpr e] at hx
        cases hx
  · cases List.mem_singleton.mp hm
    exact hl
  · exact size_body (hA := hA) rfl G hlen hb gl.range gl.len X fun v s' hv X' => k v s' hv X'.out
theorem call_column [TabKeep T] [TabFields P T] {f c : Addr} {cs : List Int} {ow turn : Int} {vs : List Value} {Q : Value → Shared → Prop} (W : World0 P T mg mb s.heap) (F : FnAt s.heap dColumn f .none) (gl : GlF mg mb) (hA : A.handled = none) (hroom : A.depth < recursionLimit)
    (hlen : cs.length ≤ 100) (hb : ∀ x ∈ cs, 0 ≤ x ∧ x < 15) (hl : IsAV s.heap c (cs.map .int)) (hvs : Reps [.ref c, .int ow, .int turn] vs)
    (k : ∀ a s', IsAV s'.heap a ((columnN cs ow turn).map .int) → s.heap.objs.size ≤ a → After P T s s' → Q (.ref a) s') : wpAny (model prog w) A (call (.ref f) vs) Q E s := by
  refine F.elim fun o pm cd doc ho hd hcd => ?_
  apply hvs.consE; intro _ _ h1 h2
  apply h2.consE; intro _ _ h2 h3
  apply h3.consE; intro _ _ h3 h4
  apply h4.nilE; apply h1.e0 rfl; cases h2 with | int _ t => cases h3 with | int _ u =>
  refine enter W hroom ho hd hcd rfl (binds := [("cells", .ref c), ("owner", .int ow t), ("turn", .int turn u)]) (ρ := [("cells", .ref c), ("owner", .int ow), ("turn", .int turn)]) (ls := [(c, .list (cs.map .int))]) (BindsTo.of_eq rfl) (by show ∀ x ∈ dColumn.scope.names, x.2 ≠ .cell; decide) (loc_of (by show ∀ n ∈ [("cells" : Str), "owner", "turn"], dColumn.scope.names.lookup n = some .local; decide)) rfl rfl rfl (fun x av hx => ?_) (fun b l hm => ?_) (fun s' G X => ?_) rfl rfl rfl
  · rw [List.lookup_cons] at hx
    by_cases e : x = "cells"
    · subst e
      cases hx
      exact ⟨_, rfl, .ref c⟩
    · rw [beq_eq_false_iff_ne.mpr e] at hx
      dsimp only at hx
      rw [List.lookup_cons] at hx
      by_cases e : x = "owner"
      · subst e
        cases hx
        exact ⟨_, rfl, .int _ _⟩
      · rw [beq_eq_false_iff_ne.mpr e] at hx
        dsimp only at hx
        rw [List.lookup_cons] at hx
        by_cases e : x = "turn"
        · subst e
          cases hx
          exact ⟨_, rfl, .int _ _⟩
        · rw [beq_eq_false_iff_ne.mpr e] at hx
          cases hx
  · cases List.mem_singleton.mp hm
    exact hl
  · have hc0 : c < s.heap.objs.size := by
      obtain ⟨_, ⟨o, ho, _⟩, _⟩ := hl
      exact Heap.lt_size ho
    exact column_body (hA := hA) rfl G hlen hb gl.range gl.len hc0 rfl X fun a s' X' ha => k a s' (X'.lists a _ List.mem_cons_self) ha X'.out
end
end Mine
end
section
set_option maxRecDepth 100000
set_option exponentiation.threshold 3000
namespace Mine
open PySem PySem.Float64 PySem.Builtin.Math PySem.W PySem.Calls PyProof.Rows

/-- a def of the top, its code known -/
structure FnCode (h : Heap) (d : DefRec) (f : Addr) (kV : Value) (c : Addr) : Prop where
  go : ∃ o pm doc, h.get? f = some o ∧ o.data = .func { docDef d.name d.params d.body d.scope pm (.ref c) doc with kwdefaults := kV } ∧ h.CodeRec (.ref c) d.name
theorem FnCode.elim {h : Heap} {d : DefRec} {f : Addr} {kV : Value} {c : Addr} {Go : Prop} (x : FnCode h d f kV c) (k : ∀ o pm doc, h.get? f = some o → o.data = .func { docDef d.name d.params d.body d.scope pm (.ref c) doc with kwdefaults := kV } → h.CodeRec (.ref c) d.name → Go) : Go :=
  let ⟨o, pm, doc, z0, z1, z2⟩ := x.go; k _ _ _ z0 z1 z2
structure BmAt (P : List Addr) (h : Heap) (mg : Str → Option Value) : Prop where
  go : ∃ bm o, mg "__builtins__" = some (.ref bm) ∧ bm ≠ builtinsNs ∧ bm ∉ P ∧ h.get? bm = some o ∧ o.cls = .type "module" ∧ o.dict = some builtinsNs ∧ o.data = .plain

section
variable {prog : Program} {w : World} {A : Around} {E : Value → Shared → Prop} {s : Shared} {cs : List (Addr × Addr)} {mg mb : Str → Option Value}

theorem lookup_two {β : Type} {x a b : Str} {u v r : β} (h : ([(a, u), (b, v)] : List (Str × β)).lookup x = some r) : (x = a ∧ r = u) ∨ (x = b ∧ r = v) := by
  rw [List.lookup_cons] at h
  by_cases e : x = a
  · subst e
    rw [beq_self_eq_true] at h
    cases h
    exact .inl ⟨rfl, rfl⟩
  · rw [beq_eq_false_iff_ne.mpr e] at h
    dsimp only at h
    rw [List.lookup_cons] at h
    by_cases e : x = b
    · subst e
      rw [beq_self_eq_true] at h
      cases h
      exact .inr ⟨rfl, rfl⟩
    · rw [beq_eq_false_iff_ne.mpr e] at h
      cases h

theorem call_cov {f c Pt a b : Addr} {xs ys : List Int} {k1 k2 : Bool} {m m' : Int} {vs : List Value} {Q : Value → Shared → Prop} (hcs : CsOk cs) (W : World0 (tabs cs) (TT cs) mg mb s.heap) (F : FnCode s.heap dCov f .none c) (B : BmAt (tabs cs) s.heap mg) (hm : (c, Pt) ∈ cs) (gl : GlF mg mb) (hA : A.handled = none) (hroom : A.depth + 1 < recursionLimit)
    (hx : Sm xs) (hy : Sm ys) (hlen : ys.length = xs.length) (h2 : 2 ≤ xs.length) (hmx : xs.sum = m * xs.length) (hmy : ys.sum = m' * xs.length) (hm1 : m.natAbs ≤ 2 ^ 20) (hm2 : m'.natAbs ≤ 2 ^ 20)
    (hla : IsAV s.heap a (nums k1 xs)) (hlb : IsAV s.heap b (nums k2 ys)) (hvs : Reps [.ref a, .ref b] vs)
    (k : ∀ v s', Rep (.q (dotN (xs.map (· - m)) (ys.map (· - m')) xs.length) (xs.length - 1)) v → After (tabs cs) (TT cs) s s' → Q v s') : wpAny (model prog w) A (call (.ref f) vs) Q E s := by
  refine F.elim fun o pm doc ho hd hcd => ?_
  apply hvs.consE; intro _ _ h1 h2'
  apply h2'.consE; intro _ _ h2' h3
  apply h3.nilE; apply h1.e0 rfl; apply h2'.e0 rfl
  refine enterC W (Nat.lt_of_succ_lt hroom) ho hd hcd rfl (binds := [("x", .ref a), ("y", .ref b)]) (ρ := [("x", .ref a), ("y", .ref b)]) (ls := [(a, .list (nums k1 xs)), (b, .list (nums k2 ys))]) (BindsTo.of_eq rfl)
    (loc_of (by show ∀ n ∈ [("x" : Str), "y"], dCov.scope.names.lookup n = some .local; decide)) rfl rfl rfl (fun x av hx' => ?_) (fun b' l hm' => ?_) (fun s' G X => ?_) rfl rfl rfl
  · rcases lookup_two hx' with ⟨rfl, rfl⟩ | ⟨rfl, rfl⟩
    · exact ⟨_, rfl, rfl, .ref a⟩
    · exact ⟨_, rfl, rfl, .ref b⟩
  · rcases List.mem_cons.mp hm' with q | q
    · cases q; exact hla
    · cases List.mem_singleton.mp q; exact hlb
  · exact cov_body (c := c) (Pt := Pt) (hA := hA) hroom rfl (by intro q; cases q) ⟨_, _, rfl, rfl⟩ hcs G ⟨B.go⟩ gl hm rfl W.lim W.cP rfl hx hy hlen h2 hmx hmy hm1 hm2 X fun v s' hv X' => k v s' hv X'.out
end
end Mine
end
section
set_option maxRecDepth 100000
namespace Mine
open PySem PySem.W PySem.Calls PyProof.Rows

noncomputable def defIn (i j : Nat) : DefRec := match (PySem.Challenge.pw_ij0063_01).main.body[i]? with
  | some (.ClassDef _ _ _ body _ _ _ _ _ _ _) => (match body[j]? with
    | some (.FunctionDef name params body _ _ _ scope _ _ pos) => ⟨name, params, body, scope, pos⟩
    | _ => ⟨"", default, [], default, default⟩)
  | _ => ⟨"", default, [], default, default⟩
noncomputable def dNew : DefRec := defIn 21 4
noncomputable def dGet : DefRec := defIn 3 1
/-- a def that stands in a class -/
structure FnQ (h : Heap) (d : DefRec) (q : Str) (f : Addr) (dV kV : Value) : Prop where
  go : ∃ o pm cd doc, h.get? f = some o ∧ o.data = .func { docDef d.name d.params d.body d.scope pm cd doc with qualname := q, defaults := dV, kwdefaults := kV } ∧ h.CodeRec cd q
theorem FnQ.elim {h : Heap} {d : DefRec} {q : Str} {f : Addr} {dV kV : Value} {Go : Prop} (x : FnQ h d q f dV kV) (k : ∀ o pm cd doc, h.get? f = some o → o.data = .func { docDef d.name d.params d.body d.scope pm cd doc with qualname := q, defaults := dV, kwdefaults := kV } → h.CodeRec cd q → Go) : Go :=
  let ⟨o, pm, cd, doc, z0, z1, z2⟩ := x.go; k _ _ _ _ z0 z1 z2
section
variable {prog : Program} {w : World} {A : Around} {E : Value → Shared → Prop} {s : Shared} {env : Env} {P : List Addr} {T : Heap → Prop} {h0 : Heap} {g0 : Array GenState} {o0 : OsState} {ρ : List (Str × AV)} {ls : List (Addr × HV)} {mg mb : Str → Option Value} {K : Frag} {C S F : Addr}

theorem eval_tupleL [TabKeep T] {es : List Expr} {avs : List AV} {kd : Nat} {pos : Pos} {Q : Value → Shared → Prop} (X : At P T h0 g0 o0 env ρ ls s) (hes : PurL prog w A (At P T h0 g0 o0 env ρ ls) env es avs) (hz : avs.length ≤ 100)
    (k : ∀ a vs s', At P T h0 g0 o0 env ρ ls s' → Reps avs vs → s'.heap.IsTuple a vs.toArray → (∀ b o, s.heap.get? b = some o → s'.heap.get? b = some o) → Q (.ref a) s') : wpAny (model prog w) A (eval (.Tuple es kd pos) env) Q E s := by
  refine wpAny_Tuple (hes _ s _ _ X fun vs tk hvs _ => ⟨by rw [hvs.length]; exact Nat.le_trans hz (by decide), ?_⟩)
  exact k _ vs _ ((X.toks (tk := tk)).keeps (fun b o e => Heap.get?_push_of_some _ e) rfl rfl) hvs ⟨_, Heap.get?_push_size _ rfl, rfl, _, rfl⟩ fun b o e => Heap.get?_push_of_some _ e

theorem new_body [TabKeep T] {v1 v2 : Value} {Q : Flow → Shared → Prop} (hsc : env.scope = dNew.scope) (hi : interactive env = false) (G : Gl P env h0 mg mb) (N : Named K C S F) (hb : ∃ cd, clsIn K C = some cd ∧ cd.bases = [.type "tuple"])
    (hK : ∀ s', At P T h0 g0 o0 env [("_cls", .ref C), ("slope", .val v1), ("intercept", .val v2)] [] s' → K.In s'.heap) (ht : mg "tuple" = none ∧ mb "tuple" = some (.type "tuple"))
    (X : At P T h0 g0 o0 env [("_cls", .ref C), ("slope", .val v1), ("intercept", .val v2)] [] s)
    (k : ∀ x s' , At P T h0 g0 o0 env [("_cls", .ref C), ("slope", .val v1), ("intercept", .val v2)] [] s' → LineAt s'.heap C x #[v1, v2] → Q (.ret (.ref x)) s') : wpAny (model prog w) A (execs dNew.body env) Q E s := by
  have hk : ∀ x, env.kindOf x = dNew.scope.names.lookup x := fun x => by unfold Env.kindOf; rw [hsc]
  refine s_doc X hi fun s₁ X₁ => ?_
  refine wpAny_execs_cons (wpAny_Return_some (eval_tuple_m (id := "tuple.__new__") (Pur.blt G ((hk _).trans rfl) ht.1 ht.2 rfl s₁ _ _ X₁ fun v tk hv _ => ?_) (by kernel_rfl) (by decide +kernel) ⟨_, _, rfl⟩ rfl rfl rfl rfl))
  replace hv := hv.inv; obtain rfl := hv
  refine ⟨rfl, spliced_more (Pur.nm (av := .ref C) rfl (by decide) _ _ _ X₁.toks fun v tk' hv _ => ?_) rfl⟩
  replace hv := hv.inv; obtain rfl := hv
  refine spliced_more (eval_tupleL X₁.toks (avs := [.val v1, .val v2]) (.cons (.nm rfl) (.cons (.nm rfl) .nil)) (by simp) fun a vs s₂ X₂ hvs hT _ => spliced_nil ?_) rfl
  replace hvs := hvs.consI; obtain ⟨_, _, h1, h2, rfl⟩ := hvs
  replace h2 := h2.consI; obtain ⟨_, _, h2, h3, rfl⟩ := h2
  replace h3 := h3.nilI; obtain rfl := h3; replace h1 := h1.inv; obtain rfl := h1; replace h2 := h2.inv; obtain rfl := h2
  exact call_tuple_new (hK _ X₂) N hb hT (by simp) (let ⟨o, e⟩ := X₂.big; let ⟨o', e', _⟩ := X₂.grow _ _ X₂.far e; ⟨_, o', Nat.le_max_left _ _, e'⟩) fun x h' hk' hx => k x _ (X₂.keeps hk' rfl rfl) hx

/-- LinearRegression(slope=.., intercept=..) -/
theorem call_lrc [TabKeep T] {q : Str} {v1 v2 : Value} {Q : Value → Shared → Prop} (W : World0 P T mg mb s.heap) (N : Named K C S F) (hb : ∃ cd, clsIn K C = some cd ∧ cd.bases = [.type "tuple"]) (hKP : ∀ a o, K.lookup a = some o → a ∉ P ∧ a < nT) (X : K.In s.heap) (fn : FnQ s.heap dNew q F .none .none) (hroom : A.depth + 1 < recursionLimit)
    (ht : mg "tuple" = none ∧ mb "tuple" = some (.type "tuple"))
    (k : ∀ x s' , After P T s s' → LineAt s'.heap C x #[v1, v2] → Q (.ref x) s') : wpAny (model prog w) A (PySem.call (.ref C) [] [("slope", v1), ("intercept", v2)]) Q E s := by
  refine call_named X N fun A' tk hA hd _ => ?_
  refine fn.elim fun o pm cd doc ho hdat hcd => ?_
  refine enter (s := { s with toks := tk }) W (by rw [hd]; exact hroom) ho hdat hcd rfl (binds := [("_cls", .ref C), ("slope", v1), ("intercept", v2)]) (ρ := [("_cls", .ref C), ("slope", .val v1), ("intercept", .val v2)]) (ls := []) (BindsTo.of_eq rfl) (by show ∀ x ∈ dNew.scope.names, x.2 ≠ .cell; decide)
    (loc_of (by show ∀ n ∈ [("_cls" : Str), "slope", "intercept"], dNew.scope.names.lookup n = some .local; decide)) rfl rfl rfl (fun x av hx => ?_) (fun b l hm => by cases hm) (fun s' G X' => ?_) rfl rfl rfl
  · rw [List.lookup_cons] at hx
    by_cases e : x = "_cls"
    · subst e
      cases hx
      exact ⟨_, rfl, .ref C⟩
    · rw [beq_eq_false_iff_ne.mpr e] at hx
      rcases lookup_two hx with ⟨rfl, rfl⟩ | ⟨rfl, rfl⟩
      · exact ⟨_, rfl, .val _⟩
      · exact ⟨_, rfl, .val _⟩
  · have hK : ∀ s', At P T s.heap s.gens s.os (callEnv { docDef dNew.name dNew.params dNew.body dNew.scope pm cd doc with qualname := q, defaults := .none, kwdefaults := .none } s.heap.objs.size F) [("_cls", .ref C), ("slope", .val v1), ("intercept", .val v2)] [] s' → K.In s'.heap :=
      fun s' Y a o e => Y.grow.low (hKP a o e).1 (hKP a o e).2 (X a o e)
    refine new_body rfl rfl G N hb hK ht X' fun x s'' X'' hx => ?_
    obtain ⟨ox, n, dx, od, h1, h2, _⟩ := id hx
    exact ⟨x, ox, rfl, h1, h2, hK _ X'', k x s'' ⟨X''.grow, X''.tb, X''.gens, X''.os⟩ hx⟩
end
end Mine
end
section
set_option maxRecDepth 100000
set_option exponentiation.threshold 3000
namespace Mine
open PySem PySem.Float64 PySem.Builtin.Math PySem.W PySem.Calls PyProof.Rows

noncomputable abbrev Z3 : UInt64 × UInt64 × UInt64 := (zero false, zero false, zero false)
section
variable {prog : Program} {w : World} {A : Around} {E : Value → Shared → Prop} {s : Shared}
theorem walksTuple (hA : A.handled = none) (I ax : Addr) (hne : ax ≠ I) (items : Array Value) :
    WalksS prog w A I [I, ax] [I] (fun a b => b = a) items.size (fun i v => items[i]? = some v) (fun i s => s.heap.IsTupleIter I ax i ∧ s.heap.IsTuple ax items) :=
  (Walks.tuple (prog := prog) (w := w) hA I ax hne items).toS
theorem tup_moved {I ax : Addr} {items : Array Value} {i : Nat} {s s' : Shared} {wr : List Addr} {G : Array GenState → Array GenState → Prop} (h : s.heap.IsTupleIter I ax i ∧ s.heap.IsTuple ax items) (hm : Moved wr G s s') (h1 : I ∉ wr) (h2 : ax ∉ wr) :
    s'.heap.IsTupleIter I ax i ∧ s'.heap.IsTuple ax items := by
  obtain ⟨⟨o, ho, r⟩, o', ho', r'⟩ := h
  exact ⟨⟨o, hm.heap _ _ h1 ho, r⟩, o', hm.heap _ _ h2 ho', r'⟩
theorem isTupleIter_of {h : Heap} {I l : Addr} (e : h.get? I = some { cls := .type "tuple_iterator", data := .fields #[.ref l, .int 0 0] }) : h.IsTupleIter I l 0 := ⟨_, e, rfl, rfl⟩

/-- sumprod((x, u), (y, v)) -/
theorem call_sumprod_pairs {ax ay : Addr} {x y u v : UInt64} {t1 t2 t3 t4 : Tok} {Q : Value → Shared → Prop} (hA : A.handled = none) (hx : s.heap.IsTuple ax #[.float x t1, .float u t2]) (hy : s.heap.IsTuple ay #[.float y t3, .float v t4])
    (f1 : isFinite (tlFma x y Z3).1 = true) (f2 : isFinite (tlFma u v (tlFma x y Z3)).1 = true)
    (k : ∀ t h' tk, (∀ c o, s.heap.get? c = some o → h'.get? c = some o) → Q (.float (Float64.add (Float64.ofInt 0) (tlToFloat (tlFma u v (tlFma x y Z3)))) t) { s with heap := h', toks := tk }) :
    wpAny (model prog w) A (call (.builtin "math.sumprod") [.ref ax, .ref ay]) Q E s := by
  refine call_sumprod (wpAny_pyIter_tuple hx ?_)
  obtain ⟨ox, hox, rx⟩ := id hx
  obtain ⟨oy, hoy, ry⟩ := id hy
  have ltx : ax < s.heap.objs.size := Heap.lt_size hox
  have lty : ay < s.heap.objs.size := Heap.lt_size hoy
  have tp : ∀ {h h' : Heap} {a : Addr} {it : Array Value}, h.IsTuple a it → (∀ b o, h.get? b = some o → h'.get? b = some o) → h'.IsTuple a it := fun ⟨o, e, r⟩ hk => ⟨o, hk _ _ e, r⟩
  refine wpAny_pyIter_tuple (tp hy fun b o e => Heap.get?_push_of_some _ e) ?_
  intro tk _
  have hs1 : (s.heap.push { cls := .type "tuple_iterator", data := .fields #[.ref ax, .int 0 0] }).objs.size = s.heap.objs.size + 1 := Heap.size_push ..
  have hs2 : ((s.heap.push { cls := .type "tuple_iterator", data := .fields #[.ref ax, .int 0 0] }).push { cls := .type "tuple_iterator", data := .fields #[.ref ay, .int 0 0] }).objs.size = s.heap.objs.size + 1 + 1 := by rw [Heap.size_push, hs1]
  have n1 : ax ≠ s.heap.objs.size := Nat.ne_of_lt ltx
  have n2 : ay ≠ s.heap.objs.size + 1 := Nat.ne_of_lt (Nat.lt_succ_of_lt lty)
  have W₁ := walksTuple (prog := prog) (w := w) (A := A.in1) hA s.heap.objs.size ax n1 #[.float x t1, .float u t2]
  have W₂ := walksTuple (prog := prog) (w := w) (A := A.in1) hA (s.heap.objs.size + 1) ay n2 #[.float y t3, .float v t4]
  dsimp only
  rw [hs1, hs2]
  have kp : ∀ b o, s.heap.get? b = some o → (((s.heap.push { cls := .type "tuple_iterator", data := .fields #[.ref ax, .int 0 0] }).push { cls := .type "tuple_iterator", data := .fields #[.ref ay, .int 0 0] }).push (bitsTup (triple Z3))).get? b = some o := fun b o e => Heap.get?_push_of_some _ (Heap.get?_push_of_some _ (Heap.get?_push_of_some _ e))
  have hat : (((s.heap.push { cls := .type "tuple_iterator", data := .fields #[.ref ax, .int 0 0] }).push { cls := .type "tuple_iterator", data := .fields #[.ref ay, .int 0 0] }).push (bitsTup (triple Z3))).get? (s.heap.objs.size + 1 + 1) = some (bitsTup (triple Z3)) := by
    have q : (((s.heap.push { cls := .type "tuple_iterator", data := .fields #[.ref ax, .int 0 0] }).push { cls := .type "tuple_iterator", data := .fields #[.ref ay, .int 0 0] }).push (bitsTup (triple Z3))).get? ((s.heap.push { cls := .type "tuple_iterator", data := .fields #[.ref ax, .int 0 0] }).push { cls := .type "tuple_iterator", data := .fields #[.ref ay, .int 0 0] }).objs.size = some (bitsTup (triple Z3)) := Heap.get?_push_size _ rfl
    rwa [hs2] at q
  refine sumprod_floats (wr := [s.heap.objs.size, s.heap.objs.size + 1]) (G := fun a b => b = a) W₁ W₂ (fun i s₁ s₂ st hm => tup_moved st hm ?_ ?_) (fun i s₁ s₂ st hm => tup_moved st hm ?_ ?_) (fun b hb => by simp_all) (fun b hb => by simp_all) (fun _ _ e => e) (fun _ _ e => e) (fun _ _ _ e1 e2 => e2.trans e1)
    (fun i t => (i = 0 ∧ t = Z3) ∨ (i = 1 ∧ t = tlFma x y Z3) ∨ (i = 2 ∧ t = tlFma u v (tlFma x y Z3))) (fun i t u' v' hi hJ hu hv => ?_) 2 0 _ (s.heap.objs.size + 1 + 1) (s.heap.objs.size + 1 + 1) Z3 true false _ (.inl ⟨rfl, rfl⟩) rfl (Nat.zero_le _) (.inr (Nat.zero_lt_succ _))
    ⟨isTupleIter_of ?_, tp hx kp⟩ ⟨isTupleIter_of ?_, tp hy kp⟩ (fun b hb => ?_) (fun b hb => ?_) (Nat.le_refl _) ⟨_, hat⟩ hat (fun s' t tk hJ hm => ?_)
  · simp
  · simp only [List.mem_cons, List.not_mem_nil, or_false]; exact Nat.ne_of_lt lty
  · simp
  · simp only [List.mem_cons, List.not_mem_nil, or_false]; exact Nat.ne_of_lt (Nat.lt_succ_of_lt ltx)
  · rcases hJ with ⟨rfl, rfl⟩ | ⟨rfl, rfl⟩ | ⟨rfl, rfl⟩
    · cases hu; cases hv
      exact ⟨x, y, .float _ _, .float _ _, rfl, f1, .inr (.inl ⟨rfl, rfl⟩)⟩
    · cases hu; cases hv
      exact ⟨u, v, .float _ _, .float _ _, rfl, f2, .inr (.inr ⟨rfl, rfl⟩)⟩
    · exact absurd hi (Nat.lt_irrefl 2)
  · exact Heap.get?_push_of_some _ (Heap.get?_push_of_some _ (Heap.get?_push_size _ rfl))
  · refine Heap.get?_push_of_some _ ?_
    have q : ((s.heap.push { cls := .type "tuple_iterator", data := .fields #[.ref ax, .int 0 0] }).push { cls := .type "tuple_iterator", data := .fields #[.ref ay, .int 0 0] }).get? (s.heap.push { cls := .type "tuple_iterator", data := .fields #[.ref ax, .int 0 0] }).objs.size = some { cls := .type "tuple_iterator", data := .fields #[.ref ay, .int 0 0] } := Heap.get?_push_size _ rfl
    rwa [hs1] at q
  · simp only [List.mem_cons, List.not_mem_nil, or_false] at hb
    rcases hb with q | q <;> rw [q]
    · exact Nat.lt_succ_of_lt (Nat.lt_succ_self _)
    · exact Nat.lt_succ_of_lt (Nat.lt_succ_of_lt ltx)
  · simp only [List.mem_cons, List.not_mem_nil, or_false] at hb
    rcases hb with q | q <;> rw [q]
    · exact Nat.lt_succ_self _
    · exact Nat.lt_succ_of_lt (Nat.lt_succ_of_lt lty)
  · rcases hJ with ⟨h, _⟩ | ⟨h, _⟩ | ⟨_, rfl⟩
    · cases h
    · cases h
    · show Q (.float _ tk) s'
      have := k tk s'.heap s'.toks fun c o e => hm.heap c o (fun h => by
        have hc := Heap.lt_size e
        simp only [List.mem_cons, List.not_mem_nil, or_false] at h
        rcases h with q | q <;> rw [q] at hc
        · exact Nat.lt_irrefl _ hc
        · exact absurd hc (Nat.not_lt.mpr (Nat.le_succ _))) (Heap.get?_push_of_some _ (Heap.get?_push_of_some _ (Heap.get?_push_of_some _ e)))
      rw [moved_back (s := s) hm (fun _ _ e => e) rfl rfl rfl]; exact this
end
end Mine
end
section
set_option maxRecDepth 100000
set_option exponentiation.threshold 3000
namespace Mine
open PySem PySem.Float64 PySem.Builtin.Math PySem.W PySem.Calls PyProof.Rows

section
variable {prog : Program} {w : World} {A : Around} {E : Value → Shared → Prop} {s : Shared} {env : Env} {P : List Addr} {T : Heap → Prop} {h0 : Heap} {g0 : Array GenState} {o0 : OsState} {ρ : List (Str × AV)} {ls : List (Addr × HV)} {C : Shared → Prop} {mg mb : Str → Option Value}

theorem op_mul_bits {a b : UInt64} : Op2 prog w A (binaryOp .Mult) (.bits a) (.bits b) (.bits (Float64.mul a b)) := by
  intro va vb s Q E ha hb k; apply ha.e1 rfl; intro _; apply hb.e1 rfl; intro _
  exact mul_float (k _ _ (.bits _ _) (Nat.le_succ _))
theorem op_add_bits {a b : UInt64} : Op2 prog w A (binaryOp .Add) (.bits a) (.bits b) (.bits (Float64.add a b)) := by
  intro va vb s Q E ha hb k; apply ha.e1 rfl; intro _; apply hb.e1 rfl; intro _
  exact add_float (k _ _ (.bits _ _) (Nat.le_succ _))
theorem op_div_bits {a b : UInt64} (hA : A.handled = Option.none) (hz : isZero b = false) : Op2 prog w A (binaryOp .Div) (.bits a) (.bits b) (.bits (Float64.div a b)) := by
  intro va vb s Q E ha hb k; apply ha.e1 rfl; intro _; apply hb.e1 rfl; intro _
  exact truediv_float_or hA (fun h => by rw [hz] at h; cases h) fun _ => k _ _ (.bits _ _) (Nat.le_succ _)
theorem Pur.fconst {b : UInt64} {k pos} : Pur prog w A C env (.Constant (.float b) k pos) (.bits b) := by
  intro s Q E _ h
  exact PySem.wpAny_Constant_float (h _ _ (.bits _ _) (Nat.le_succ _))
theorem Pur.negb {x : Expr} {pos : Pos} {b : UInt64} (hx : Pur prog w A C env x (.bits b)) : Pur prog w A C env (.UnaryOp .USub x pos) (.bits (Float64.neg b)) := by
  intro s Q E hC h
  refine wpAny_UnaryOp (hx s _ _ hC fun v tk hv htk => ?_)
  apply hv.e1 rfl; intro _
  exact neg_float (h _ _ (.bits _ _) (Nat.le_succ_of_le htk))
theorem Tst.bits {e : Expr} {b : UInt64} (h : Pur prog w A C env e (.bits b)) (hp : ∀ whole : Sem Value, isTrue e env whole = (do let v ← whole; standAt e.pos; holding [v] (truthy v)) := by intro _; rfl) : Tst prog w A C env e (!isZero b) := by
  intro s Q E hC k
  refine isTrue_plain (h s _ _ hC fun v tk hv htk => ?_) (hp _)
  apply hv.e1 rfl; intro _
  exact truthy_float (k tk htk)
theorem Pur.sqrt {p pos : Pos} {e : Expr} {v : UInt64} (hA : A.handled = Option.none) (G : Gl P env h0 mg mb) (hk : env.kindOf "sqrt" = some .globalImplicit) (hg : mg "sqrt" = some (.builtin "math.sqrt")) (he : Pur prog w A (At P T h0 g0 o0 env ρ ls) env e (.bits v))
    (hn : ¬ (isNaN (Float64.sqrt v) && !isNaN v) = true) (hst : starEach [e] env = (false, eval e env) :: starEach [] env := by rfl) : Pur prog w A (At P T h0 g0 o0 env ρ ls) env (.Call (.Name "sqrt" p) [e] [] pos) (.bits (Float64.sqrt v)) := by
  intro s Q E X h
  refine wpAny_Call_NameR (Pur.glob G hk hg rfl s _ _ X fun f tk hf htk => ?_)
  apply hf.e0 rfl
  refine PyProof.Rows.callWith_builtin1 (PurL.cons he .nil hst _ _ _ _ X.toks fun vs tk' hvs htk' => ?_) hst rfl
  apply hvs.consE; intro _ _ h1 h2
  apply h2.nilE; apply h1.e1 rfl; intro _
  exact PySem.Flt.call_sqrt_float hA (fun h' => absurd h' hn) fun _ => h _ _ (.bits _ _) (Nat.le_succ_of_le (Nat.le_trans htk htk'))
theorem Pur.isfin {p pos : Pos} {e : Expr} {v : UInt64} (G : Gl P env h0 mg mb) (hk : env.kindOf "isfinite" = some .globalImplicit) (hg : mg "isfinite" = some (.builtin "math.isfinite")) (he : Pur prog w A (At P T h0 g0 o0 env ρ ls) env e (.bits v))
    (hst : starEach [e] env = (false, eval e env) :: starEach [] env := by rfl) : Pur prog w A (At P T h0 g0 o0 env ρ ls) env (.Call (.Name "isfinite" p) [e] [] pos) (.bool (isFinite v)) := by
  intro s Q E X h
  refine wpAny_Call_NameR (Pur.glob G hk hg rfl s _ _ X fun f tk hf htk => ?_)
  apply hf.e0 rfl
  refine PyProof.Rows.callWith_builtin1 (PurL.cons he .nil hst _ _ _ _ X.toks fun vs tk' hvs htk' => ?_) hst rfl
  apply hvs.consE; intro _ _ h1 h2
  apply h2.nilE; apply h1.e1 rfl; intro _
  exact PySem.Flt.call_isfinite_float (h _ tk' (.bool _) (Nat.le_trans htk htk'))

theorem eval_tuple2 [TabKeep T] {e1 e2 : Expr} {kd : Nat} {pos : Pos} {b1 b2 : UInt64} {Q : Value → Shared → Prop} (X : At P T h0 g0 o0 env ρ ls s) (hes : PurL prog w A (At P T h0 g0 o0 env ρ ls) env [e1, e2] [.bits b1, .bits b2])
    (k : ∀ a t1 t2 s', At P T h0 g0 o0 env ρ ls s' → s'.heap.IsTuple a #[.float b1 t1, .float b2 t2] → (∀ b o, s.heap.get? b = some o → s'.heap.get? b = some o) → Q (.ref a) s') : wpAny (model prog w) A (eval (.Tuple [e1, e2] kd pos) env) Q E s := by
  refine wpAny_Tuple (hes _ s _ _ X fun vs tk hvs _ => ?_)
  apply hvs.consE; intro _ _ h1 h2
  apply h2.consE; intro _ _ h2 h3
  apply h3.nilE; apply h1.e1 rfl; intro _; apply h2.e1 rfl; intro _
  refine ⟨(show 2 ≤ sizeLine by decide), k _ _ _ _ ((X.toks (tk := tk)).keeps (fun b o e => Heap.get?_push_of_some _ e) rfl rfl) ⟨_, Heap.get?_push_size _ rfl, rfl, _, rfl⟩ fun b o e => Heap.get?_push_of_some _ e⟩

/-- sumprod((a, b), (c, d)) of float names -/
theorem eval_sumprod_tup [TabKeep T] {p pos p1 p2 : Pos} {e1 e2 e3 e4 : Expr} {k1 k2 : Nat} {x u y v : UInt64} {Q : Value → Shared → Prop} (hA : A.handled = Option.none) (G : Gl P env h0 mg mb) (hk : env.kindOf "sumprod" = some .globalImplicit) (hg : mg "sumprod" = some (.builtin "math.sumprod"))
    (X : At P T h0 g0 o0 env ρ ls s) (h1 : PurL prog w A (At P T h0 g0 o0 env ρ ls) env [e1, e2] [.bits x, .bits u]) (h2 : PurL prog w A (At P T h0 g0 o0 env ρ ls) env [e3, e4] [.bits y, .bits v])
    (f1 : isFinite (tlFma x y Z3).1 = true) (f2 : isFinite (tlFma u v (tlFma x y Z3)).1 = true)
    (k : ∀ r s', Rep (.bits (Float64.add (Float64.ofInt 0) (tlToFloat (tlFma u v (tlFma x y Z3))))) r → At P T h0 g0 o0 env ρ ls s' → Q r s') :
    wpAny (model prog w) A (eval (.Call (.Name "sumprod" p) [.Tuple [e1, e2] k1 p1, .Tuple [e3, e4] k2 p2] [] pos) env) Q E s := by
  refine wpAny_Call_NameR (Pur.glob G hk hg rfl s _ _ X fun f tk hf htk => ?_)
  apply hf.e0 rfl
  refine PyProof.Rows.callWith_builtin1 (spliced_more (eval_tuple2 X.toks h1 fun a t1 t2 s₁ X₁ hT₁ _ => ?_) rfl) rfl rfl
  refine spliced_more (eval_tuple2 X₁ h2 fun b t3 t4 s₂ X₂ hT₂ hk₂ => spliced_nil ?_) rfl
  have hT₁' : s₂.heap.IsTuple a #[.float x t1, .float u t2] := let ⟨o, e, r⟩ := hT₁; ⟨o, hk₂ _ _ e, r⟩
  exact call_sumprod_pairs hA hT₁' hT₂ f1 f2 fun t h' tk' hkp => k _ _ (.bits _ _) (X₂.keeps hkp rfl rfl)
end

noncomputable def dSq : DefRec := defAt 18
/-- 2.0 -/
noncomputable abbrev two : UInt64 := 0x4000000000000000
/-- what _sqrtprod gives where the root is not zero -/
noncomputable def sqp (x y : UInt64) : UInt64 := Float64.add (Float64.sqrt (Float64.mul x y)) (Float64.div (Float64.add (Float64.ofInt 0) (tlToFloat (tlFma (Float64.sqrt (Float64.mul x y)) (Float64.neg (Float64.sqrt (Float64.mul x y))) (tlFma x y Z3)))) (Float64.mul two (Float64.sqrt (Float64.mul x y))))
structure SqOk (x y : UInt64) : Prop where
  real : ¬ (isNaN (Float64.sqrt (Float64.mul x y)) && !isNaN (Float64.mul x y)) = true
  fin : isFinite (Float64.sqrt (Float64.mul x y)) = true
  nz : isZero (Float64.sqrt (Float64.mul x y)) = false
  f1 : isFinite (tlFma x y Z3).1 = true
  f2 : isFinite (tlFma (Float64.sqrt (Float64.mul x y)) (Float64.neg (Float64.sqrt (Float64.mul x y))) (tlFma x y Z3)).1 = true
  nz2 : isZero (Float64.mul two (Float64.sqrt (Float64.mul x y))) = false
structure GlS (mg mb : Str → Option Value) : Prop where
  sqrt : mg "sqrt" = some (.builtin "math.sqrt")
  isfinite : mg "isfinite" = some (.builtin "math.isfinite")
  sumprod : mg "sumprod" = some (.builtin "math.sumprod")

section
variable {prog : Program} {w : World} {A : Around} {E : Value → Shared → Prop} {s : Shared} {env : Env} {P : List Addr} {T : Heap → Prop} {h0 : Heap} {g0 : Array GenState} {o0 : OsState} {mg mb : Str → Option Value} {Q : Flow → Shared → Prop}
theorem sq_body [TabKeep T] {x y : UInt64} (hA : A.handled = Option.none) (hsc : env.scope = dSq.scope) (G : Gl P env h0 mg mb) (gl : GlS mg mb) (hi : interactive env = false) (ok : SqOk x y)
    (X : At P T h0 g0 o0 env [("x", .bits x), ("y", .bits y)] [] s) (k : ∀ v s', Rep (.bits (sqp x y)) v → At P T h0 g0 o0 env [] [] s' → Q (.ret v) s') : wpAny (model prog w) A (execs dSq.body env) Q E s := by
  have hk : ∀ x, env.kindOf x = dSq.scope.names.lookup x := fun x => by unfold Env.kindOf; rw [hsc]
  refine s_doc X hi fun s₁ X₁ => ?_
  refine s_assign X₁ (.sqrt hA G ((hk _).trans rfl) gl.sqrt (.bin (.nm rfl) (.nm rfl) op_mul_bits) ok.real) (.inl ((hk _).trans rfl)) fun s₂ X₂ => ?_
  refine s_skip X₂ (.not (.name_bool (.isfin G ((hk _).trans rfl) gl.isfinite (.nm rfl)))) (by rw [ok.fin]; rfl) fun s₃ X₃ => ?_
  refine s_skip X₃ (.not (.bits (.nm rfl))) (by rw [ok.nz]; rfl) fun s₄ X₄ => ?_
  refine s_assignE (P := P) (T := T) (h0 := h0) (g0 := g0) (o0 := o0) (.inl ((hk _).trans rfl)) (eval_sumprod_tup hA G ((hk _).trans rfl) gl.sumprod X₄ (.cons (.nm rfl) (.cons (.nm rfl) .nil)) (.cons (.nm rfl) (.cons (.negb (.nm rfl)) .nil)) ok.f1 ok.f2 fun r s₅ hr X₅ => ⟨_, _, _, hr, X₅, fun s₆ X₆ => ?_⟩)
  exact s_ret X₆ (.bin (.nm rfl) (.bin (.nm rfl) (.bin .fconst (.nm rfl) op_mul_bits) (op_div_bits hA ok.nz2)) op_add_bits) fun v s' hv X' => k v s' hv (X'.weak sub_nil fun p hp => by cases hp)
/-- where the root is zero -/
theorem sq_body0 [TabKeep T] {x y : UInt64} (hA : A.handled = Option.none) (hsc : env.scope = dSq.scope) (G : Gl P env h0 mg mb) (gl : GlS mg mb) (hi : interactive env = false) (real : ¬ (isNaN (Float64.sqrt (Float64.mul x y)) && !isNaN (Float64.mul x y)) = true) (fin : isFinite (Float64.sqrt (Float64.mul x y)) = true) (nz : isZero (Float64.sqrt (Float64.mul x y)) = true) (hxy : (!isZero x && !isZero y) = false)
    (X : At P T h0 g0 o0 env [("x", .bits x), ("y", .bits y)] [] s) (k : ∀ v s', Rep (.bits (Float64.sqrt (Float64.mul x y))) v → At P T h0 g0 o0 env [] [] s' → Q (.ret v) s') : wpAny (model prog w) A (execs dSq.body env) Q E s := by
  have hk : ∀ x, env.kindOf x = dSq.scope.names.lookup x := fun x => by unfold Env.kindOf; rw [hsc]
  refine s_doc X hi fun s₁ X₁ => ?_
  refine s_assign X₁ (.sqrt hA G ((hk _).trans rfl) gl.sqrt (.bin (.nm rfl) (.nm rfl) op_mul_bits) real) (.inl ((hk _).trans rfl)) fun s₂ X₂ => ?_
  refine s_skip X₂ (.not (.name_bool (.isfin G ((hk _).trans rfl) gl.isfinite (.nm rfl)))) (by rw [fin]; rfl) fun s₃ X₃ => ?_
  refine s_if X₃ (.not (.bits (.nm rfl))) (fun _ s₄ X₄ => ?_) (fun h => by rw [nz] at h; cases h)
  refine s_skip X₄ (.and2 (.bits (.nm rfl)) (.bits (.nm rfl))) hxy fun s₅ X₅ => ?_
  exact s_ret X₅ (.nm rfl) fun v s' hv X' => k v s' hv (X'.weak sub_nil fun p hp => by cases hp)
end
end Mine
end
section
set_option maxRecDepth 100000
set_option exponentiation.threshold 3000
namespace Mine
open PySem PySem.Float64 PySem.Builtin.Math PySem.W PySem.Calls PyProof.Rows

section
variable {prog : Program} {w : World} {A : Around} {E : Value → Shared → Prop} {s : Shared} {P : List Addr} {T : Heap → Prop} {mg mb : Str → Option Value}
theorem call_sq_any [TabKeep T] {f : Addr} {x y r : UInt64} {vs : List Value} {Q : Value → Shared → Prop} (W : World0 P T mg mb s.heap) (F : FnAt s.heap dSq f .none) (hroom : A.depth < recursionLimit) (hvs : Reps [.bits x, .bits y] vs)
    (body : ∀ (env : Env) (s' : Shared) (A' : Around) (E' : Value → Shared → Prop) (Q' : Flow → Shared → Prop), A'.handled = A.handled → env.scope = dSq.scope → Gl P env s.heap mg mb → interactive env = false → At P T s.heap s.gens s.os env [("x", .bits x), ("y", .bits y)] [] s' →
      (∀ v s'', Rep (.bits r) v → At P T s.heap s.gens s.os env [] [] s'' → Q' (.ret v) s'') → wpAny (model prog w) A' (execs dSq.body env) Q' E' s')
    (k : ∀ v s', Rep (.bits r) v → After P T s s' → Q v s') : wpAny (model prog w) A (call (.ref f) vs) Q E s := by
  refine F.elim fun o pm cd doc ho hd hcd => ?_
  apply hvs.consE; intro _ _ h1 h2
  apply h2.consE; intro _ _ h2 h3
  apply h3.nilE; cases h1 with | bits _ t => cases h2 with | bits _ u =>
  refine enter W hroom ho hd hcd rfl (binds := [("x", .float x t), ("y", .float y u)]) (ρ := [("x", .bits x), ("y", .bits y)]) (ls := []) (BindsTo.of_eq rfl) (by show ∀ x ∈ dSq.scope.names, x.2 ≠ .cell; decide)
    (loc_of (by show ∀ n ∈ [("x" : Str), "y"], dSq.scope.names.lookup n = some .local; decide)) rfl rfl rfl (fun z av hx => ?_) (fun b l hm => by cases hm) (fun s' G X => ?_) rfl rfl rfl
  · rcases lookup_two hx with ⟨rfl, rfl⟩ | ⟨rfl, rfl⟩
    · exact ⟨_, rfl, .bits _ _⟩
    · exact ⟨_, rfl, .bits _ _⟩
  · exact body _ s' _ _ _ rfl rfl G rfl X fun v s'' hv X' => k v s'' hv X'.out
theorem call_sq [TabKeep T] {f : Addr} {x y : UInt64} {vs : List Value} {Q : Value → Shared → Prop} (hA : A.handled = Option.none) (W : World0 P T mg mb s.heap) (F : FnAt s.heap dSq f .none) (gl : GlS mg mb) (hroom : A.depth < recursionLimit) (hvs : Reps [.bits x, .bits y] vs) (ok : SqOk x y)
    (k : ∀ v s', Rep (.bits (sqp x y)) v → After P T s s' → Q v s') : wpAny (model prog w) A (call (.ref f) vs) Q E s :=
  call_sq_any W F hroom hvs (fun _ _ _ _ _ h1 h2 G hi X k' => sq_body (h1.trans hA) h2 G gl hi ok X k') k
theorem call_sq0 [TabKeep T] {f : Addr} {x y : UInt64} {vs : List Value} {Q : Value → Shared → Prop} (hA : A.handled = Option.none) (W : World0 P T mg mb s.heap) (F : FnAt s.heap dSq f .none) (gl : GlS mg mb) (hroom : A.depth < recursionLimit) (hvs : Reps [.bits x, .bits y] vs)
    (real : ¬ (isNaN (Float64.sqrt (Float64.mul x y)) && !isNaN (Float64.mul x y)) = true) (fin : isFinite (Float64.sqrt (Float64.mul x y)) = true) (nz : isZero (Float64.sqrt (Float64.mul x y)) = true) (hxy : (!isZero x && !isZero y) = false)
    (k : ∀ v s', Rep (.bits (Float64.sqrt (Float64.mul x y))) v → After P T s s' → Q v s') : wpAny (model prog w) A (call (.ref f) vs) Q E s :=
  call_sq_any W F hroom hvs (fun _ _ _ _ _ h1 h2 G hi X k' => sq_body0 (h1.trans hA) h2 G gl hi real fin nz hxy X k') k
end
end Mine
end
section
set_option maxRecDepth 100000
set_option exponentiation.threshold 3000
namespace Mine
open PySem PySem.Float64 PySem.Builtin.Math PySem.W PySem.Calls PyProof.Rows

theorem isF_two : IsF two 2 := by
  have h : two = Float64.ofInt 2 := by decide +kernel
  rw [h]; exact isF_ofInt (by decide)
/-- a product that is a square -/
theorem sq_square {x y : UInt64} {a b : Int} {k : Nat} (hx : IsF x a) (hy : IsF y b) (hab : a * b = (k : Int) * k) (h0 : k ≠ 0) (hk : k ≤ 2 ^ 25) : SqOk x y ∧ IsF (sqp x y) k := by
  have hk2 : ((k : Int) * k).natAbs ≤ 2 ^ 50 := by
    rw [Int.natAbs_mul]
    exact Nat.le_trans (Nat.mul_le_mul (by omega) (by omega)) (show 2 ^ 25 * 2 ^ 25 ≤ 2 ^ 50 by decide)
  have hm : IsF (Float64.mul x y) ((k : Int) * k) := by rw [← hab]; exact isF_mul hx hy (by rw [hab]; omega)
  have hs : IsF (Float64.sqrt (Float64.mul x y)) k := isF_sqrt hm h0 (by omega)
  have hn : IsF (Float64.neg (Float64.sqrt (Float64.mul x y))) (-(k : Int)) := isF_neg hs
  have t1 := tlFma_exact hx hy T3.zero (by decide) (by rw [hab]; omega) (by rw [hab]; omega)
  have e2 : (0 : Int) + a * b + (k : Int) * (-(k : Int)) = 0 := by rw [hab, Int.mul_neg]; omega
  have t2 := tlFma_exact hs hn t1 (by rw [hab]; omega) (by rw [Int.mul_neg, Int.natAbs_neg]; omega) (by rw [e2]; decide)
  rw [e2] at t2
  have hd := isF_add (isF_ofInt (n := 0) (by decide)) (tlToFloat_exact t2 (by decide)) (by decide)
  have h2 : IsF (Float64.mul two (Float64.sqrt (Float64.mul x y))) (2 * (k : Int)) := isF_mul isF_two hs (by omega)
  have hq := isF_div (q := 0) (b := 2 * (k : Int)) (by rw [Int.zero_mul]; exact hd) h2 (by omega) (by decide)
  have hr := isF_add hs hq (by rw [Int.add_zero]; omega)
  rw [Int.add_zero] at hr
  refine ⟨⟨?_, isF_finite hs, ?_, isF_finite t1.1, isF_finite t2.1, ?_⟩, hr⟩
  · rw [isF_notNaN hs]; exact Bool.false_ne_true
  · rw [isF_isZero hs]; simp [h0]
  · rw [isF_isZero h2]; simp [h0]
theorem sqrt_zero {z : UInt64} (h : isZero z = true) : Float64.sqrt z = z := by
  unfold isZero at h
  unfold Float64.sqrt
  cases hd : decode z with
  | nan => rw [hd] at h; cases h
  | inf s => rw [hd] at h; cases h
  | fin s m e =>
    rw [hd] at h
    cases m with
    | zero => rfl
    | succ m => cases h
/-- a product that is zero -/
theorem sq_zero {x y : UInt64} {a b : Int} (hx : IsF x a) (hy : IsF y b) (hab : a * b = 0) : (¬ (isNaN (Float64.sqrt (Float64.mul x y)) && !isNaN (Float64.mul x y)) = true) ∧ isFinite (Float64.sqrt (Float64.mul x y)) = true ∧ isZero (Float64.sqrt (Float64.mul x y)) = true ∧ (!isZero x && !isZero y) = false := by
  have hm : IsF (Float64.mul x y) 0 := by rw [← hab]; exact isF_mul hx hy (by rw [hab]; decide)
  have hz : isZero (Float64.mul x y) = true := by rw [isF_isZero hm]; decide
  rw [sqrt_zero hz, isF_notNaN hm, isF_isZero hx, isF_isZero hy]
  refine ⟨by decide, isF_finite hm, hz, ?_⟩
  rcases Int.mul_eq_zero.mp hab with h | h <;> simp [h]
end Mine
end
section
set_option maxRecDepth 100000
namespace Mine
open PySem PySem.W PySem.Calls PyProof.Rows

theorem LineAt.inst {h : Heap} {C x : Addr} {it : Array Value} (l : LineAt h C x it) : ∃ ox od n, InstAt h x ox C (some od) ∧ ox.data = .seq it n := by
  obtain ⟨ox, n, dx, od, h1, h2, h3, h4, h5, _⟩ := l
  exact ⟨ox, od, n, ⟨h1, h2, by unfold notCls; rw [h3], by rw [h4]; exact h5⟩, h3⟩
theorem LineAt.grow {P : List Addr} {h h' : Heap} {C x : Addr} {it : Array Value} (l : LineAt h C x it) (g : Grow P h h') (hP : ∀ p ∈ P, p < nT) : LineAt h' C x it := by
  obtain ⟨ox, n, dx, od, h1, h2, h3, h4, h5, h6, h7⟩ := l
  have np : ∀ {b : Addr}, nT ≤ b → b ∉ P := fun hb q => Nat.lt_irrefl _ (Nat.lt_of_lt_of_le (hP _ q) hb)
  obtain ⟨od', h8, _⟩ := g dx od (np h6) h5
  exact ⟨ox, n, dx, od', g.plain (np h7) (fun es ep q => by rw [h3] at q; cases q) h1, h2, h3, h4, h8, h6, h7⟩

section
variable {prog : Program} {w : World} {A : Around} {E : Value → Shared → Prop} {s : Shared} {K : Frag} {C S F : Addr}
theorem issub_tuple {Q : Value → Shared → Prop} (X : K.In s.heap) (hc : ∃ cd, clsIn K C = some cd ∧ cd.mro = [.ref C, .type "tuple", .type "object"]) (h : Q (.bool true) s) : wpAny (model prog w) A (call (.builtin "issubclass") [.ref C, .type "tuple"]) Q E s := by
  obtain ⟨cd, hcd, hm⟩ := hc
  obtain ⟨oc, od, sl, ho⟩ : ∃ oc od sl, K.lookup C = some ⟨oc, od, .cls cd, sl⟩ := by
    unfold clsIn at hcd
    split at hcd
    · rename_i oc od cd' sl e; cases hcd; exact ⟨oc, od, sl, e⟩
    · cases hcd
  obtain ⟨hh, g, d, tk, os⟩ := s
  have e4 : cd.mro.isEmpty = false := by rw [hm]; rfl
  have L1 : Looks (model prog w) hh (isType (.ref C)) true := (Looks.ld (X _ _ ho)).andThen .now
  have L2 : Looks (model prog w) hh (isSubtype (.ref C) (.type "tuple")) true := looks_mroIn X (by unfold mroIn; rw [hcd, Option.bind_some, if_neg (by rw [e4]; decide), hm]; simp)
  have L3 : Looks (model prog w) hh (typeOf (.type "tuple")) (.type "type") := Looks.of_pure (by first | rfl | kernel_rfl)
  have L4 : Looks (model prog w) hh (isType (.type "tuple")) true := .now
  refine wpAny_call (codeAny_call_builtin F.plain_issubclass F.entry_issubclass ?_)
  simp only [checkBuiltinCall, F.kind_issubclass]
  have ok := F.args_issubclass_2 (.ref C) (.type "tuple")
  unfold argsOk at ok
  have fin : wpAny (model prog w) A.in1 (Builtin.«issubclass» ⟨[.ref C, .type "tuple"], []⟩) (fun fin s' => match fin with | .done f => (match (Except.ok f : Result) with | .ok (.ret v) => Q v s' | .ok _ => False | .error e => E e s') | .again c' => c'.quiet = true ∧ codeAny (model prog w) A c' (fun r s' => match r with | .ok (.ret v) => Q v s' | .ok _ => False | .error e => E e s') s') (fun e s' => E e s') ⟨hh, g, d, tk, os⟩ := by
    refine issubclass_outer (R := fun r s' => match r with | .ok (.ret v) => Q v s' | .ok _ => False | .error e => E e s') ?_
    unfold Builtin.«issubclass.nested»
    refine wpAny_bind (L3.at ?_)
    first | refine wpAny_ite_true (by decide +kernel) ?_ | rw [if_pos (by decide +kernel)]
    refine wpAny_bind (wpAny_bind (L1.at (wpAny_bind (L4.at ?_))))
    first | refine wpAny_ite_true (by decide) ?_ | rw [if_pos (by decide)]
    exact L2.at (wpAny_pure h)
  cases hsig : Manifest.signature? "issubclass" with
  | none => exact wpAny_pure fin
  | some sig =>
    simp only [hsig] at ok
    show wpAny _ _ (Bind.checkArgs "issubclass" sig ⟨[.ref C, .type "tuple"], []⟩) _ _ _
    have h2 : Bind.checkArgs "issubclass" sig ⟨[.ref C, .type "tuple"], []⟩ = pure () := ok
    rw [h2]; exact wpAny_pure fin

theorem tuple_item {x : Addr} {v1 v2 v : Value} {i : Int} {u : Tok} {Q : Value → Shared → Prop} (X : K.In s.heap) (hc : mroIn K C (.type "tuple") = some true) (l : LineAt s.heap C x #[v1, v2]) (hi : i = 0 ∧ v = v1 ∨ i = 1 ∧ v = v2) (h : Q v s) :
    wpAny (model prog w) A (call (.builtin "tuple.__getitem__") [.ref x, .int i u]) Q E s := by
  obtain ⟨ox, n, dx, od, h1, h2, h3, h4, h5, _⟩ := l
  obtain ⟨c, d', dt, sl⟩ := ox
  dsimp only at h2 h3 h4
  subst h2 h3 h4
  obtain ⟨hh, g, d, tk, os⟩ := s
  have L1 : Looks (model prog w) hh (isInstance (.ref x) (.type "tuple")) true := (show Looks (model prog w) hh (typeOf (.ref x)) (.ref C) from (Looks.ld h1).andThen .now).andThen (looks_mroIn X hc)
  refine wpAny_call (codeAny_call_builtin (by decide +kernel) entry_tuple_getitem (@check_slot (model prog w) _ _ _ "tuple.__getitem__" "tuple" "__getitem__" (.ref x) [.int i u] [] _ (by decide +kernel) (by decide +kernel) L1 (args_tuple_getitem _ _) ?_))
  have f1 := AutoSeq1.idx_int
  have h1' : (⟨hh, g, d, tk, os⟩ : Shared).heap.get? x = some { cls := .ref C, dict := some dx, data := .seq #[v1, v2] n, slots := sl } := h1
  rcases hi with ⟨rfl, rfl⟩ | ⟨rfl, rfl⟩ <;> (wp_walk; exact h)
end
end Mine
end
section
set_option maxRecDepth 100000
namespace Mine
open PySem PySem.W PySem.Calls PyProof.Rows
section
variable {prog : Program} {w : World} {A : Around} {E : Value → Shared → Prop} {s : Shared} {K : Frag} {x C : Addr} {ox : Obj} {od : Option Obj} {name : Str} {expr : Bool} {Q : Value → Shared → Prop}
/-- an attribute of an instance of a subclass of tuple -/
theorem get_bindT {f : Addr} {a : Value} (X : K.In s.heap) (I : InstAt s.heap x ox C od) (hga : findIn K (.ref C) "__getattribute__" = some (some (.builtin "tuple.__getattribute__")))
    (hc : mroIn K C (.type "tuple") = some true)
    (hf : findObj K C od name = some (.bind (.ref f) a)) (hk : findIn K (.ref C) "__getattr__" = some none)
    (h : wpAny (model prog w) A.in1 (call (.ref f) [a, .ref x, .ref C]) (fun v s' => wpAny (model prog w) A (handedOut v) Q E s') (fun e s' => wpAny (model prog w) A (getattributeRaised (.ref x) (.str name s.toks) (.ref C) e none true expr) Q E s') { s with toks := s.toks + 1 }) :
    wpAny (model prog w) A (getAttr (.ref x) name expr) Q E s := by
  obtain ⟨hh, g, d, t, os⟩ := s
  have L0 := I.type (M := model prog w)
  have L1 := looks_findIn (M := model prog w) X hga
  have L2 := looks_findIn (M := model prog w) X hk
  have L3 := looks_find (M := model prog w) X I hf
  have LI : Looks (model prog w) hh (isInstance (.ref x) (.type "tuple")) true := L0.andThen (looks_mroIn X hc)
  have f3 := F.slot_tuple_getattribute.bind (.ref x)
  unfold getAttr getAttrBy
  refine wpAny_bind (wpAny_mkText (wpAny_holding (wpAny_bind (L0.at (wpAny_bind (L1.at ?_))))))
  show wpAny _ _ (getAttrByItsOwn _ _ _ _ _ _) _ _ _
  unfold getAttrByItsOwn
  refine wpAny_bind (L2.at (wpAny_bind (wpAny_attempt (wpAny_holding ?_))))
  have e1 : callGetattribute (.ref x) (.str name t) (.builtin "tuple.__getattribute__") expr = boundAndCalled (.builtin "tuple.__getattribute__") (.ref x) (.str name t) := by
    unfold callGetattribute
    rw [show onTheHeap (.builtin "tuple.__getattribute__") = false from rfl, Bool.and_false]
    rfl
  rw [e1]
  unfold boundAndCalled
  rw [f3]
  refine wpAny_bind (wpAny_pure ?_)
  show wpAny _ _ (call (.builtin "tuple.__getattribute__") [.ref x, .str name t]) _ _ _
  refine wpAny_call (codeAny_call_builtin F.slot_tuple_getattribute.plain F.entry_tuple_ga (@check_slot (model prog w) _ _ _ "tuple.__getattribute__" "tuple" "__getattribute__" (.ref x) [.str name t] [] _ (by decide +kernel) (by decide +kernel) LI (F.args_tuple_getattribute_2 _ _) ?_))
  refine wpAny_bind (wpAny_pure (wpAny_bind (wpAny_pure (wpAny_bind (L0.at (wpAny_bind (L3.at ?_)))))))
  show wpAny _ _ (holding [a] (call (.ref f) [a, .ref x, .ref C]) >>= ret) _ _ _
  exact wpAny_bind (wpAny_holding (wpAny_mono h (fun v s' z => wpAny_pure z) fun _ _ z => z))
end
end Mine
end
section
set_option maxRecDepth 100000
namespace Mine
open PySem PySem.W PySem.Calls PyProof.Rows

/-- a field's reader, as the top left it -/
structure Getter (K : Frag) (B D : Addr) (i : Int) : Prop where
  obj : ∃ ox od dd, K.lookup D = some ox ∧ ox.cls = .ref B ∧ notCls ox = true ∧ ox.dict = some dd ∧ K.lookup dd = some od ∧ ∃ u, findObj K B (some od) "index" = some (.value (.int i u))
  hga : findIn K (.ref B) "__getattribute__" = some (some (.builtin "object.__getattribute__"))
structure GlG (mg mb : Str → Option Value) : Prop where
  issub : mg "issubclass" = none ∧ mb "issubclass" = some (.builtin "issubclass")
  type : mg "type" = none ∧ mb "type" = some (.type "type")
  tuple : mg "tuple" = none ∧ mb "tuple" = some (.type "tuple")

section
variable {prog : Program} {w : World} {A : Around} {E : Value → Shared → Prop} {s : Shared} {env : Env} {P : List Addr} {T : Heap → Prop} {h0 : Heap} {g0 : Array GenState} {o0 : OsState} {ρ : List (Str × AV)} {ls : List (Addr × HV)} {mg mb : Str → Option Value} {K : Frag} {B C D S F x : Addr} {v1 v2 v : Value} {i : Int}

theorem op_isref_none {a : Addr} : Op2 prog w A (compareOp .Is) (.ref a) .none (.bool false) := by
  intro va vb s Q E ha hb k; apply ha.e0 rfl; apply hb.e0 rfl
  exact wpAny_is_plain rfl (k _ s.toks (.bool _) (Nat.le_refl _))

theorem get_body [TabKeep T] {Q : Flow → Shared → Prop} (hsc : env.scope = dGet.scope) (G : Gl P env h0 mg mb) (gl : GlG mg mb) (gt : Getter K B D i) (hc : ∃ cd, clsIn K C = some cd ∧ cd.mro = [.ref C, .type "tuple", .type "object"])
    (hi : i = 0 ∧ v = v1 ∨ i = 1 ∧ v = v2)
    (hK : ∀ s', At P T h0 g0 o0 env [("self", .ref D), ("obj", .ref x), ("objtype", .ref C)] [] s' → K.In s'.heap ∧ LineAt s'.heap C x #[v1, v2])
    (X : At P T h0 g0 o0 env [("self", .ref D), ("obj", .ref x), ("objtype", .ref C)] [] s)
    (k : ∀ s' , At P T h0 g0 o0 env [("self", .ref D), ("obj", .ref x), ("objtype", .ref C)] [] s' → Q (.ret v) s') : wpAny (model prog w) A (execs dGet.body env) Q E s := by
  have hk : ∀ x, env.kindOf x = dGet.scope.names.lookup x := fun x => by unfold Env.kindOf; rw [hsc]
  refine s_skip X (.cmp (.nm rfl) .none op_isref_none) rfl fun s₁ X₁ => ?_
  refine s_skip X₁ (b := false) (Tst.not (b := true) (Tst.name_bool ?_)) rfl fun s₂ X₂ => ?_
  · intro s Q E Y h
    refine wpAny_Call_NameR (Pur.blt G ((hk _).trans rfl) gl.issub.1 gl.issub.2 rfl s _ _ Y fun f tk hf htk => ?_)
    apply hf.e0 rfl
    refine PyProof.Rows.callWith_builtin1 (spliced_more (wpAny_Call_NameR (Pur.blt G ((hk _).trans rfl) gl.type.1 gl.type.2 rfl _ _ _ Y.toks fun f tk' hf htk' => ?_)) rfl) rfl rfl
    apply hf.e0 rfl
    refine PyProof.Rows.callWith_type1 (PurL.cons (.nm rfl) .nil rfl _ _ _ _ Y.toks fun vs tk₂ hvs htk₂ => ?_) rfl rfl
    apply hvs.consE; intro _ _ h1 h2
    apply h2.nilE; apply h1.e0 rfl
    obtain ⟨ox, od, n, I, _⟩ := (hK _ (Y.toks (tk := tk₂))).2.inst
    refine kto_own I ?_
    refine spliced_more (Pur.blt G ((hk _).trans rfl) gl.tuple.1 gl.tuple.2 rfl _ _ _ Y.toks fun f tk₃ hf htk₃ => spliced_nil ?_) rfl
    apply hf.e0 rfl
    exact issub_tuple (hK _ (Y.toks (tk := tk₃))).1 hc (h _ _ (.bool _) (Nat.le_trans htk (Nat.le_trans htk' (Nat.le_trans htk₂ htk₃))))
  · refine wpAny_execs_cons (wpAny_Return_some (eval_tuple_m (id := "tuple.__getitem__") (Pur.blt G ((hk _).trans rfl) gl.tuple.1 gl.tuple.2 rfl s₂ _ _ X₂ fun f tk hf _ => ?_) (by kernel_rfl) (by decide +kernel) ⟨_, _, rfl⟩ rfl rfl rfl rfl))
    apply hf.e0 rfl
    refine ⟨rfl, spliced_more (Pur.nm (av := .ref x) rfl (by decide) _ _ _ X₂.toks fun f tk' hf _ => ?_) rfl⟩
    apply hf.e0 rfl
    refine spliced_more (Attribute_Name_ (Pur.nm (av := .ref D) rfl (by decide) _ _ _ X₂.toks fun f tk₂ hf _ => ?_)) rfl
    apply hf.e0 rfl
    have Y := X₂.toks (tk := tk₂)
    obtain ⟨XK, hl⟩ := hK _ Y
    obtain ⟨ox, od, dd, e1, e2, e3, e4, e5, u, e6⟩ := gt.obj
    have I : InstAt s₂.heap D ox B (some od) := ⟨XK _ _ e1, e2, e3, by rw [e4]; exact XK _ _ e5⟩
    refine get_value XK I gt.hga e6 rfl ?_
    refine spliced_nil ?_
    obtain ⟨cd, hcd, hm⟩ := hc
    exact tuple_item (hK _ X₂.toks).1 (by unfold mroIn; rw [hcd, Option.bind_some, hm]; rfl) (hK _ X₂.toks).2 hi (k _ X₂.toks)

/-- line.name -/
structure Field (K : Frag) (C B D Fg : Addr) (name : Str) (i : Int) : Prop where
  cls : ∃ cd, clsIn K C = some cd ∧ cd.mro = [.ref C, .type "tuple", .type "object"]
  hga : findIn K (.ref C) "__getattribute__" = some (some (.builtin "tuple.__getattribute__"))
  hgh : findIn K (.ref C) "__getattr__" = some none
  attr : findIn K (.ref C) name = some (some (.ref D))
  get : specialIn K (.ref D) "__get__" = some (some (.ref Fg))
  set : takesIn K (.ref D) = some true
  gt : Getter K B D i
/-- the addresses of the top's objects -/
noncomputable def KOk (P : List Addr) (K : Frag) : Prop := ∀ a o, K.lookup a = some o → a ∉ P ∧ a < nT
theorem Frag.In.grow {h h' : Heap} (X : K.In h) (g : Grow P h h') (hK : KOk P K) : K.In h' := fun a o e => g.low (hK a o e).1 (hK a o e).2 (X a o e)

theorem read_field [TabKeep T] [TabFields P T] {Fg Td : Addr} {name q y : Str} {p pos : Pos} {Q : Value → Shared → Prop} (W : World0 P T mg mb h0) (hroom : A.depth < recursionLimit) (gl : GlG mg mb) (fd : Field K C B D Fg name i) (hKP : KOk P K) (XK : K.In h0) (fn : ∀ h, K.In h → FnQ h dGet q Fg (.ref Td) .none)
    (htd : ∃ o n, K.lookup Td = some o ∧ o.data = .seq #[.none] n)
    (hi : i = 0 ∧ v = v1 ∨ i = 1 ∧ v = v2) (X : At P T h0 g0 o0 env ρ ls s) (hnp : ∀ a fp h, (a, HV.pin fp h) ∉ ls) (hy : ρ.lookup y = some (.ref x)) (hyd : (y == ("__debug__" : Str)) = false) (hl : LineAt s.heap C x #[v1, v2]) (hv : handedIn v = true)
    (k : ∀ s', At P T h0 g0 o0 env ρ ls s' → LineAt s'.heap C x #[v1, v2] → Q v s') : wpAny (model prog w) A (eval (.Attribute (.Name y p) name pos) env) Q E s := by
  refine Attribute_Name_ (Pur.nm hy hyd _ _ _ X fun f tk hf _ => ?_)
  apply hf.e0 rfl
  have Y := X.toks (tk := tk)
  have low := TabFields.low (P := P) _ X.tb
  obtain ⟨ox, od, n, I, _⟩ := hl.inst
  have XK' := Frag.In.grow XK X.grow hKP
  obtain ⟨cd, hcd', hm⟩ := fd.cls
  refine get_bindT (s := { s with toks := tk }) XK' I fd.hga (by unfold mroIn; rw [hcd', Option.bind_some, hm]; rfl) (findObj_data (by rw [hcd']; rfl) fd.attr fd.get fd.set) fd.hgh ?_
  refine (fn _ XK').elim fun o pm cd' doc ho hdat hcr => ?_
  obtain ⟨oT, nt, hT1, hT2⟩ := htd
  have W' : World0 P T mg mb s.heap := X.world W
  refine enter (s := { s with toks := tk + 1 }) W' hroom ho hdat hcr rfl (binds := [("self", .ref D), ("obj", .ref x), ("objtype", .ref C)]) (ρ := [("self", .ref D), ("obj", .ref x), ("objtype", .ref C)]) (ls := [])
    (BindsTo.of_defaults (T := Td) rfl (XK' _ _ hT1) hT2 rfl rfl) (by show ∀ x ∈ dGet.scope.names, x.2 ≠ .cell; decide)
    (loc_of (by show ∀ n ∈ [("self" : Str), "obj", "objtype"], dGet.scope.names.lookup n = some .local; decide)) rfl rfl rfl (fun x av hx => ?_) (fun b l hm => by cases hm) (fun s' G' X' => ?_) rfl rfl rfl
  · rw [List.lookup_cons] at hx
    by_cases e : x = "self"
    · subst e
      cases hx
      exact ⟨_, rfl, .ref D⟩
    · rw [beq_eq_false_iff_ne.mpr e] at hx
      rcases lookup_two hx with ⟨rfl, rfl⟩ | ⟨rfl, rfl⟩
      · exact ⟨_, rfl, .ref _⟩
      · exact ⟨_, rfl, .ref _⟩
  · refine get_body rfl G' gl fd.gt ⟨cd, hcd', hm⟩ hi (fun s'' Z => ⟨Frag.In.grow XK' Z.grow hKP, hl.grow Z.grow low⟩) X' fun s'' Z => ?_
    have af : After P T s s'' := ⟨Z.grow, Z.tb, Z.gens, Z.os⟩
    exact handed_on hv (k s'' (X.call af fun a fp h hm => absurd hm (hnp a fp h)) (hl.grow Z.grow low))
end
end Mine
end
section
set_option maxRecDepth 100000
namespace Mine
open PySem PySem.W PySem.Calls PyProof.Rows
namespace B
theorem entry_unchain : entryFor table "proto.unchain" = some Builtin.«proto.unchain» := entryFor_of_tree (by kernel_rfl)
theorem plain_unchain : plainId "proto.unchain" = true := by decide +kernel
end B
end Mine
end
section
set_option maxRecDepth 100000
namespace Mine
open PySem PySem.W PySem.Calls PyProof.Rows
section
variable {prog : Program} {w : World} {A : Around} {E : Value → Shared → Prop} {s : Shared}
theorem unchain_none {v h : Value} {a : Addr} {o : Obj} {vs : Array Value} {Q : Value → Shared → Prop} (ho : s.heap.get? a = some o) (hd : o.data = .fields vs) (hi : vs[2]? = some .none) (k : Q .none s) :
    wpAny (model prog w) A (runValue (.builtin "proto.unchain" ⟨[v, .ref a, h, .bool false], []⟩)) Q E s := by
  refine wpAny_runValue (codeAny_builtin B.entry_unchain ?_)
  unfold Builtin.«proto.unchain»
  exact wpAny_bind (wpAny_field ho hd hi (wpAny_pure k))
/-- a raise while another exception is handled -/
theorem raiseNew_in {α : Type} {e h : Addr} {oe oh : Obj} {ve vh : Array Value} {Q : α → Shared → Prop} (hh : A.handled = some (.ref h)) (hne : h ≠ e) (ho : s.heap.get? h = some oh) (hd : oh.data = .fields vh) (hi : vh[2]? = some .none)
    (he : s.heap.get? e = some oe) (hed : oe.data = .fields ve) (h2 : 2 < ve.size) (k : E (.ref e) { s with heap := s.heap.update e (Obj.mapFields (·.setIfInBounds 2 (.ref h))) }) : wpAny (model prog w) A (raiseNew (.ref e) : Sem α) Q E s := by
  unfold raiseNew
  refine wpAny_bind (wpAny_handled ?_)
  rw [hh]
  dsimp only
  have hb : (Value.ref h != Value.ref e) = true := by simp [hne]
  rw [if_pos hb]
  refine wpAny_bind (wpAny_holding (unchain_none ho hd hi ?_))
  exact wpAny_bind (wpAny_setField he hed h2 (wpAny_throw k))
end
end Mine
end
section
set_option maxRecDepth 100000
namespace Mine
open PySem PySem.W PySem.Calls PyProof.Rows
section
variable {M : Model} {prog : Program} {w : World} {A : Around} {E : Value → Shared → Prop} {s : Shared} {env : Env}
variable {nm q : Str} {C N : Addr} {bs bm : List Value} {hdct : Bool} {sn : List Str} {sub : List Value} {ab : Bool} {col : Option Bool} {dd : Option Addr} {k0 k1 k2 k3 k5 : Option Value} {B newId initId : String}

theorem raiseStmt_in {x : Sem Value} {Q : Flow → Shared → Prop} {h : Addr} (hbase : bm.contains (.type "BaseException") = true) (hh : A.handled = some (.ref h))
    (hx : wpAny (model prog w) A x (fun v s₁ => ∃ e t oh vh, v = .ref e ∧ s₁.heap.get? C = some (excClassObj nm q C N bs bm hdct sn sub ab col dd k0 k1 k2 k3 k5 newId) ∧
      s₁.heap.get? e = some { cls := .ref C, data := .fields #[.ref t, .none, .none, .none, .bool false, .none] } ∧ h ≠ e ∧ s₁.heap.get? h = some oh ∧ oh.data = .fields vh ∧ vh[2]? = some .none ∧
      E (.ref e) { s₁ with heap := s₁.heap.update e (Obj.mapFields (·.setIfInBounds 2 (.ref h))) }) E s) :
    wpAny (model prog w) A (raiseStmt env (some x) none) Q E s := by
  have hcB : (Value.ref C :: bm).contains (.type "BaseException") = true := by rw [List.contains_cons, hbase, Bool.or_true]
  unfold raiseStmt
  refine wpAny_bind (wpAny_mono hx (fun v s₁ h₁ => ?_) fun _ _ x => x)
  obtain ⟨e, t, oh, vh, rfl, hC, he, hne, ho, hd, hi, hE⟩ := h₁
  obtain ⟨hp, g, d, tk, os⟩ := s₁
  repeat (first | with_reducible refine wpAny_loadPart_at he ?_ | with_reducible refine wpAny_loadPart_at hC ?_ | (with_reducible refine wpAny_isSubtype_exc hC ?_; rw [hcB]) | wp_step)
  exact raiseNew_in hh hne ho hd hi he rfl (show (2 : Nat) < 6 from by decide) hE

theorem raise_in (F : ExcBaseFacts B newId initId bm) {mN : Str → Option Value} {x : Str} {np cpos pos : Pos} {args : List Expr} {Q : Flow → Shared → Prop} {h : Addr}
    (hh : A.handled = some (.ref h)) (hplain : (backTo cpos (starEach args env)).any (·.1) = false) (hni : mN "__init__" = none)
    (hx : wpAny (model prog w) A (eval (.Name x np) env) (fun f s₁ => f = .ref C ∧ wpAny (model prog w) A (evalArgs (.ref C) true (backTo cpos (starEach args env)) [])
      (fun a s₂ => a.kw = [] ∧ a.pos.length ≤ sizeLine ∧ s₂.heap.get? C = some (excClassObj nm q C N bs bm hdct sn sub ab col dd k0 k1 k2 k3 k5 newId) ∧ s₂.heap.Ns N mN ∧
        (∃ oh vh, s₂.heap.get? h = some oh ∧ oh.data = .fields vh ∧ vh[2]? = some .none) ∧
        ∀ h' e, Heap.MadeExcOf s₂.heap h' e (.ref C) a.pos → E (.ref e) { s₂ with heap := h'.update e (Obj.mapFields (·.setIfInBounds 2 (.ref h))) }) E s₁) E s) :
    wpAny (model prog w) A (exec (.Raise (some (.Call (.Name x np) args [] cpos)) none pos) env) Q E s := by
  rw [arm_exec_Raise]
  refine wpAny_bind (wpAny_standAt (raiseStmt_in (h := h) (C := C) (nm := nm) (q := q) (N := N) (bs := bs) (bm := bm) (hdct := hdct) (sn := sn) (sub := sub) (ab := ab) (col := col) (dd := dd) (k0 := k0) (k1 := k1) (k2 := k2) (k3 := k3) (k5 := k5) (newId := newId) F.hasBase hh ?_))
  refine wpAny_bind (wpAny_mono (wpAny_Call_ofName (wpAny_mono hx (fun f s₁ h₁ => ?_) fun _ _ x => x)) (fun v s₃ h₃ => wpAny_bind (wpAny_standAt (wpAny_pure h₃))) fun _ _ x => x)
  obtain ⟨rfl, h₁⟩ := h₁
  unfold callWith
  refine wpAny_bind (wpAny_holding (wpAny_mono h₁ (fun a s₂ h₂ => wpAny_bind (wpAny_standAt ?_)) fun _ _ x => x))
  obtain ⟨apos, akw⟩ := a
  obtain ⟨hkw, hlen, hC, hn, ⟨oh, vh, ho, hd, hi⟩, h₂⟩ := h₂
  obtain rfl : akw = [] := hkw
  obtain ⟨hp, g, d, tk, os⟩ := s₂
  simp only [hplain]
  refine wpAny_bind (wpAny_keeperOf_exc hC ?_)
  refine wpAny_bind (wpAny_call_exc_sub (hrest := hlen) F hC hn hni fun h' e hm => wpAny_bind (wpAny_holding (wpAny_point (wpAny_pure ?_))))
  obtain ⟨t, ht, _, _⟩ := hm.there
  have hne : h ≠ e := by
    intro qq
    have hn' := hm.new
    rw [← qq] at hn'
    have ho' : hp.get? h = some oh := ho
    rw [hn'] at ho'; cases ho'
  exact ⟨e, t, oh, vh, rfl, hm.keeps _ _ hC, ht, hne, hm.keeps _ _ ho, hd, hi, h₂ h' e hm⟩
end
end Mine
end
section
set_option maxRecDepth 100000
namespace Mine
open PySem PySem.W PySem.Calls PyProof.Rows

/-- the frames under an activation -/
noncomputable def Chain (P : List Addr) (h : Heap) (l : List Env) : Prop := ∀ env ∈ l, env.scope.kind ≠ .module ∧ ∃ L m, env.frame = some L ∧ topOf P < L ∧ h.Ns L m
theorem Chain.grow {P : List Addr} {h h' : Heap} {l : List Env} (c : Chain P h l) (hg : Grow P h h') (hP : ∀ p ∈ P, p < nT) : Chain P h' l := fun env he =>
  let ⟨h1, L, m, h2, h3, h4⟩ := c env he
  ⟨h1, L, m, h2, h3, hg.ns (fun q => Nat.lt_irrefl _ (Nat.lt_of_lt_of_le (hP L q) (Nat.le_trans nT_top h3))) h4⟩
theorem Chain.cons {P : List Addr} {h : Heap} {env : Env} {l : List Env} {L : Addr} {m : Str → Option Value} (hk : env.scope.kind ≠ .module) (hf : env.frame = some L) (hL : topOf P < L) (hn : h.Ns L m) (c : Chain P h l) : Chain P h (env :: l) := fun x hx => by
  rcases List.mem_cons.mp hx with q | q
  · rw [q]; exact ⟨hk, L, m, hf, hL, hn⟩
  · exact c x q
noncomputable abbrev framesOf (l : List Env) : List Addr := l.filterMap (·.frame)

/-- a heap less some places -/
noncomputable def blank (h : Heap) (F : List Addr) : Heap := ⟨Array.ofFn fun i : Fin h.objs.size => if i.val ∈ F then { cls := .none, data := .freed } else h.objs[i], h.life⟩
theorem blank_in {h : Heap} {F : List Addr} {b : Addr} (hb : b ∈ F) : (blank h F).get? b = none := by
  unfold Heap.get? blank
  by_cases hl : b < h.objs.size
  · rw [Array.getElem?_ofFn]; simp [hl, hb]
  · rw [Array.getElem?_ofFn]; simp [hl]
theorem blank_out {h : Heap} {F : List Addr} {b : Addr} (hb : b ∉ F) : (blank h F).get? b = h.get? b := by
  unfold Heap.get? blank
  by_cases hl : b < h.objs.size
  · rw [Array.getElem?_ofFn]; simp [hl, hb]
  · rw [Array.getElem?_ofFn]; simp [hl]
theorem blank_stays {h : Heap} {F : List Addr} : (blank h F).StaysIn h := fun b o e => by
  by_cases hb : b ∈ F
  · rw [blank_in hb] at e; cases e
  · rwa [blank_out hb] at e
theorem blank_none {h : Heap} {F : List Addr} {b : Addr} (hb : h.get? b = none) : (blank h F).get? b = none := by
  by_cases hm : b ∈ F
  · exact blank_in hm
  · rw [blank_out hm]; exact hb
theorem Chain.funFrames {P : List Addr} {h base : Heap} : ∀ {l : List Env}, Chain P h l → (∀ L ∈ framesOf l, base.get? L = none) → h.FunFrames base l
  | [], _, _ => trivial
  | env :: r, c, hb => by
    obtain ⟨h1, L, m, h2, h3, h4⟩ := c env List.mem_cons_self
    refine Heap.FunFrames.cons h1 h2 h4 (hb L ?_) (Chain.funFrames (fun x hx => c x (List.mem_cons_of_mem _ hx)) fun L' hL' => hb L' ?_)
    · unfold framesOf; rw [List.filterMap_cons, h2]; exact List.mem_cons_self
    · unfold framesOf; rw [List.filterMap_cons, h2]; exact List.mem_cons_of_mem _ hL'
theorem Chain.frm {P : List Addr} {h : Heap} {l : List Env} (c : Chain P h l) {b : Addr} (hb : b ∈ framesOf l) : ∃ o, h.get? b = some o ∧ Frm P b o := by
  obtain ⟨env, he, hf⟩ := List.mem_filterMap.mp hb
  obtain ⟨_, L, m, h2, h3, o, es, ep, e, d, _⟩ := c env he
  rw [hf] at h2; cases h2
  exact ⟨o, e, h3, es, ep, d⟩

/-- all but the frames' slots stays -/
theorem grow_of_slots {P : List Addr} {h h' : Heap} {l : List Env} (c : Chain P h l) (st : (blank h (framesOf l)).StaysIn h') (up : h.UpToSlots h') : Grow P h h' := fun b o _ e => by
  by_cases hb : b ∈ framesOf l
  · obtain ⟨o', e', hf⟩ := c.frm hb
    rw [e] at e'; cases e'
    obtain ⟨sl, hs⟩ := up b o e fun vs q => by
      obtain ⟨_, es, ep, d⟩ := hf
      rw [d] at q; cases q
    exact ⟨_, hs, .inr ⟨hf, sl, rfl⟩⟩
  · exact ⟨o, st b o (by rw [blank_out hb]; exact e), .refl⟩
theorem low_of_slots {P : List Addr} {h h' : Heap} {l : List Env} (c : Chain P h l) (st : (blank h (framesOf l)).StaysIn h') : ∀ b o, b < nT → h.get? b = some o → h'.get? b = some o := fun b o hb e =>
  st b o (by
    rw [blank_out]
    · exact e
    · intro hm
      obtain ⟨_, _, hf⟩ := c.frm hm
      exact absurd hb (Nat.not_lt.mpr hf.nT))
section
variable {M : Model} {A : Around} {E : Value → Shared → Prop} {s : Shared} {env : Env}

/-- an exception noted for the first time, and landed -/
structure Lit (base : Heap) (l : List Env) (h h' : Heap) (e : Addr) (oe : Obj) : Prop where
  stays : base.StaysIn h'
  frames : h'.FunFrames base l
  slots : h.UpToSlots h'
  there : ∃ T oT ts, h'.get? e = some (oe.mapFields (·.setIfInBounds 1 (.ref T))) ∧ T ≠ e ∧ base.get? T = none ∧ h'.get? T = some oT ∧ oT.data = .fields ts ∧ 3 < ts.size
  size : h.objs.size ≤ h'.objs.size

theorem note_first {base : Heap} {outer : List Env} {L e : Addr} {oe : Obj} {vs : Array Value} {Q : Unit → Shared → Prop} (hfr : A.frames = some (env :: outer)) (hl : s.heap.FunFrames base (env :: outer)) (hf : env.frame = some L)
    (he : s.heap.get? e = some oe) (hkb : base.StaysIn s.heap) (hen : base.get? e = none) (hd : oe.data = .fields vs) (h1 : vs[1]? = some .none)
    (k : ∀ h', Lit base (env :: outer) s.heap h' e oe → Q () { s with heap := h' }) : wpAny M A (noteFrame (.ref e) env) (fun _ s' => wpAny M A (setFlight (.ref e) none) Q E s') E s := by
  have hsz : 1 < vs.size := (Array.getElem?_eq_some_iff.mp h1).1
  have hene : e ∉ (env :: outer).filterMap (·.frame) := fun hm => by
    obtain ⟨_, o, ho, hnf⟩ := hl.mem hm
    rw [he] at ho; cases ho; exact hnf vs hd
  unfold noteFrame
  simp only [hf]
  refine wpAny_bind (wpAny_field he hd h1 ?_)
  rw [if_neg (by decide)]
  refine wpAny_bind (wpAny_frameOf_fun hfr hl hf fun h₁ hs₁ => wpAny_bind (wpAny_entryPlaceOf fun pl hpl => ?_))
  unfold EntryCells.newEntry newFields
  refine wpAny_bind (wpAny_newObj_type ?_ (hpl.sizeOk5 _ _ _ _ _))
  generalize htb : ({ cls := .type "traceback", dict := none, data := .fields ([Value.none, .ref L, .none, rawInt L, .none] ++ (if pl.isEmpty then List.replicate 6 Value.none else pl)).toArray } : Obj) = tb
  obtain ⟨ts, htd, hts⟩ : ∃ ts, tb.data = .fields ts ∧ 3 < ts.size := by
    subst htb
    exact ⟨_, rfl, by simp only [List.size_toArray, List.length_append, List.length_cons, List.length_nil]; omega⟩
  have he₁ : h₁.get? e = some oe := (hs₁.2.1 e hene).trans he
  have hTe : h₁.objs.size ≠ e := Nat.ne_of_gt (Heap.lt_size he₁)
  have he₂ := Heap.get?_push_of_some (h := h₁) tb he₁
  refine wpAny_setField he₂ hd hsz ?_
  have hd₃ := Obj.data_mapFields hd (·.setIfInBounds 1 (Value.ref h₁.objs.size))
  have he₃ := Heap.get?_update_self (Obj.mapFields (·.setIfInBounds 1 (Value.ref h₁.objs.size))) he₂ (Obj.isFreed_of_fields hd₃)
  have hnf : tb.isFreed = false := Obj.isFreed_of_fields htd
  have hT₃ := (Heap.get?_update_other (h₁.push tb) (Obj.mapFields (·.setIfInBounds 1 (Value.ref h₁.objs.size))) (Ne.symm hTe)).trans (Heap.get?_push_size h₁ hnf)
  unfold setFlight
  refine wpAny_bind (wpAny_field he₃ hd₃ (x := .ref h₁.objs.size) (by simp [hsz]) ?_)
  rw [if_pos (show (Value.ref h₁.objs.size != Value.none) = true from by simp)]
  refine wpAny_setField hT₃ htd hts (k _ ?_)
  have kb₁ : base.StaysIn h₁ := fun b o hbo => (hs₁.2.1 b fun hm => by rw [(hl.mem hm).1] at hbo; cases hbo).trans (hkb b o hbo)
  have keep : ∀ b o, b ≠ e → h₁.get? b = some o → (((h₁.push tb).update e (Obj.mapFields (·.setIfInBounds 1 (Value.ref h₁.objs.size)))).update h₁.objs.size (Obj.mapFields (·.setIfInBounds 3 ((none : Option Addr).elim Value.none fun f => rawInt f)))).get? b = some o := fun b o hbe hb => by
    rw [Heap.get?_update_other _ _ (Nat.ne_of_gt (Heap.lt_size hb)), Heap.get?_update_other _ _ (Ne.symm hbe)]
    exact Heap.get?_push_of_some _ hb
  have nr : ∀ b o, s.heap.get? b = some o → (∀ vs, o.data ≠ .fields vs) → b ≠ e := fun b o hb hn q => by
    rw [q, he] at hb; cases hb; exact hn vs hd
  refine ⟨fun b o hbo => keep b o (fun q => by rw [q, hen] at hbo; cases hbo) (kb₁ b o hbo), hl.of_keeps fun b o hb hn => ?_, fun b o hb hn => ?_, ⟨h₁.objs.size, _, _, ?_, hTe, kb₁.fresh, Heap.get?_update_self _ hT₃ (Obj.isFreed_of_fields (Obj.data_mapFields htd _)), Obj.data_mapFields htd _, by rw [Array.size_setIfInBounds]; exact hts⟩, ?_⟩
  · obtain ⟨sl, hs⟩ := hs₁.2.2 b o hb
    exact ⟨_, keep b _ (nr b o hb hn) hs, rfl⟩
  · obtain ⟨sl, hs⟩ := hs₁.2.2 b o hb
    exact ⟨sl, keep b _ (nr b o hb hn) hs⟩
  · rw [Heap.get?_update_other _ _ hTe]; exact he₃
  · rw [Heap.size_after_update, Heap.size_after_update, Heap.size_push, hs₁.1]
    exact Nat.le_succ _
theorem flight_again {base : Heap} {l : List Env} {h : Heap} {e : Addr} {oe : Obj} {vs : Array Value} {Q : Unit → Shared → Prop} (hd : oe.data = .fields vs) (h1 : 1 < vs.size) (x : Lit base l h s.heap e oe)
    (k : ∀ h', Lit base l h h' e oe → Q () { s with heap := h' }) : wpAny M A (setFlight (.ref e) none) Q E s := by
  obtain ⟨T, oT, ts, he, hTe, hT, ho, hts, h3⟩ := x.there
  unfold setFlight
  refine wpAny_bind (wpAny_field he (Obj.data_mapFields hd _) (x := .ref T) (by simp [h1]) ?_)
  rw [if_pos (show (Value.ref T != Value.none) = true from by simp)]
  refine wpAny_setField ho hts h3 (k _ ?_)
  have other : ∀ b, b ≠ T → (s.heap.update T (Obj.mapFields (·.setIfInBounds 3 ((none : Option Addr).elim Value.none fun f => rawInt f)))).get? b = s.heap.get? b := fun b hb => Heap.get?_update_other _ _ (Ne.symm hb)
  have nr : ∀ b o, s.heap.get? b = some o → (∀ vs, o.data ≠ .fields vs) → b ≠ T := fun b o hb hn q => by
    rw [q, ho] at hb; cases hb; exact hn _ hts
  refine ⟨fun b o hbo => (other b fun q => by rw [q, hT] at hbo; cases hbo).trans (x.stays b o hbo), x.frames.of_keeps fun b o hb hn => ⟨o, (other b (nr b o hb hn)).trans hb, rfl⟩, x.slots.trans fun b o hb hn => ⟨o.slots, (other b (nr b o hb hn)).trans hb⟩,
    ⟨T, _, _, (other e (Ne.symm hTe)).trans he, hTe, hT, Heap.get?_update_self _ ho (Obj.isFreed_of_fields (Obj.data_mapFields hts _)), Obj.data_mapFields hts _, by rw [Array.size_setIfInBounds]; exact h3⟩, by rw [Heap.size_after_update]; exact x.size⟩
end
end Mine
end
section
set_option maxRecDepth 100000
namespace Mine
open PySem PySem.W PySem.Calls PyProof.Rows

/-- an exception in flight: all that stood when it was made stands -/
structure Fly (P : List Addr) (T : Heap → Prop) (s0 s' : Shared) (l : List Env) (e : Addr) (cls : Value) : Prop where
  go : ∃ base a0, Heap.FlyingW base l e cls a0 s'.heap ∧ (∀ b o, b ∉ P → s0.heap.get? b = some o → ¬ Frm P b o → base.get? b = some o) ∧ (∃ hr, T hr ∧ ∀ b o, b < nT → hr.get? b = some o → base.get? b = some o)
  grow : Grow P s0.heap s'.heap
  gens : BareG s0.gens s'.gens
  os : s'.os = s0.os
section
variable {P : List Addr} {T : Heap → Prop} {s0 s1 s2 s s' : Shared} {l l' outer : List Env} {e : Addr} {cls : Value}
theorem Fly.af [TabKeep T] (f : Fly P T s0 s' l e cls) : After P T s0 s' := by
  obtain ⟨base, a0, h1, h2, hr, h3, h4⟩ := f.go
  exact ⟨f.grow, TabKeep.go _ _ h3 fun b o hb e => h1.1 b o (h4 b o hb e), f.gens, f.os⟩
theorem Fly.after (a : After P T s0 s1) (f : Fly P T s1 s2 l e cls) : Fly P T s0 s2 l e cls := by
  obtain ⟨base, a0, h1, h2, h3⟩ := f.go
  refine ⟨⟨base, a0, h1, fun b o hb e hn => ?_, h3⟩, a.grow.trans f.grow, fun h => f.gens (a.gens h), f.os.trans a.os⟩
  obtain ⟨o', e', rfl | ⟨hf, _⟩⟩ := a.grow b o hb e
  · exact h2 b _ hb e' hn
  · exact absurd hf hn
theorem fly_grow {base h' : Heap} (g : Grow P s0.heap s'.heap) (h2 : ∀ b o, b ∉ P → s0.heap.get? b = some o → ¬ Frm P b o → base.get? b = some o) (st : base.StaysIn h') (up : s'.heap.UpToSlots h') : Grow P s0.heap h' := fun b o hb e => by
  by_cases hn : Frm P b o
  · obtain ⟨o', e', kp⟩ := g b o hb e
    have hd : ∃ es ep, o'.data = .dict es ep := by
      obtain ⟨_, es, ep, d⟩ := hn
      rcases kp with rfl | ⟨_, sl, rfl⟩
      · exact ⟨es, ep, d⟩
      · exact ⟨es, ep, d⟩
    obtain ⟨sl, hs⟩ := up b o' e' fun vs q => by
      obtain ⟨es, ep, d⟩ := hd
      rw [d] at q; cases q
    exact ⟨_, hs, kp.trans (.inr ⟨⟨hn.1, hd⟩, sl, rfl⟩)⟩
  · exact ⟨o, st b o (h2 b o hb e hn), .refl⟩

section
variable {M : Model} {A : Around} {E : Value → Shared → Prop} {env : Env} {L : Addr}
/-- the frame that catches looks at it and lands it -/
theorem Fly.looks {Q : Unit → Shared → Prop} (hfr : A.frames = some (env :: outer)) (hf : env.frame = some L) (f : Fly P T s0 s (env :: outer) e cls)
    (k : ∀ h', Fly P T s0 { s with heap := h' } (env :: outer) e cls → Q () { s with heap := h' }) : wpAny M A (noteFrame (.ref e) env) (fun _ s₂ => wpAny M A (setFlight (.ref e) none) Q E s₂) E s := by
  obtain ⟨base, a0, h1, h2, h3⟩ := f.go
  refine wpAny_looks_onW hfr hf h1 fun h' hh up => wpAny_landsW hh fun h'' hf' up' => k h'' ?_
  exact ⟨⟨base, a0, hf', h2, h3⟩, fly_grow (s' := s) f.grow h2 hf'.1 (up.trans up'), f.gens, f.os⟩
theorem Fly.again {Q : Unit → Shared → Prop} (f : Fly P T s0 s l e cls) (k : ∀ h', Fly P T s0 { s with heap := h' } l e cls → Q () { s with heap := h' }) : wpAny M A (setFlight (.ref e) none) Q E s := by
  obtain ⟨base, a0, h1, h2, h3⟩ := f.go
  exact lands_againW h1 fun h' hf' up => k h' ⟨⟨base, a0, hf', h2, h3⟩, fly_grow (s' := s) f.grow h2 hf'.1 up, f.gens, f.os⟩
/-- a frame is left for the first time -/
theorem fly_first {sh : Shared} {oe : Obj} {vs : Array Value} {a0 : Value} {Q : Unit → Shared → Prop} (hfr : A.frames = some (env :: outer)) (hf : env.frame = some L) (c : Chain P sh.heap (env :: outer)) (t : T sh.heap)
    (hk : ∀ b o, sh.heap.get? b = some o → s.heap.get? b = some o) (hg : s.gens = sh.gens) (ho : s.os = sh.os) (hn : sh.heap.get? e = none) (he : s.heap.get? e = some oe) (hd : oe.data = .fields vs) (h0 : vs[0]? = some a0) (h1 : vs[1]? = some .none)
    (k : ∀ h', Fly P T sh { s with heap := h' } outer e oe.cls → Q () { s with heap := h' }) : wpAny M A (leaving env (.ref e)) Q E s := by
  have ff : sh.heap.FunFrames (blank sh.heap (framesOf (env :: outer))) (env :: outer) := c.funFrames fun L hL => blank_in hL
  refine wpAny_leaving_firstW (base := blank sh.heap (framesOf (env :: outer))) hfr (ff.of_keeps fun b o e _ => ⟨o, hk b o e, rfl⟩) hf he (fun b o hb => hk b o (blank_stays b o hb)) (blank_none hn) hd h1 h0 fun h' hl => k h' ?_
  obtain ⟨k1, ⟨_, _, k2⟩, k3, k4⟩ := hl
  have up : sh.heap.UpToSlots h' := (Heap.UpToSlots.of_keeps hk).trans k4
  refine ⟨⟨_, a0, ⟨k1, blank_none hn, k2, k3⟩, fun b o _ e hnf => ?_, sh.heap, t, fun b o hb e => ?_⟩, grow_of_slots c k1 up, by show BareG sh.gens s.gens; rw [hg]; exact fun h => h, ho⟩
  · rw [blank_out]
    · exact e
    · intro hm
      obtain ⟨o', e', hf'⟩ := c.frm hm
      rw [e] at e'; cases e'
      exact hnf hf'
  · rw [blank_out]
    · exact e
    · intro hm
      obtain ⟨_, _, hf'⟩ := c.frm hm
      exact absurd hb (Nat.not_lt.mpr hf'.nT)
end
end

/-- the class of the exceptions that the program raises -/
noncomputable abbrev bmV : List Value := [.type "ValueError", .type "Exception", .type "BaseException", .type "object"]
inductive ErrAt (h : Heap) (C N : Addr) : Prop
  | mk (nm q : Str) (bs : List Value) (hdct : Bool) (sn : List Str) (sub : List Value) (ab : Bool) (col : Option Bool) (dd : Option Addr) (k0 k1 k2 k3 k5 : Option Value) (mN : Str → Option Value)
    (e1 : h.get? C = some (excClassObj nm q C N bs bmV hdct sn sub ab col dd k0 k1 k2 k3 k5 "ValueError.__new__")) (e2 : h.Ns N mN) (e3 : mN "__init__" = none) : ErrAt h C N

theorem zde_sub : isSubtype (.type "ZeroDivisionError") (.type "ZeroDivisionError") = pure true := by rw [isSubtype_type]; kernel_rfl
theorem zde_exc : isSubtype (.type "ZeroDivisionError") (.type "BaseException") = pure true := by rw [isSubtype_type]; kernel_rfl

section
variable {prog : Program} {w : World} {A : Around} {E0 E1 E : Value → Shared → Prop} {s : Shared} {env : Env} {P : List Addr} {T : Heap → Prop} {h0 : Heap} {g0 : Array GenState} {o0 : OsState} {ρ : List (Str × AV)} {ls : List (Addr × HV)} {mg mb : Str → Option Value} {outer : List Env}
/-- except ZeroDivisionError: raise StatisticsError(text) -/
theorem catch_raise [TabKeep T] [TabFields P T] {C N e : Addr} {msg : Str} {kd : Nat} {h1 : Heap} {tk : Nat} {p np kp cpos rpos hpos : Pos} {Q : Flow → Shared → Prop} (G : Gl P env h0 mg mb) (hfr : A.frames = some (env :: outer)) (hf : env.frame = some env.locals)
    (X : At P T h0 g0 o0 env ρ ls s) (c : Chain P s.heap outer) (hnp : ∀ a fp h, (a, HV.pin fp h) ∉ ls) (err : ErrAt s.heap C N) (hC : C ∉ P) (hN : N ∉ P)
    (hkz : env.kindOf "ZeroDivisionError" = some .globalImplicit) (hgz : mg "ZeroDivisionError" = none) (hbz : mb "ZeroDivisionError" = some (.type "ZeroDivisionError")) (hks : env.kindOf "StatisticsError" = some .globalImplicit) (hgs : mg "StatisticsError" = some (.ref C))
    (hx : Heap.NewExc s.heap h1 e "ZeroDivisionError")
    (k : ∀ h' tk' e', Fly P T s { s with heap := h', toks := tk' } outer e' (.ref C) → E0 (.ref e') { s with heap := h', toks := tk' }) :
    wpAny (model prog w) A (noteFrame (.ref e) env) (fun _ s₂ => wpAny (model prog w) A (setFlight (.ref e) none) (fun _ s₃ => wpAny (model prog w) A (handleBy (.ref e) env [.ExceptHandler (some (.Name "ZeroDivisionError" p)) none [.Raise (some (.Call (.Name "StatisticsError" np) [.Constant (.str msg) kd kp] [] cpos)) none rpos] hpos]) Q
      (fun e s' => wpAny (model prog w) A (leaving env e) (fun _ s'' => E0 e s'') (fun e' s'' => E1 e' s'') s') s₃) E s₂) E { s with heap := h1, toks := tk } := by
  obtain ⟨m, hn⟩ := X.ok.ns
  have hL : topOf P < env.locals := Nat.lt_of_lt_of_le X.top_lt X.ok.lo
  have hmod : env.scope.kind ≠ .module := by rw [X.ok.fn]; intro q; cases q
  have ca : Chain P s.heap (env :: outer) := Chain.cons hmod hf hL hn c
  have ff : s.heap.FunFrames (blank s.heap (framesOf (env :: outer))) (env :: outer) := ca.funFrames fun L hL => blank_in hL
  obtain ⟨oe, t, he, hcls, hd⟩ := hx.there
  have hen : (blank s.heap (framesOf (env :: outer))).get? e = none := blank_none hx.new
  refine note_first (s := { s with heap := h1, toks := tk }) hfr (ff.of_keeps fun b o e _ => ⟨o, hx.keeps b o e, rfl⟩) hf he (fun b o hb => hx.keeps b o (blank_stays b o hb)) hen hd rfl fun h₃ hl => ?_
  have af : ∀ {h' : Heap} {tk : Nat}, Lit (blank s.heap (framesOf (env :: outer))) (env :: outer) h1 h' e oe → After P T s { s with heap := h', toks := tk } := fun {h' tk} hl =>
    ⟨grow_of_slots ca hl.stays ((Heap.UpToSlots.of_keeps hx.keeps).trans hl.slots), TabKeep.go _ _ X.tb (low_of_slots ca hl.stays), fun h => h, rfl⟩
  have hnp' : ∀ a fp h, (a, HV.pin fp h) ∈ ls → ∀ b ∈ fp, b ∉ P := fun a fp h hm => absurd hm (hnp a fp h)
  have X₃ : At P T h0 g0 o0 env ρ ls { s with heap := h₃, toks := tk } := X.call (af hl) hnp'
  refine wpAny_handleBy_builtin (X := "ZeroDivisionError") (T := "ZeroDivisionError") (b := true) zde_exc (by kernel_rfl) zde_sub (Pur.blt G hkz hgz hbz rfl { s with heap := h₃, toks := tk } _ _ X₃ fun v tk₄ hv _ => ?_)
  apply hv.e0 rfl
  refine ⟨rfl, ?_, ?_⟩
  · obtain ⟨Tt, oT, ts, h1', _⟩ := hl.there
    exact ⟨_, h1', (Obj.cls_mapFields _ _).trans hcls⟩
  rw [if_pos rfl]
  refine flight_again hd (by simp) hl fun h₅ hl₅ => ?_
  have X₅ : At P T h0 g0 o0 env ρ ls { s with heap := h₅, toks := tk₄ } := X.call (af hl₅) hnp'
  refine wpAny_passesOwnAt (by passes_own) ?_
  cases err with | mk nm q bs hdct sn sub ab col dd k0 k1 k2 k3 k5 mN e1 e2 e3 =>
  have gr := (af (tk := tk₄) hl₅).grow
  refine wpAny_execs_cons (raise_in (C := C) (N := N) (nm := nm) (q := q) (bs := bs) (hdct := hdct) (sn := sn) (sub := sub) (ab := ab) (col := col) (dd := dd) (k0 := k0) (k1 := k1) (k2 := k2) (k3 := k3) (k5 := k5) (h := e) PySem.F.excBase_ValueError rfl rfl e3 (Pur.glob G hks hgs rfl _ _ _ X₅ fun v tk₆ hv _ => ?_))
  apply hv.e0 rfl
  refine ⟨rfl, evalArgs_plain (Calls.spliced_cons (PySem.wpAny_Constant_str (x := msg) (k := kd) (pos := kp) ?_))⟩
  refine Calls.spliced_nil ⟨rfl, (show 1 ≤ sizeLine by decide), gr.plain hC (fun es ep d => by cases d) e1, gr.ns hN e2, ?_, fun h₇ e' hm => ?_⟩
  · obtain ⟨Tt, oT, ts, h1', _⟩ := hl₅.there
    exact ⟨_, _, h1', Obj.data_mapFields hd _, by simp⟩
  · obtain ⟨t', he', _, _⟩ := hm.there
    have c₅ : Chain P h₅ (env :: outer) := ca.grow gr (TabFields.low _ X.tb)
    have hu := Heap.get?_update_self (Obj.mapFields (·.setIfInBounds 2 (Value.ref e))) he' (Obj.isFreed_of_fields (Obj.data_mapFields rfl _))
    have key := fly_first (M := model prog w) (A := A) (E := fun e' s'' => E1 e' s'') (P := P) (T := T) (s := { s with heap := h₇.update e' (Obj.mapFields (·.setIfInBounds 2 (Value.ref e))), toks := tk₆ + 1 }) (sh := { s with heap := h₅, toks := tk₆ + 1 }) (Q := fun _ s'' => E0 (.ref e') s'') hfr hf c₅ X₅.tb
      (fun b o hb => ?_) rfl rfl hm.new hu (Obj.data_mapFields rfl _) (a0 := .ref t') (by simp) (by simp) fun h₈ fl => k _ _ e' (Fly.after (af hl₅) fl)
    · exact key
    · rw [Heap.get?_update_other _ _ (fun q => by subst q; rw [hm.new] at hb; cases hb)]
      exact hm.keeps b o hb
end
end Mine
end
section
set_option maxRecDepth 100000
namespace Mine
open PySem PySem.W PySem.Calls PyProof.Rows
section
variable {prog : Program} {w : World} {A : Around} {E0 E1 E : Value → Shared → Prop} {s s' : Shared} {env : Env} {P : List Addr} {T : Heap → Prop} {h0 : Heap} {g0 : Array GenState} {o0 : OsState} {ρ : List (Str × AV)} {ls : List (Addr × HV)} {mg mb : Str → Option Value} {outer : List Env}
/-- except StatisticsError: return None -/
theorem catch_none [TabKeep T] [TabFields P T] {C N e : Addr} {p kp rpos hpos : Pos} {kd : Nat} {Q : Flow → Shared → Prop} (G : Gl P env h0 mg mb) (hfr : A.frames = some (env :: outer)) (hf : env.frame = some env.locals)
    (X : At P T h0 g0 o0 env ρ ls s) (hnp : ∀ a fp h, (a, HV.pin fp h) ∉ ls) (err : ErrAt s.heap C N) (hC : C ∉ P) (hN : N ∉ P)
    (hks : env.kindOf "StatisticsError" = some .globalImplicit) (hgs : mg "StatisticsError" = some (.ref C)) (fl : Fly P T s s' (env :: outer) e (.ref C))
    (hE : PassesOwnAt (model prog w) (A.mark (some (.ref e))) A env E)
    (k : ∀ s'', At P T h0 g0 o0 env ρ ls s'' → Q (.ret .none) s'') :
    wpAny (model prog w) A (noteFrame (.ref e) env) (fun _ s₂ => wpAny (model prog w) A (setFlight (.ref e) none) (fun _ s₃ => wpAny (model prog w) A (handleBy (.ref e) env [.ExceptHandler (some (.Name "StatisticsError" p)) none [.Return (some (.Constant .none kd kp)) rpos] hpos]) Q E s₃) E s₂) E s' := by
  have hnp' : ∀ a fp h, (a, HV.pin fp h) ∈ ls → ∀ b ∈ fp, b ∉ P := fun a fp h hm => absurd hm (hnp a fp h)
  refine fl.looks hfr hf fun h₁ f₁ => ?_
  have X₁ := X.call f₁.af hnp'
  refine wpAny_handleBy_cons (codeAny_handlers_test (Pur.glob G hks hgs rfl _ _ _ X₁ fun v tk hv _ => ?_)) (by intro q; cases q)
  apply hv.e0 rfl
  have f₂ : Fly P T s { s' with heap := h₁, toks := tk } (env :: outer) e (.ref C) := ⟨f₁.go, f₁.grow, f₁.gens, f₁.os⟩
  obtain ⟨base, a0, hfl, _⟩ := id f₂.go
  obtain ⟨oe, he, hcls⟩ := hfl.there
  cases err with | mk nm q bs hdct sn sub ab col dd k0 k1 k2 k3 k5 mN e1 e2 e3 =>
  refine wpAny_excMatches_sub_self (f₁.grow.plain hC (fun es ep d => by cases d) e1) he hcls (by decide +kernel) ?_
  refine codeAny_handlers_suite (f₂.again fun h₂ f₃ => ?_)
  have X₂ := X.call f₃.af hnp'
  refine wpAny_passesOwnAt hE ?_
  refine wpAny_execs_cons (wpAny_Return_some (wpAny_Constant_none ?_))
  exact k _ X₂
end
end Mine
end
section
set_option maxRecDepth 100000
namespace Mine
open PySem PySem.W PySem.Calls PyProof.Rows

noncomputable def dCorr : DefRec := defAt 20
noncomputable def dLR : DefRec := defAt 22
noncomputable def dLine : DefRec := defAt 26
noncomputable def dTie : DefRec := defAt 27
noncomputable def dLaw : DefRec := defAt 28
theorem dLaw_name : dLaw.name = "law" := by rfl

/-- a function among the top's objects -/
structure Fn (K : Frag) (d : DefRec) (q : Str) (f : Addr) (dV kV : Value) (c : Addr) : Prop where
  fn : ∃ pm doc, K.lookup f = some { cls := .type "function", data := .func { docDef d.name d.params d.body d.scope pm (.ref c) doc with qualname := q, defaults := dV, kwdefaults := kV } }
  code : ∃ oc vs t, K.lookup c = some oc ∧ oc.data = .fields vs ∧ vs[1]? = some (.str q t)
section
variable {K : Frag} {h : Heap} {d : DefRec} {q : Str} {f c : Addr} {dV kV : Value}
theorem Fn.rcd (x : Fn K d q f dV kV c) (X : K.In h) : h.CodeRec (.ref c) q := let ⟨oc, vs, t, a, b, e⟩ := x.code; ⟨c, oc, vs, t, rfl, X _ _ a, b, e⟩
theorem Fn.fq (x : Fn K d q f dV kV c) (X : K.In h) : FnQ h d q f dV kV := let ⟨pm, doc, a⟩ := x.fn; ⟨_, pm, .ref c, doc, X _ _ a, rfl, x.rcd X⟩
theorem Fn.at (x : Fn K d d.name f .none kV c) (X : K.In h) : FnAt h d f kV := let ⟨pm, doc, a⟩ := x.fn; ⟨_, pm, .ref c, doc, X _ _ a, rfl, x.rcd X⟩
theorem Fn.cd (x : Fn K d d.name f .none kV c) (X : K.In h) : FnCode h d f kV c := let ⟨pm, doc, a⟩ := x.fn; ⟨_, pm, doc, X _ _ a, rfl, x.rcd X⟩
end
inductive ErrK (K : Frag) (C N : Addr) : Prop
  | mk (nm q : Str) (bs : List Value) (hdct : Bool) (sn : List Str) (sub : List Value) (ab : Bool) (col : Option Bool) (dd : Option Addr) (k0 k1 k2 k3 k5 : Option Value) (oN : Obj) (es : Array DictEntry) (ep : Nat)
    (a : K.lookup C = some (excClassObj nm q C N bs bmV hdct sn sub ab col dd k0 k1 k2 k3 k5 "ValueError.__new__")) (b : K.lookup N = some oN) (c : oN.data = .dict es ep) (d : StrKeys es) (e : nsFind es "__init__" = none) : ErrK K C N
theorem ErrK.at {K : Frag} {C N : Addr} {h : Heap} (x : ErrK K C N) (X : K.In h) : ErrAt h C N := by
  cases x with | mk nm q bs hdct sn sub ab col dd k0 k1 k2 k3 k5 oN es ep a b c d e =>
  exact ⟨nm, q, bs, hdct, sn, sub, ab, col, dd, k0, k1, k2, k3, k5, nsFind es, X _ _ a, ⟨oN, es, ep, X _ _ b, c, d, fun _ => rfl⟩, e⟩

/-- all that the walks ask of the top, less the heap -/
structure Static (K : Frag) (cs : List (Addr × Addr)) (mg mb : Str → Option Value) : Prop where
  csok : CsOk cs
  kok : KOk (tabs cs) K
  gf : GlF mg mb
  gs : GlS mg mb
  gg : GlG mg mb
  float : mg "float" = none ∧ mb "float" = some (.type "float")
  zde : mg "ZeroDivisionError" = none ∧ mb "ZeroDivisionError" = some (.type "ZeroDivisionError")
  err : mg "StatisticsError" = some (.ref 102)
  errK : ErrK K 102 101
  errP : 102 ∉ tabs cs ∧ 101 ∉ tabs cs
  lrc : mg "LinearRegression" = some (.ref 409)
  named : Named K 409 410 359
  base : ∃ cd, clsIn K 409 = some cd ∧ cd.bases = [.type "tuple"]
  new : Fn K dNew "LinearRegression.__new__" 359 .none .none 358
  slope : Field K 409 88 401 71 "slope" 0
  icept : Field K 409 88 404 71 "intercept" 1
  get : Fn K dGet "_tuplegetter.__get__" 71 (.ref 64) .none 70
  getD : ∃ o n, K.lookup 64 = some o ∧ o.data = .seq #[.none] n
  bm : mg "__builtins__" = some (.ref 4) ∧ 4 ≠ builtinsNs ∧ ∃ o, K.lookup 4 = some o ∧ o.cls = .type "module" ∧ o.dict = some builtinsNs ∧ o.data = .plain
  sq : mg "_sqrtprod" = some (.ref 328) ∧ Fn K dSq dSq.name 328 .none .none 327
  cov : mg "covariance" = some (.ref 335) ∧ Fn K dCov dCov.name 335 .none .none 334 ∧ (334, 330) ∈ cs
  corr : mg "correlation" = some (.ref 341) ∧ Fn K dCorr dCorr.name 341 .none (.ref 336) 340
  corrD : ∃ o es ep t, K.lookup 336 = some o ∧ o.data = .dict es ep ∧ StrKeys es ∧ nsFind es "method" = some (.str "linear" t)
  lr : mg "linear_regression" = some (.ref 418) ∧ Fn K dLR dLR.name 418 .none (.ref 413) 417 ∧ (417, 415) ∈ cs
  col : mg "_law_column" = some (.ref 425) ∧ Fn K dColumn dColumn.name 425 .none .none 424
  size : mg "_law_size" = some (.ref 432) ∧ Fn K dSize dSize.name 432 .none .none 431
  line : mg "_law_line" = some (.ref 439) ∧ Fn K dLine dLine.name 439 .none .none 438
  tie : mg "_law_tie" = some (.ref 446) ∧ Fn K dTie dTie.name 446 .none .none 445
  zip : mg "zip" = none ∧ mb "zip" = some (.type "zip")
  sum : mg "sum" = none ∧ mb "sum" = some (.builtin "sum")
  booked : ∃ o es ep, K.lookup cStatics = some o ∧ o.data = .dict es ep ∧ StrKeys es ∧ nsFind es sharingNotToldKey = none

/-- the world behind the top, with the top's objects -/
structure Wd (K : Frag) (cs : List (Addr × Addr)) (mg mb : Str → Option Value) (h : Heap) : Prop where
  w : World0 (tabs cs) (TT cs) mg mb h
  k : K.In h
section
variable {K : Frag} {cs : List (Addr × Addr)} {mg mb : Str → Option Value} {h h' : Heap}
theorem Wd.grow (W : Wd K cs mg mb h) (S : Static K cs mg mb) (g : Grow (tabs cs) h h') (t : TT cs h') : Wd K cs mg mb h' := ⟨W.w.grow g t, Frag.In.grow W.k g S.kok⟩
theorem Wd.at {P0 : Heap} {g0 : Array GenState} {o0 : OsState} {env : Env} {ρ : List (Str × AV)} {ls : List (Addr × HV)} {s : Shared} (W : Wd K cs mg mb P0) (S : Static K cs mg mb) (X : At (tabs cs) (TT cs) P0 g0 o0 env ρ ls s) : Wd K cs mg mb s.heap := W.grow S X.grow X.tb
theorem Static.bmAt (S : Static K cs mg mb) (W : Wd K cs mg mb h) : BmAt (tabs cs) h mg := by
  obtain ⟨h1, h2, o, h3, h4, h5, h6⟩ := S.bm
  exact ⟨4, o, h1, h2, (S.kok _ _ h3).1, W.k _ _ h3, h4, h5, h6⟩
theorem Static.nb (S : Static K cs mg mb) (W : Wd K cs mg mb h) : NoneBooked h := by
  obtain ⟨o, es, ep, h1, h2, h3, h4⟩ := S.booked
  exact ⟨nsFind es, ⟨o, es, ep, W.k _ _ h1, h2, h3, fun _ => rfl⟩, h4⟩
theorem Static.bm' {env : Env} (S : Static K cs mg mb) (W : Wd K cs mg mb h) : Bm (tabs cs) env h mg := ⟨(S.bmAt W).go⟩
theorem tabs_low (t : TT cs h) : ∀ p ∈ tabs cs, p < nT := TabFields.low _ t
end
end Mine
end
section
set_option maxRecDepth 100000
namespace Mine
open PySem PySem.Float64 PySem.W PySem.Calls PyProof.Rows
section
variable {prog : Program} {w : World} {A : Around} {E : Value → Shared → Prop} {s : Shared} {env : Env} {P : List Addr} {T : Heap → Prop} {h0 : Heap} {g0 : Array GenState} {o0 : OsState} {ρ : List (Str × AV)} {ls : List (Addr × HV)} {mg mb : Str → Option Value} {rest : List Stmt}

/-- try: body except ..: without else -/
theorem s_try {body : List Stmt} {h₀ : ExceptHandler} {hs : List ExceptHandler} {pos : Pos} {Q : Flow → Shared → Prop}
    (h : wpAny (model prog w) A (execs body env) (fun f s₁ => match f with | .next => wpAny (model prog w) A (execs rest env) Q E s₁ | f => Q f s₁)
      (fun e s₁ => wpAny (model prog w) A (noteFrame e env) (fun _ s₂ => wpAny (model prog w) A (setFlight e none) (fun _ s₃ => wpAny (model prog w) A (handleBy e env (h₀ :: hs)) (fun f s₄ => match f with | .next => wpAny (model prog w) A (execs rest env) Q E s₄ | f => Q f s₄) E s₃) E s₂) E s₁) s) :
    wpAny (model prog w) A (execs (.Try body (h₀ :: hs) [] [] pos :: rest) env) Q E s := by
  refine wpAny_execs_cons (wpAny_Try_except (wpAny_mono h (fun f s₁ h₁ => ?_) fun _ _ e => e))
  cases f with
  | next => exact wpAny_execs_nil h₁
  | _ => exact h₁
theorem op_div_ff {a b q : Int} (hA : A.handled = Option.none) (e : a = q * b) (hb : b ≠ 0) (hq : q.natAbs ≤ 2 ^ 53) : Op2 prog w A (binaryOp .Div) (.fl a) (.fl b) (.fl q) := by
  intro va vb s Q E ha hb2 k
  subst e
  cases ha with | fl _ x t hx => cases hb2 with | fl _ y u hy => exact truediv_float_or hA (fun h => by rw [isF_isZero hy] at h; exact absurd (of_decide_eq_true h) hb) fun _ => k _ _ (.fl _ _ _ (isF_div hx hy hb hq)) (Nat.le_succ _)
theorem op_divq_ff {a b : Int} (hA : A.handled = Option.none) (hb : b ≠ 0) : ∀ (va vb : Value) (s : Shared) (Q : Value → Shared → Prop) (E : Value → Shared → Prop), 0 < s.toks → Rep (.fl a) va → Rep (.fl b) vb → (∀ v tk, Rep (.q a b) v → s.toks ≤ tk → Q v { s with toks := tk }) → wpAny (model prog w) A (binaryOp .Div va vb) Q E s := by
  intro va vb s Q E ht ha hb2 k
  cases ha with | fl _ x t hx => cases hb2 with | fl _ y u hy => exact truediv_float_or hA (fun h => by rw [isF_isZero hy] at h; exact absurd (of_decide_eq_true h) hb) fun _ => k _ _ (.q _ _ _ _ _ hx hy ht) (Nat.le_succ _)
theorem op_divq {f : Bool} {a b : Int} (hA : A.handled = Option.none) (hb : b ≠ 0) (hb' : b.natAbs ≤ 2 ^ 53) : ∀ (va vb : Value) (s : Shared) (Q : Value → Shared → Prop) (E : Value → Shared → Prop), 0 < s.toks → Rep (.fl a) va → Rep (nv f b) vb → (∀ v tk, Rep (.q a b) v → s.toks ≤ tk → Q v { s with toks := tk }) → wpAny (model prog w) A (binaryOp .Div va vb) Q E s := by
  cases f with
  | true => exact op_divq_ff hA hb
  | false => exact op_divq_fi hA hb hb'
/-- a division by zero -/
theorem op_div_zero {f : Bool} {a : Int} {va vb : Value} {Q : Value → Shared → Prop} (hA : A.handled = Option.none) (ha : Rep (.fl a) va) (hb : Rep (nv f 0) vb)
    (k : ∀ h' tk e, Heap.NewExc s.heap h' e "ZeroDivisionError" → E (.ref e) { s with heap := h', toks := tk }) : wpAny (model prog w) A (binaryOp .Div va vb) Q E s := by
  cases ha with | fl _ x t hx =>
  cases f with
  | true =>
    cases hb with | fl _ y u hy => exact truediv_float_or hA (fun _ => k) fun h => absurd (by rw [isF_isZero hy]; rfl) h
  | false =>
    cases hb with | int _ u => exact PySem.Flt.truediv_fi hA (fun h => absurd h (over_small (by decide))) (fun _ => k) fun _ h => absurd rfl h
/-- x + 0.0 -/
theorem op_add_zero {f : Bool} {a : Int} (ha' : a.natAbs ≤ 2 ^ 53) : Op2 prog w A (binaryOp .Add) (nv f a) (.fl 0) (.fl a) := by
  cases f with
  | true =>
    have := op_add_ff (prog := prog) (w := w) (A := A) (a := a) (b := 0) (by rw [Int.add_zero]; exact ha')
    rwa [Int.add_zero] at this
  | false =>
    have := op_add_if (prog := prog) (w := w) (A := A) (a := a) (b := 0) ha' (by rw [Int.add_zero]; exact ha')
    rwa [Int.add_zero] at this
end
end Mine
end
section
set_option maxRecDepth 100000
namespace Mine
open PySem PySem.Float64 PySem.W PySem.Calls PyProof.Rows
section
variable {prog : Program} {w : World} {A : Around} {E : Value → Shared → Prop} {s : Shared} {env : Env} {h0 : Heap} {g0 : Array GenState} {o0 : OsState} {ρ : List (Str × AV)} {ls : List (Addr × HV)} {mg mb : Str → Option Value} {cs : List (Addr × Addr)} {K : Frag}

theorem keep_cls {C S F : Addr} {M : Model} {h : Heap} (N : Named K C S F) (X : K.In h) : ∃ k, (k = Keeper.frame ∨ k = Keeper.machine ∨ k = Keeper.boundFrame) ∧ Looks M h (keeperOf (.ref C)) k := by
  obtain ⟨oc, od, cd, sl, ho, _⟩ := N.obj
  have hk : keepIn K (.ref C) = true := by
    unfold keepIn
    dsimp only
    rw [ho]
    exact beq_iff_eq.mpr N.call
  obtain ⟨k, h1, h2⟩ := looks_keep (M := M) hk X
  exact ⟨k, h1.elim .inl fun x => .inr (.inl x), h2⟩

/-- slope, intercept as keywords -/
theorem s_ret_lr {p pos p1 p2 p3 p4 rpos : Pos} {av1 av2 : AV} {rest : List Stmt} {Q : Flow → Shared → Prop} (S : Static K cs mg mb) (W : Wd K cs mg mb h0) (hroom : A.depth + 1 < recursionLimit) (G : Gl (tabs cs) env h0 mg mb) (hkl : env.kindOf "LinearRegression" = some .globalImplicit)
    (X : At (tabs cs) (TT cs) h0 g0 o0 env ρ ls s) (hnp : ∀ a fp h, (a, HV.pin fp h) ∉ ls) (h1 : ρ.lookup ("slope" : Str) = some av1) (h2 : ρ.lookup ("intercept" : Str) = some av2)
    (k : ∀ x v1 v2 s', Rep av1 v1 → Rep av2 v2 → At (tabs cs) (TT cs) h0 g0 o0 env ρ ls s' → LineAt s'.heap 409 x #[v1, v2] → Q (.ret (.ref x)) s') :
    wpAny (model prog w) A (execs (.Return (some (.Call (.Name "LinearRegression" p) [] [⟨some "slope", .Name "slope" p1, p2⟩, ⟨some "intercept", .Name "intercept" p3, p4⟩] pos)) rpos :: rest) env) Q E s := by
  refine wpAny_execs_cons (wpAny_Return_some (wpAny_Call_ofName (Pur.glob G hkl S.lrc rfl s _ _ X fun f tk hf _ => ?_)))
  apply hf.e0 rfl
  refine callWith_of (P := K.In) rfl (fun h Xh => keep_cls S.named Xh) ?_
  refine evalArgs_kw2_nil rfl (kwAll_cons (Pur.nm h1 (by decide) _ _ _ X.toks fun v1 tk1 hv1 _ => kwAll_cons (Pur.nm h2 (by decide) _ _ _ X.toks fun v2 tk2 hv2 _ => kwAll_nil ?_)))
  have X' := X.toks (tk := tk2)
  have W' := W.at S X'
  refine ⟨W'.k, ?_⟩
  exact call_lrc (s := { s with toks := tk2 }) W'.w S.named S.base S.kok W'.k (S.new.fq W'.k) hroom S.gg.tuple fun x s' af hl => k x v1 v2 s' hv1 hv2 (X'.call af fun a fp h hm => absurd hm (hnp a fp h)) hl

/-- a body's end: the quotient stands -/
theorem lr_end_true {a b : Int} {f : Bool} {Q : Flow → Shared → Prop} (S : Static K cs mg mb) (W : Wd K cs mg mb h0) (hA : A.handled = none) (hroom : A.depth + 1 < recursionLimit) (hsc : env.scope = dLR.scope) (G : Gl (tabs cs) env h0 mg mb) (hb : b ≠ 0) (hb' : b.natAbs ≤ 2 ^ 53) (ht : 0 < s.toks)
    (X : At (tabs cs) (TT cs) h0 g0 o0 env ρ ls s) (hnp : ∀ a fp h, (a, HV.pin fp h) ∉ ls) (h1 : ρ.lookup ("sxy" : Str) = some (.fl a)) (h2 : ρ.lookup ("sxx" : Str) = some (nv f b)) (h3 : ρ.lookup ("proportional" : Str) = some (.bool true))
    (k : ∀ x v1 v2 s', Rep (.q a b) v1 → Rep (.fl 0) v2 → At (tabs cs) (TT cs) h0 g0 o0 env [] ls s' → LineAt s'.heap 409 x #[v1, v2] → Q (.ret (.ref x)) s') :
    wpAny (model prog w) A (execs (dLR.body.drop 7) env) Q E s := by
  have hk : ∀ x, env.kindOf x = dLR.scope.names.lookup x := fun x => by unfold Env.kindOf; rw [hsc]
  refine s_try (s_assignE (P := tabs cs) (T := TT cs) (h0 := h0) (g0 := g0) (o0 := o0) (.inl ((hk _).trans rfl)) (wpAny_BinOp (Pur.nm h1 (by decide) _ _ _ X fun va tk hva l1 => Pur.nm h2 (by decide) _ _ _ X.toks fun vb tk' hvb l2 => op_divq hA hb hb' _ _ _ _ _ (Nat.lt_of_lt_of_le ht (Nat.le_trans l1 l2)) hva hvb fun v tk'' hv _ => ⟨_, _, _, hv, X.toks, fun s₁ X₁ => s_nil ?_⟩)))
  refine s_assign X₁ (.ite (b := true) (Tst.name_bool (.nm h3)) (fun _ => .fzero) fun h => by cases h) (.inl ((hk _).trans rfl)) fun s₂ X₂ => ?_
  exact s_ret_lr S W hroom G ((hk _).trans rfl) X₂ hnp rfl rfl fun x v1 v2 s' r1 r2 X' hl => k x v1 v2 s' r1 r2 (X'.weak sub_nil fun p hp => hp) hl
theorem lr_end_false {a b q m m' : Int} {Q : Flow → Shared → Prop} (S : Static K cs mg mb) (W : Wd K cs mg mb h0) (hA : A.handled = none) (hroom : A.depth + 1 < recursionLimit) (hsc : env.scope = dLR.scope) (G : Gl (tabs cs) env h0 mg mb) (hb : b ≠ 0) (hq : a = q * b) (hq1 : q.natAbs ≤ 2 ^ 53) (hq2 : (q * m).natAbs ≤ 2 ^ 53) (hq3 : (m' - q * m).natAbs ≤ 2 ^ 53)
    (X : At (tabs cs) (TT cs) h0 g0 o0 env ρ ls s) (hnp : ∀ a fp h, (a, HV.pin fp h) ∉ ls) (h1 : ρ.lookup ("sxy" : Str) = some (.fl a)) (h2 : ρ.lookup ("sxx" : Str) = some (.fl b)) (h3 : ρ.lookup ("proportional" : Str) = some (.bool false)) (h4 : ρ.lookup ("xbar" : Str) = some (.fl m)) (h5 : ρ.lookup ("ybar" : Str) = some (.fl m'))
    (k : ∀ x v1 v2 s', Rep (.fl q) v1 → Rep (.fl (m' - q * m)) v2 → At (tabs cs) (TT cs) h0 g0 o0 env [] ls s' → LineAt s'.heap 409 x #[v1, v2] → Q (.ret (.ref x)) s') :
    wpAny (model prog w) A (execs (dLR.body.drop 7) env) Q E s := by
  have hk : ∀ x, env.kindOf x = dLR.scope.names.lookup x := fun x => by unfold Env.kindOf; rw [hsc]
  refine s_try (s_assign X (.bin (.nm h1) (.nm h2) (op_div_ff hA hq hb hq1)) (.inl ((hk _).trans rfl)) fun s₁ X₁ => s_nil ?_)
  have lk : ∀ {x : Str} {av}, ρ.lookup x = some av → x ≠ ("slope" : Str) → ((("slope" : Str), AV.fl q) :: ρ).lookup x = some av := fun hx hn => by
    rw [List.lookup_cons, beq_eq_false_iff_ne.mpr hn]; exact hx
  refine s_assign X₁ (.ite (b := false) (Tst.name_bool (.nm (lk h3 (by decide)))) (fun h => by cases h) fun _ => .bin (.nm (lk h5 (by decide))) (.bin (.nm rfl) (.nm (lk h4 (by decide))) (op_mul_ff hq2)) (op_sub_ff hq3)) (.inl ((hk _).trans rfl)) fun s₂ X₂ => ?_
  exact s_ret_lr S W hroom G ((hk _).trans rfl) X₂ hnp rfl rfl fun x v1 v2 s' r1 r2 X' hl => k x v1 v2 s' r1 r2 (X'.weak sub_nil fun p hp => hp) hl
/-- a body's end: the divisor is zero -/
theorem lr_end_zero {a : Int} {f : Bool} {outer : List Env} {E0 E1 : Value → Shared → Prop} {Q : Flow → Shared → Prop} (S : Static K cs mg mb) (W : Wd K cs mg mb h0) (hA : A.handled = none) (hsc : env.scope = dLR.scope) (G : Gl (tabs cs) env h0 mg mb) (hfr : A.frames = some (env :: outer)) (hf : env.frame = some env.locals) (c : Chain (tabs cs) s.heap outer)
    (X : At (tabs cs) (TT cs) h0 g0 o0 env ρ ls s) (hnp : ∀ a fp h, (a, HV.pin fp h) ∉ ls) (h1 : ρ.lookup ("sxy" : Str) = some (.fl a)) (h2 : ρ.lookup ("sxx" : Str) = some (nv f 0))
    (k : ∀ s' e, Fly (tabs cs) (TT cs) s s' outer e (.ref 102) → E0 (.ref e) s') :
    wpAny (model prog w) A (execs (dLR.body.drop 7) env) Q (fun e s' => wpAny (model prog w) A (leaving env e) (fun _ s'' => E0 e s'') (fun e' s'' => E1 e' s'') s') s := by
  have hk : ∀ x, env.kindOf x = dLR.scope.names.lookup x := fun x => by unfold Env.kindOf; rw [hsc]
  refine s_try (wpAny_execs_cons (wpAny_Assign_Name (wpAny_BinOp (Pur.nm h1 (by decide) _ _ _ X fun va tk hva _ => Pur.nm h2 (by decide) _ _ _ X.toks fun vb tk' hvb _ => op_div_zero hA hva hvb fun h' tk'' e hx => ?_)) rfl))
  have X' := X.toks (tk := tk')
  have fix : ∀ {s'} {e}, Fly (tabs cs) (TT cs) { s with toks := tk' } s' outer e (.ref 102) → Fly (tabs cs) (TT cs) s s' outer e (.ref 102) := fun f => ⟨f.go, f.grow, f.gens, f.os⟩
  exact catch_raise (s := { s with toks := tk' }) G hfr hf X' c hnp (S.errK.at (W.at S X').k) S.errP.1 S.errP.2 ((hk _).trans rfl) S.zde.1 S.zde.2 ((hk _).trans rfl) S.err hx fun h' tk' e' fl => k _ _ (fix fl)
end
end Mine
end
section
set_option maxRecDepth 100000
namespace Mine
open PySem PySem.Float64 PySem.W PySem.Calls PyProof.Rows
section
variable {prog : Program} {w : World} {A : Around} {E : Value → Shared → Prop} {s s' s₀ : Shared} {env : Env} {P : List Addr} {T : Heap → Prop} {h0 : Heap} {g0 : Array GenState} {o0 : OsState} {ρ ρ₀ : List (Str × AV)} {ls : List (Addr × HV)} {mg mb : Str → Option Value} {cs : List (Addr × Addr)} {K : Frag}

/-- a change of two objects that are younger than all that the state speaks of -/
theorem At.spare2 [TabKeep T] {C I : Addr} (X₀ : At P T h0 g0 o0 env ρ₀ ls s₀) (X : At P T h0 g0 o0 env ρ ls s) (hnp : ∀ a fp h, (a, HV.pin fp h) ∉ ls) (hC : s₀.heap.objs.size ≤ C) (hI : s₀.heap.objs.size ≤ I)
    (hk : ∀ b o, b ≠ C → b ≠ I → s.heap.get? b = some o → s'.heap.get? b = some o) (hg : BareG g0 s'.gens) (ho : s'.os = o0) : At P T h0 g0 o0 env ρ ls s' := by
  have lo : ∀ b, b < s₀.heap.objs.size → b ≠ C ∧ b ≠ I := fun b hb => ⟨Nat.ne_of_lt (Nat.lt_of_lt_of_le hb hC), Nat.ne_of_lt (Nat.lt_of_lt_of_le hb hI)⟩
  have hL : env.locals < s₀.heap.objs.size := let ⟨m, hn⟩ := X₀.ok.ns; hn.lt
  have hcl : ∀ y c, env.cells.lookup y = some c → c < s₀.heap.objs.size := fun y c hc => by
    obtain ⟨_, _, v, o, e, _⟩ := X₀.ok.cell y c hc
    exact Heap.lt_size e
  have kp : ∀ b o, b < s₀.heap.objs.size → s.heap.get? b = some o → s'.heap.get? b = some o := fun b o hb e => hk b o (lo b hb).1 (lo b hb).2 e
  have cellk : ∀ {c v}, c < s₀.heap.objs.size → s.heap.IsCell c v → s'.heap.IsCell c v := fun hc ⟨o, e, d⟩ => ⟨o, kp _ o hc e, d⟩
  obtain ⟨m, hn⟩ := X.ok.ns
  refine ⟨⟨X.ok.fn, ⟨m, hn.at' fun o e => kp _ o hL e⟩, X.ok.lo, fun y c hc => ?_, X.ok.inj⟩, X.grow.keep fun b o o₀ hb e₀ e => kp b o (X₀.grow.lt hb e₀) e, fun x av h => ?_, fun a l hm => ?_, X.far, X.big,
    TabKeep.go _ _ X.tb fun b o hb e => kp b o (Nat.lt_of_lt_of_le hb (Nat.le_trans X₀.nT_le X₀.low)) e, hg, ho⟩
  · obtain ⟨h1, h2, v, h3⟩ := X.ok.cell y c hc
    exact ⟨h1, h2, v, cellk (hcl y c hc) h3⟩
  · obtain ⟨v, h1, h2⟩ := X.here x av h
    refine ⟨v, h1, ?_⟩
    rcases h2 with ⟨hk', m', hn', hm⟩ | ⟨hk', c, hc, hv⟩ | ⟨hk', hnn, c, hc, hv⟩
    · exact .inl ⟨hk', m', hn'.at' fun o e => kp _ o hL e, hm⟩
    · exact .inr (.inl ⟨hk', c, hc, cellk (hcl _ _ hc) hv⟩)
    · exact .inr (.inr ⟨hk', hnn, c, hc, cellk (hcl _ _ hc) hv⟩)
  · have h1 := X₀.lists a l hm
    have h2 := X.lists a l hm
    cases l with
    | list l =>
      obtain ⟨_, ⟨o₁, e₁, _⟩, _⟩ := h1
      obtain ⟨vals, ⟨o, e, r⟩, hr⟩ := h2
      exact ⟨vals, ⟨o, kp a o (Heap.lt_size e₁) e, r⟩, hr⟩
    | acc l =>
      obtain ⟨_, ⟨o₁, _, e₁, _⟩, _⟩ := h1
      obtain ⟨vals, ⟨o, n, e, r⟩, hr⟩ := h2
      exact ⟨vals, ⟨o, n, kp a o (Heap.lt_size e₁) e, r⟩, hr⟩
    | pin fp h => exact absurd hm (hnp _ _ _)

/-- y = (yi - c for yi in y) -/
theorem s_gen {c Pt ay : Addr} {x cn y : Str} {p1 p2 p3 px py ypos pos spos : Pos} {scope : Scope} {f : Bool} {ys : List Int} {m : Int} {Q : Flow → Shared → Prop} {rest : List Stmt}
    (hA : A.handled = none) (hroom : A.depth < recursionLimit) (hcs : CsOk cs) (G : Gl (tabs cs) env h0 mg mb) (B : Bm (tabs cs) env h0 mg) (hm : (c, Pt) ∈ cs) (hcode : env.code = .ref c)
    (X : At (tabs cs) (TT cs) h0 g0 o0 env ρ ls s) (hnp : ∀ a fp h, (a, HV.pin fp h) ∉ ls) (hlim : s.heap.NoLimit) (hcP : cStatics ∉ tabs cs) (hcP' : cStatics < nT)
    (hy : ρ.lookup y = some (.ref ay)) (hdy : (y == ("__debug__" : Str)) = false) (hl : (ay, HV.list (nums f ys)) ∈ ls) (hb1 : ∀ n ∈ ys, n.natAbs ≤ 2 ^ 53) (hb2 : ∀ n ∈ ys, (n - m).natAbs ≤ 2 ^ 53)
    (hcn : ρ.lookup cn = some (.fl m)) (hkc : env.kindOf cn = some .cell)
    (hclos : ∀ cc, env.cells.lookup cn = some cc → closureFor scope env = pure [(cn, cc)])
    (hco : scope.isCoroutine = false) (hcell : ∀ y ∈ scope.names, y.2 ≠ .cell) (hn0 : scope.names.lookup (".0" : Str) = some NameKind.local)
    (hx : scope.names.lookup x = some .local) (hc : scope.names.lookup cn = some .free) (hkind : scope.kind = .function)
    (hdx : (x == ("__debug__" : Str)) = false) (hdc : (cn == ("__debug__" : Str)) = false) (hdd : (cn == ("__classdict__" : Str)) = false)
    (hky : env.kindOf y = some .local)
    (k : ∀ s' g C I cc gi, At (tabs cs) (TT cs) h0 g0 o0 env ((y, .ref g) :: ρ) ls s' → GenHere prog w A s' g C I ay cc gi ys m → s.heap.objs.size ≤ C → s.heap.objs.size ≤ I → wpAny (model prog w) A (execs rest env) Q E s')
    (hfold : ∀ u, genFold (.Name y py) env u = pure u := by intro _; rfl) (hs : swapsWith (.GeneratorExp (.BinOp (.Name x p1) .Sub (.Name cn p2) p3) [⟨.Name x px, .Name y py, [], 0⟩] scope pos) (some (.Name y ypos)) spos.line env = pure false := by rfl) :
    wpAny (model prog w) A (execs (.Assign [.Name y ypos] (.GeneratorExp (.BinOp (.Name x p1) .Sub (.Name cn p2) p3) [⟨.Name x px, .Name y py, [], 0⟩] scope pos) spos :: rest) env) Q E s := by
  refine wpAny_execs_cons (wpAny_Assign_Name (genexp_at hA hroom hcs G B hm hcode X hnp hlim hcP hcP' hy hdy hl hb1 hb2 hcn hkc hclos hco hcell hn0 hx hc hkind hdx hdc hdd (fun g C I cc s₁ X₁ GH hI hIC hCa ha hcc hay hgsz hgk hkp hne hlk => ?_) hfold) hs)
  refine X₁.store (.ref g) (.inl hky) fun s₂ X₂ st hsb => k s₂ g C I cc _ X₂ (GH.grow (fun b hb o e => ?_) (fun z e => ?_) (Nat.le_of_eq st.2.2.symm)) (Nat.le_trans hI (Nat.le_of_lt hIC)) hI
  · obtain ⟨a, hsame, ha', _⟩ := hsb
    have hloc : a = env.locals := by
      rcases ha' with ⟨_, e⟩ | ⟨q, _⟩
      · exact e
      · rw [hky] at q; cases q
    subst hloc
    obtain ⟨m', hn⟩ := X.ok.ns
    have hL : env.locals < s.heap.objs.size := hn.lt
    obtain ⟨oL, es, ep, hoL, hdL, _⟩ := id X₁.ok.ns.choose_spec
    refine (hsame.2 b (fun q => ?_)).trans e
    rw [q] at hb
    simp only [List.mem_cons, List.not_mem_nil, or_false] at hb
    rcases hb with q | q | q | q | q | q
    · rw [q] at hL; exact Nat.lt_irrefl _ (Nat.lt_of_lt_of_le hL (Nat.le_trans hI (Nat.le_of_lt (Nat.lt_trans hIC hCa))))
    · rw [q] at hL; exact Nat.lt_irrefl _ (Nat.lt_of_lt_of_le hL (Nat.le_trans hI (Nat.le_of_lt hIC)))
    · rw [q] at hL; exact Nat.lt_irrefl _ (Nat.lt_of_lt_of_le hL hI)
    · obtain ⟨_, ⟨o', e', _, n, d⟩, _⟩ := X₁.lists ay _ hl
      rw [← q, hoL] at e'; cases e'
      rw [hdL] at d; cases d
    · exact (X₁.ok.cell _ _ hlk).2.1 q.symm
    · have := X.ok.lo
      rw [q] at this
      exact Nat.lt_irrefl _ (Nat.lt_of_lt_of_le hcP' (Nat.le_trans X.nT_le this))
  · obtain ⟨_, _, _, hg⟩ := hsb
    rw [hg.1]; exact e
/-- sumprod(x, y), y a generator -/
theorem eval_sumprod_lg {ax ay g C I cc : Addr} {gi : Nat} {y nx : Str} {p q1 q2 cpos : Pos} {as ys : List Int} {m : Int} {Q : Value → Shared → Prop} (hA : A.handled = none) (G : Gl (tabs cs) env h0 mg mb)
    (hks : env.kindOf "sumprod" = some .globalImplicit) (hgs : mg "sumprod" = some (.builtin "math.sumprod"))
    (X₀ : At (tabs cs) (TT cs) h0 g0 o0 env ρ₀ ls s₀) (X : At (tabs cs) (TT cs) h0 g0 o0 env ρ ls s) (hnp : ∀ a fp h, (a, HV.pin fp h) ∉ ls) (GH : GenHere prog w A s g C I ay cc gi ys m) (hC : s₀.heap.objs.size ≤ C) (hI : s₀.heap.objs.size ≤ I)
    (hnx : ρ.lookup nx = some (.ref ax)) (hdnx : (nx == ("__debug__" : Str)) = false) (hlx : (ax, HV.list (nums true as)) ∈ ls) (hy : ρ.lookup y = some (.ref g)) (hdy : (y == ("__debug__" : Str)) = false)
    (hba : ∀ n ∈ as, n.natAbs ≤ 2 ^ 53) (hlen : ys.length = as.length) (hdot : DotOk as (ys.map (· - m))) (hpos : 0 < as.length)
    (k : ∀ v s₂, Rep (.fl (dotN as (ys.map (· - m)) as.length)) v → At (tabs cs) (TT cs) h0 g0 o0 env ρ ls s₂ → Q v s₂) :
    wpAny (model prog w) A (eval (.Call (.Name "sumprod" p) [.Name nx q1, .Name y q2] [] cpos) env) Q E s := by
  refine wpAny_Call_NameR (Pur.glob G hks hgs rfl s _ _ X fun f' tk hf htk => ?_)
  apply hf.e0 rfl
  refine PyProof.Rows.callWith_builtin1 (PurL.cons (.nm hnx hdnx) (.cons (.nm hy hdy) .nil rfl) rfl _ _ _ _ X.toks fun vs tk' hvs htk' => ?_) rfl rfl
  apply hvs.consE; intro _ _ h1 h2
  apply h2.consE; intro _ _ h2 h3
  apply h3.nilE; apply h1.e0 rfl; apply h2.e0 rfl
  obtain ⟨vx, hLx, hRx⟩ := X.lists ax _ hlx
  obtain ⟨_, ⟨o₀, e₀, _⟩, _⟩ := X₀.lists ax _ hlx
  have hax := Heap.lt_size e₀
  have GH' : GenHere prog w A { s with toks := tk' } g C I ay cc gi ys m := GH.grow (fun b _ o e => e) (fun z e => e) (Nat.le_refl _)
  have X' := X.toks (tk := tk')
  exact call_sumprod_list_gen (s := { s with toks := tk' }) hA hLx (nums_numsE hRx hba) GH' hlen hdot hpos (Nat.ne_of_lt (Nat.lt_of_lt_of_le hax hC)) (Nat.ne_of_lt (Nat.lt_of_lt_of_le hax hI)) fun b t s₂ hF hk hg ho => k _ _ (.fl _ _ _ hF) (X₀.spare2 X' hnp hC hI hk (fun y => hg (X'.gens y)) (ho.trans X'.os))
end
end Mine
end
section
set_option maxRecDepth 100000
namespace Mine
open PySem PySem.Float64 PySem.W PySem.Calls PyProof.Rows
section
variable {prog : Program} {w : World} {A : Around} {E : Value → Shared → Prop} {s : Shared} {env : Env} {h0 : Heap} {g0 : Array GenState} {o0 : OsState} {mg mb : Str → Option Value} {cs : List (Addr × Addr)} {K : Frag}

theorem swaps_true {elt : Expr} {gens : List Comprehension} {scope : Scope} {pos tp : Pos} {t : Str} {line : Nat} (hb : env.scope.kind = .function) (hk : env.kindOf t = some .local) (hl : (tp.line == pos.line) = true) (hn : (scope.names.any fun (n, k) => n == t && (k == .local || k == .cell)) = false) :
    swapsWith (.ListComp elt gens scope pos) (some (.Name t tp)) line env = pure true := by
  show (pure (env.blockKind == .function && env.kindOf t == some .local && tp.line == pos.line && !(scope.names.any fun (n, k) => n == t && (k == .local || k == .cell))) : Sem Bool) = pure true
  rw [hk, hl, hn]
  unfold Env.blockKind
  rw [hb]
  rfl
theorem lr_mid_false {xs ys : List Int} {f f' : Bool} {a b : Addr} {m m' : Int} {Q : Flow → Shared → Prop} (S : Static K cs mg mb) (W : Wd K cs mg mb h0) (hA : A.handled = none) (hroom : A.depth < recursionLimit) (hsc : env.scope = dLR.scope) (hfn : env.func ≠ none) (hcells : ∃ cx cy, env.cells.lookup ("xbar" : Str) = some cx ∧ env.cells.lookup ("ybar" : Str) = some cy)
    (G : Gl (tabs cs) env h0 mg mb) (hcode : env.code = .ref 417) (hi : interactive env = false)
    (hx : Sm xs) (hy : Sm ys) (hlen : ys.length = xs.length) (h2 : 2 ≤ xs.length) (hmx : xs.sum = m * xs.length) (hmy : ys.sum = m' * xs.length) (hm1 : m.natAbs ≤ 2 ^ 20) (hm2 : m'.natAbs ≤ 2 ^ 20)
    (X : At (tabs cs) (TT cs) h0 g0 o0 env [("x", .ref a), ("y", .ref b), ("proportional", .bool false)] [(a, .list (nums f xs)), (b, .list (nums f' ys))] s)
    (k : ∀ s' ρ ls, At (tabs cs) (TT cs) h0 g0 o0 env ρ ls s' → (∀ a fp h, (a, HV.pin fp h) ∉ ls) → ρ.lookup ("sxy" : Str) = some (.fl (dotN (xs.map (· - m)) (ys.map (· - m')) xs.length)) → ρ.lookup ("sxx" : Str) = some (.fl (dotN (xs.map (· - m)) (xs.map (· - m)) xs.length)) →
      ρ.lookup ("proportional" : Str) = some (.bool false) → ρ.lookup ("xbar" : Str) = some (.fl m) → ρ.lookup ("ybar" : Str) = some (.fl m') → wpAny (model prog w) A (execs (dLR.body.drop 7) env) Q E s') : wpAny (model prog w) A (execs dLR.body env) Q E s := by
  have hk : ∀ x, env.kindOf x = dLR.scope.names.lookup x := fun x => by unfold Env.kindOf; rw [hsc]
  obtain ⟨cx, cy, hcx, hcy⟩ := hcells
  have hl := hx.len
  have gl := S.gf
  have ma : (a, HV.list (nums f xs)) ∈ [(a, HV.list (nums f xs)), (b, HV.list (nums f' ys))] := List.mem_cons_self
  have mb' : (b, HV.list (nums f' ys)) ∈ [(a, HV.list (nums f xs)), (b, HV.list (nums f' ys))] := List.mem_cons_of_mem _ List.mem_cons_self
  have np : ∀ c fp h, (c, HV.pin fp h) ∉ [(a, HV.list (nums f xs)), (b, HV.list (nums f' ys))] := fun c fp h hm => by
    rcases List.mem_cons.mp hm with q | q
    · cases q
    · cases List.mem_singleton.mp q
  refine s_doc X hi fun s₁ X₁ => ?_
  refine s_assign X₁ (.len G ((hk _).trans rfl) gl.len.1 gl.len.2 (.nm rfl) ma (by unfold nums; rw [List.length_map]) (by omega)) (.inl ((hk _).trans rfl)) fun s₂ X₂ => ?_
  refine s_skip X₂ (.cmp (.len G ((hk _).trans rfl) gl.len.1 gl.len.2 (.nm rfl) mb' (by unfold nums; rw [List.length_map, hlen]) (by omega)) (.nm rfl) op_ne) (by simp) fun s₃ X₃ => ?_
  refine s_skip X₃ (.cmp (.nm rfl) .int op_lt) (by simp; omega) fun s₄ X₄ => ?_
  have hN : ((xs.length : Int)).natAbs ≤ 2 ^ 53 := by omega
  refine s_if X₄ (b := true) (Tst.not (b := false) (Tst.name_bool (.nm rfl))) (fun _ s₅ X₅ => ?_) (fun h => by cases h)
  refine s_assignE (P := tabs cs) (T := TT cs) (h0 := h0) (g0 := g0) (o0 := o0) (.inr ⟨(hk _).trans rfl, cx, hcx, hfn⟩) (wpAny_BinOp (eval_fsum hA G ((hk _).trans rfl) gl.fsum X₅ rfl (by decide) ma hx.take hx.val53 fun v s₅ hv X₅ => Pur.nm rfl (by decide) _ _ _ X₅ fun u tk hu _ =>
    op_div_fi (q := m) hA hmx (by omega) hN (by omega) _ _ _ _ _ hv hu fun v' tk' hv' _ => ⟨_, _, _, hv', X₅.toks, fun s₆ X₆ => ?_⟩))
  refine s_assignE (P := tabs cs) (T := TT cs) (h0 := h0) (g0 := g0) (o0 := o0) (.inr ⟨(hk _).trans rfl, cy, hcy, hfn⟩) (wpAny_BinOp (eval_fsum hA G ((hk _).trans rfl) gl.fsum X₆ rfl (by decide) mb' hy.take hy.val53 fun v s₅ hv X₅ => Pur.nm rfl (by decide) _ _ _ X₅ fun u tk hu _ =>
    op_div_fi (q := m') hA hmy (by omega) hN (by omega) _ _ _ _ _ hv hu fun v' tk' hv' _ => ⟨_, _, _, hv', X₅.toks, fun s₇ X₇ => ?_⟩))
  refine s_center hA X₇ np rfl (by decide) ma hx.val53 (hx.sub53 hm1) (Nat.le_trans hl (by decide)) rfl ((hk _).trans rfl) (fun cc h => closure_one h rfl) (swaps_true (by rw [hsc]; rfl) ((hk _).trans rfl) rfl (by decide)) ((hk _).trans rfl) (by decide) rfl rfl rfl (by decide) (by decide) (by decide) fun D s₈ hD X₈ => ?_
  have np₈ : ∀ c fp h, (c, HV.pin fp h) ∉ [(D, HV.list (nums true (xs.map (· - m)))), (a, HV.list (nums f xs)), (b, HV.list (nums f' ys))] := fun c fp h hm => by
    rcases List.mem_cons.mp hm with q | q
    · cases q
    · exact np c fp h q
  have W₈ := W.at S X₈
  refine s_gen (c := 417) (Pt := 415) (m := m') hA hroom S.csok G (S.bm' W) S.lr.2.2 hcode X₈ np₈ W₈.w.lim W₈.w.cP (by decide) rfl (by decide) (List.mem_cons_of_mem _ mb') hy.val53 (hy.sub53 hm2) rfl ((hk _).trans rfl)
    (fun cc h => closure_one h rfl) rfl (by decide) rfl rfl rfl rfl (by decide) (by decide) (by decide) ((hk _).trans rfl) fun s₉ g C I cc gi X₉ GH hC hI => s_nil ?_
  have hba : ∀ n ∈ xs.map (· - m), n.natAbs ≤ 2 ^ 53 := fun n hn => by
    obtain ⟨c, h1, rfl⟩ := List.mem_map.mp hn
    exact hx.sub53 hm1 c h1
  have hlc : (xs.map (· - m)).length = xs.length := List.length_map ..
  have hd1 := hx.dot hy hm1 hm2
  have hd2 := hx.dot hx hm1 hm1
  have hb1 := hd1.sums xs.length
  have ml : (D, HV.list (nums true (xs.map (· - m)))) ∈ [(D, HV.list (nums true (xs.map (· - m)))), (a, HV.list (nums f xs)), (b, HV.list (nums f' ys))] := List.mem_cons_self
  refine s_assignE (P := tabs cs) (T := TT cs) (h0 := h0) (g0 := g0) (o0 := o0) (.inl ((hk _).trans rfl)) (wpAny_BinOp (eval_sumprod_lg hA G ((hk _).trans rfl) gl.sumprod X₈ X₉ np₈ GH hC hI rfl (by decide) ml rfl (by decide) hba (by rw [hlc, hlen]) hd1 (by rw [hlc]; omega) fun v s₁₀ hv X₁₀ =>
    Pur.fzero _ _ _ X₁₀ fun u tk hu _ => op_add_zero (f := true) (by rw [hlc]; exact hb1) _ _ _ _ _ hv hu fun v' tk' hv' _ => ⟨_, _, _, hv', X₁₀.toks, fun s₁₁ X₁₁ => ?_⟩))
  refine s_assignE (P := tabs cs) (T := TT cs) (h0 := h0) (g0 := g0) (o0 := o0) (.inl ((hk _).trans rfl)) (eval_sumprod_lists (f := true) hA G ((hk _).trans rfl) gl.sumprod X₁₁ rfl (by decide) ml rfl (by decide) ml hba hba rfl hd2 (by rw [hlc]; omega) fun v s₁₂ hv X₁₂ _ => ⟨_, _, _, hv, X₁₂, fun s₁₃ X₁₃ => ?_⟩)
  rw [hlc] at X₁₃
  exact k s₁₃ _ _ X₁₃ np₈ rfl rfl rfl rfl rfl
end
end Mine
end
section
set_option maxRecDepth 100000
namespace Mine
open PySem PySem.Float64 PySem.W PySem.Calls PyProof.Rows
theorem Sm.dot0 {xs ys : List Int} (hx : Sm xs) (hy : Sm ys) : DotOk xs ys :=
  dot_ok hx.len (fun n hn => Nat.le_trans (hx.val n hn) (by decide)) fun n hn => Nat.le_trans (hy.val n hn) (by decide)
section
variable {prog : Program} {w : World} {A : Around} {E : Value → Shared → Prop} {s : Shared} {env : Env} {h0 : Heap} {g0 : Array GenState} {o0 : OsState} {mg mb : Str → Option Value} {cs : List (Addr × Addr)} {K : Frag}

theorem lr_mid_true {xs ys : List Int} {f : Bool} {a b : Addr} {Q : Flow → Shared → Prop} (S : Static K cs mg mb) (hA : A.handled = none) (hsc : env.scope = dLR.scope)
    (G : Gl (tabs cs) env h0 mg mb) (hi : interactive env = false)
    (hx : Sm xs) (hy : Sm ys) (hlen : ys.length = xs.length) (h2 : 2 ≤ xs.length)
    (X : At (tabs cs) (TT cs) h0 g0 o0 env [("x", .ref a), ("y", .ref b), ("proportional", .bool true)] [(a, .list (nums f xs)), (b, .list (nums f ys))] s)
    (k : ∀ s' ρ ls, At (tabs cs) (TT cs) h0 g0 o0 env ρ ls s' → (∀ a fp h, (a, HV.pin fp h) ∉ ls) → ρ.lookup ("sxy" : Str) = some (.fl (dotN xs ys xs.length)) → ρ.lookup ("sxx" : Str) = some (nv f (dotN xs xs xs.length)) →
      ρ.lookup ("proportional" : Str) = some (.bool true) → 0 < s'.toks → wpAny (model prog w) A (execs (dLR.body.drop 7) env) Q E s') : wpAny (model prog w) A (execs dLR.body env) Q E s := by
  have hk : ∀ x, env.kindOf x = dLR.scope.names.lookup x := fun x => by unfold Env.kindOf; rw [hsc]
  have hl := hx.len
  have gl := S.gf
  have ma : (a, HV.list (nums f xs)) ∈ [(a, HV.list (nums f xs)), (b, HV.list (nums f ys))] := List.mem_cons_self
  have mb' : (b, HV.list (nums f ys)) ∈ [(a, HV.list (nums f xs)), (b, HV.list (nums f ys))] := List.mem_cons_of_mem _ List.mem_cons_self
  have np : ∀ c fp h, (c, HV.pin fp h) ∉ [(a, HV.list (nums f xs)), (b, HV.list (nums f ys))] := fun c fp h hm => by
    rcases List.mem_cons.mp hm with q | q
    · cases q
    · cases List.mem_singleton.mp q
  refine s_doc X hi fun s₁ X₁ => ?_
  refine s_assign X₁ (.len G ((hk _).trans rfl) gl.len.1 gl.len.2 (.nm rfl) ma (by unfold nums; rw [List.length_map]) (by omega)) (.inl ((hk _).trans rfl)) fun s₂ X₂ => ?_
  refine s_skip X₂ (.cmp (.len G ((hk _).trans rfl) gl.len.1 gl.len.2 (.nm rfl) mb' (by unfold nums; rw [List.length_map, hlen]) (by omega)) (.nm rfl) op_ne) (by simp) fun s₃ X₃ => ?_
  refine s_skip X₃ (.cmp (.nm rfl) .int op_lt) (by simp; omega) fun s₄ X₄ => ?_
  refine s_skip X₄ (b := false) (Tst.not (b := true) (Tst.name_bool (.nm rfl))) rfl fun s₅ X₅ => ?_
  have hd1 := hx.dot0 hy
  have hd2 := hx.dot0 hx
  have hb1 := hd1.sums xs.length
  refine s_assignE (P := tabs cs) (T := TT cs) (h0 := h0) (g0 := g0) (o0 := o0) (.inl ((hk _).trans rfl)) (wpAny_BinOp (eval_sumprod_lists hA G ((hk _).trans rfl) gl.sumprod X₅ rfl (by decide) ma rfl (by decide) mb' hx.val53 hy.val53 hlen hd1 (by omega) fun v s₆ hv X₆ _ =>
    Pur.fzero _ _ _ X₆ fun u tk hu _ => op_add_zero hb1 _ _ _ _ _ hv hu fun v' tk' hv' _ => ⟨_, _, _, hv', X₆.toks, fun s₇ X₇ => ?_⟩))
  refine s_assignT (P := tabs cs) (T := TT cs) (h0 := h0) (g0 := g0) (o0 := o0) (.inl ((hk _).trans rfl)) (eval_sumprod_lists hA G ((hk _).trans rfl) gl.sumprod X₇ rfl (by decide) ma rfl (by decide) ma hx.val53 hx.val53 rfl hd2 (by omega) fun v s₈ hv X₈ ht => ⟨_, _, _, hv, X₈, fun s₉ X₉ e => ?_⟩)
  exact k s₉ _ _ X₉ np rfl rfl rfl (Nat.lt_of_lt_of_le ht e)

theorem enter_lr {xs ys : List Int} {f f' p : Bool} {a b : Addr} {vs : List Value} {Q : Value → Shared → Prop} (S : Static K cs mg mb) (W : Wd K cs mg mb s.heap) (hroom : A.depth < recursionLimit) (hla : IsAV s.heap a (nums f xs)) (hlb : IsAV s.heap b (nums f' ys)) (hvs : Reps [.ref a, .ref b] vs)
    (k : ∀ env s', env.scope = dLR.scope → env.func ≠ none → (∃ cx cy, env.cells.lookup ("xbar" : Str) = some cx ∧ env.cells.lookup ("ybar" : Str) = some cy) → env.code = .ref 417 → interactive env = false → env.frame = some env.locals → Gl (tabs cs) env s.heap mg mb →
      At (tabs cs) (TT cs) s.heap s.gens s.os env [("x", .ref a), ("y", .ref b), ("proportional", .bool p)] [(a, .list (nums f xs)), (b, .list (nums f' ys))] s' →
      wpAny (model prog w) (A.deeper env) (execs dLR.body env) (fun f s' => Q (match f with | .ret v => v | _ => .none) s') (fun e s' => wpAny (model prog w) (A.deeper env) (leaving env e) (fun _ s'' => E e s'') (fun e' s'' => E e' s'') s') s') :
    wpAny (model prog w) A (call (.ref 418) vs [("proportional", .bool p)]) Q E s := by
  refine (S.lr.2.1.cd W.k).elim fun o pm doc ho hd hcd => ?_
  apply hvs.consE; intro _ _ h1 h2'
  apply h2'.consE; intro _ _ h2' h3
  apply h3.nilE; apply h1.e0 rfl; apply h2'.e0 rfl
  refine enterC W.w hroom ho hd hcd rfl (binds := [("x", .ref a), ("y", .ref b), ("proportional", .bool p)]) (ρ := [("x", .ref a), ("y", .ref b), ("proportional", .bool p)]) (ls := [(a, .list (nums f xs)), (b, .list (nums f' ys))]) (BindsTo.of_eq rfl)
    (loc_of (by show ∀ n ∈ [("x" : Str), "y", "proportional"], dLR.scope.names.lookup n = some .local; decide)) rfl rfl rfl (fun x av hx' => ?_) (fun b' l hm' => ?_) (fun s' G X => ?_) rfl rfl rfl
  · rw [List.lookup_cons] at hx'
    by_cases e : x = "x"
    · subst e; cases hx'
      exact ⟨_, rfl, rfl, .ref a⟩
    · rw [beq_eq_false_iff_ne.mpr e] at hx'
      rcases lookup_two hx' with ⟨rfl, rfl⟩ | ⟨rfl, rfl⟩
      · exact ⟨_, rfl, rfl, .ref b⟩
      · exact ⟨_, rfl, rfl, .bool p⟩
  · rcases List.mem_cons.mp hm' with q | q
    · cases q; exact hla
    · cases List.mem_singleton.mp q; exact hlb
  · exact k _ s' rfl (by intro q; cases q) ⟨_, _, rfl, rfl⟩ rfl rfl rfl G X
theorem frames_of {outer : List Env} (h : A.frames = some outer) : (A.deeper env).frames = some (env :: outer) := Around.frames_deeper h

theorem call_lr_false {xs ys : List Int} {f f' : Bool} {a b : Addr} {vs : List Value} {m m' q : Int} {Q : Value → Shared → Prop} (S : Static K cs mg mb) (W : Wd K cs mg mb s.heap) (hA : A.handled = none) (hroom : A.depth + 4 < recursionLimit) (hla : IsAV s.heap a (nums f xs)) (hlb : IsAV s.heap b (nums f' ys)) (hvs : Reps [.ref a, .ref b] vs)
    (hx : Sm xs) (hy : Sm ys) (hlen : ys.length = xs.length) (h2 : 2 ≤ xs.length) (hmx : xs.sum = m * xs.length) (hmy : ys.sum = m' * xs.length) (hm1 : m.natAbs ≤ 2 ^ 20) (hm2 : m'.natAbs ≤ 2 ^ 20)
    (hb : dotN (xs.map (· - m)) (xs.map (· - m)) xs.length ≠ 0) (hq : dotN (xs.map (· - m)) (ys.map (· - m')) xs.length = q * dotN (xs.map (· - m)) (xs.map (· - m)) xs.length) (hq1 : q.natAbs ≤ 2 ^ 20)
    (k : ∀ x v1 v2 s', Rep (.fl q) v1 → Rep (.fl (m' - q * m)) v2 → After (tabs cs) (TT cs) s s' → LineAt s'.heap 409 x #[v1, v2] → Q (.ref x) s') :
    wpAny (model prog w) A (call (.ref 418) vs [("proportional", .bool false)]) Q E s := by
  have hq2 : (q * m).natAbs ≤ 2 ^ 40 := by
    rw [Int.natAbs_mul]
    exact Nat.le_trans (Nat.mul_le_mul hq1 hm1) (by decide)
  refine enter_lr S W (by omega) hla hlb hvs fun env s' h1 h3 h4 h5 h6 h7 G X => lr_mid_false S W hA (by show A.depth + 1 < _; omega) h1 h3 h4 G h5 h6 hx hy hlen h2 hmx hmy hm1 hm2 X fun s₂ ρ ls X₂ np e1 e2 e3 e4 e5 => ?_
  exact lr_end_false S W hA (by show A.depth + 1 + 1 < _; omega) h1 G hb hq (by omega) (by omega) (by omega) X₂ np e1 e2 e3 e4 e5 fun x v1 v2 s₃ r1 r2 X₃ hl => k x v1 v2 s₃ r1 r2 X₃.out hl
theorem call_lr_false0 {xs ys : List Int} {f f' : Bool} {a b : Addr} {vs : List Value} {m m' : Int} {outer : List Env} {Q : Value → Shared → Prop} (S : Static K cs mg mb) (W : Wd K cs mg mb s.heap) (hA : A.handled = none) (hroom : A.depth + 4 < recursionLimit) (hfr : A.frames = some outer) (hc : Chain (tabs cs) s.heap outer) (hla : IsAV s.heap a (nums f xs)) (hlb : IsAV s.heap b (nums f' ys)) (hvs : Reps [.ref a, .ref b] vs)
    (hx : Sm xs) (hy : Sm ys) (hlen : ys.length = xs.length) (h2 : 2 ≤ xs.length) (hmx : xs.sum = m * xs.length) (hmy : ys.sum = m' * xs.length) (hm1 : m.natAbs ≤ 2 ^ 20) (hm2 : m'.natAbs ≤ 2 ^ 20)
    (hb : dotN (xs.map (· - m)) (xs.map (· - m)) xs.length = 0)
    (k : ∀ s' e, Fly (tabs cs) (TT cs) s s' outer e (.ref 102) → E (.ref e) s') :
    wpAny (model prog w) A (call (.ref 418) vs [("proportional", .bool false)]) Q E s := by
  refine enter_lr S W (by omega) hla hlb hvs fun env s' h1 h3 h4 h5 h6 h7 G X => lr_mid_false S W hA (by show A.depth + 1 < _; omega) h1 h3 h4 G h5 h6 hx hy hlen h2 hmx hmy hm1 hm2 X fun s₂ ρ ls X₂ np e1 e2 e3 e4 e5 => ?_
  rw [hb] at e2
  exact lr_end_zero (f := true) S W hA h1 G (frames_of hfr) h7 (hc.grow X₂.grow (tabs_low X₂.tb)) X₂ np e1 e2 fun s₃ e fl => k s₃ e (Fly.after X₂.out fl)
theorem call_lr_true {xs ys : List Int} {f : Bool} {a b : Addr} {vs : List Value} {Q : Value → Shared → Prop} (S : Static K cs mg mb) (W : Wd K cs mg mb s.heap) (hA : A.handled = none) (hroom : A.depth + 4 < recursionLimit) (hla : IsAV s.heap a (nums f xs)) (hlb : IsAV s.heap b (nums f ys)) (hvs : Reps [.ref a, .ref b] vs)
    (hx : Sm xs) (hy : Sm ys) (hlen : ys.length = xs.length) (h2 : 2 ≤ xs.length) (hb : dotN xs xs xs.length ≠ 0)
    (k : ∀ x v1 v2 s', Rep (.q (dotN xs ys xs.length) (dotN xs xs xs.length)) v1 → Rep (.fl 0) v2 → After (tabs cs) (TT cs) s s' → LineAt s'.heap 409 x #[v1, v2] → Q (.ref x) s') :
    wpAny (model prog w) A (call (.ref 418) vs [("proportional", .bool true)]) Q E s := by
  refine enter_lr S W (by omega) hla hlb hvs fun env s' h1 h3 h4 h5 h6 h7 G X => lr_mid_true S hA h1 G h6 hx hy hlen h2 X fun s₂ ρ ls X₂ np e1 e2 e3 ht => ?_
  exact lr_end_true S W hA (by show A.depth + 1 + 1 < _; omega) h1 G hb ((hx.dot0 hx).sums _) ht X₂ np e1 e2 e3 fun x v1 v2 s₃ r1 r2 X₃ hl => k x v1 v2 s₃ r1 r2 X₃.out hl
theorem call_lr_true0 {xs ys : List Int} {f : Bool} {a b : Addr} {vs : List Value} {outer : List Env} {Q : Value → Shared → Prop} (S : Static K cs mg mb) (W : Wd K cs mg mb s.heap) (hA : A.handled = none) (hroom : A.depth + 4 < recursionLimit) (hfr : A.frames = some outer) (hc : Chain (tabs cs) s.heap outer) (hla : IsAV s.heap a (nums f xs)) (hlb : IsAV s.heap b (nums f ys)) (hvs : Reps [.ref a, .ref b] vs)
    (hx : Sm xs) (hy : Sm ys) (hlen : ys.length = xs.length) (h2 : 2 ≤ xs.length) (hb : dotN xs xs xs.length = 0)
    (k : ∀ s' e, Fly (tabs cs) (TT cs) s s' outer e (.ref 102) → E (.ref e) s') :
    wpAny (model prog w) A (call (.ref 418) vs [("proportional", .bool true)]) Q E s := by
  refine enter_lr S W (by omega) hla hlb hvs fun env s' h1 h3 h4 h5 h6 h7 G X => lr_mid_true S hA h1 G h6 hx hy hlen h2 X fun s₂ ρ ls X₂ np e1 e2 e3 _ => ?_
  rw [hb] at e2
  exact lr_end_zero (f := f) S W hA h1 G (frames_of hfr) h7 (hc.grow X₂.grow (tabs_low X₂.tb)) X₂ np e1 e2 fun s₃ e fl => k s₃ e (Fly.after X₂.out fl)
end
end Mine
end
section
set_option maxRecDepth 100000
namespace Mine
open PySem PySem.W PySem.Calls PyProof.Rows
section
variable {prog : Program} {w : World} {A : Around} {E : Value → Shared → Prop} {s : Shared} {env : Env}

theorem setAdd_str {d : Addr} {S : Str → Bool} {n : Nat} {x : Str} {t : Tok} {Q : Bool → Shared → Prop} (hS : s.heap.SetOf (PySem.strKind prog w) d S n) (hb : n + 1 < scanBound)
    (h : ∀ h', Heap.SameBut d s.heap h' → h'.SetOf (PySem.strKind prog w) d (fun k' => S k' || decide (k' = x)) (if S x then n else n + 1) → Q (!S x) { s with heap := h', toks := s.toks + 1 }) : wpAny (model prog w) A (setAdd d (.str x t)) Q E s := by
  have hkey := strKind_is prog w x t
  unfold setAdd
  refine wpAny_holding (wpAny_bind ((PySem.strKind prog w).pyHash hkey ?_))
  exact wpAny_setAddHashed_of (s := { s with toks := s.toks + 1 }) hkey rfl hS hb h
theorem setUnled_str {d : Addr} {S : Str → Bool} {n : Nat} {Q : Unit → Shared → Prop} (hS : s.heap.SetOf (PySem.strKind prog w) d S n) (hb : n < scanBound)
    (h : ∀ h', Heap.SameBut d s.heap h' → h'.SetOf (PySem.strKind prog w) d S n → Q () { s with heap := h' }) : wpAny (model prog w) A (setUnled d) Q E s := by
  obtain ⟨o, es, ep, t, ho, hex, hd, hel, hmem, hb1, hf, hn⟩ := hS
  have hf' : ({ t with led := false } : SetTable).fits es.size = true := by cases t; exact hf
  unfold setUnled
  refine wpAny_bind (wpAny_setState_of ho hd hf ?_)
  dsimp only
  refine wpAny_storeSet_of ho hd ?_ (fits_of_scanBound hb1)
  obtain ⟨_, hS⟩ := SetOf_store (knd := PySem.strKind prog w) ho hex hd hel hmem hb1 hf'
  rw [hn] at hS
  exact h _ (Heap.SameBut.update s.heap d (Obj.putSet es { t with led := false })) hS

/-- x not in {"..", ".."} -/
theorem tst_notin {P : List Addr} {T : Heap → Prop} [TabKeep T] {h0 : Heap} {g0 : Array GenState} {o0 : OsState} {ρ : List (Str × AV)} {ls : List (Addr × HV)} {K : Frag} {x a b m : Str} {px pa pb ps pos : Pos} {ka kb : Nat} {tm : Tok} {whole : Sem Value} {Q : Bool → Shared → Prop} (X : At P T h0 g0 o0 env ρ ls s) (XK : K.In s.heap) (hcode : kdsCode K env.code = true)
    (hx : ρ.lookup x = some (.val (.str m tm))) (hd : (x == ("__debug__" : Str)) = false) (hin : (decide (m = a) || decide (m = b)) = true)
    (k : ∀ s', At P T h0 g0 o0 env ρ ls s' → Q false s') :
    wpAny (model prog w) A (isTrue (.Compare (.Name x px) [.NotIn] [.Set [.Constant (.str a) ka pa, .Constant (.str b) kb pb] 0 ps] pos) env whole) Q E s := by
  refine kdi_test (by with_unfolding_all rfl) (Pur.nm hx hd _ _ _ X fun v tk hv _ => ?_)
  apply hv.e0 rfl
  have X₁ := X.toks (tk := tk)
  rw [arm_eval_Set]
  refine wpAny_bind (wpAny_standAt (wpAny_bind (kds_main (s := { s with toks := tk }) XK hcode fun b' => ?_)))
  rw [kds_star _ (by rfl), List.map_map]
  refine kds_core (ts := (evalEach [.Constant (.str a) ka pa, .Constant (.str b) kb pb] env).map fun t => do let v ← t; standAt ps; pure v) (by rfl) ?_ (by simp [kds_len]) ?_ fun led => ?_
  · refine List.findIdx?_eq_none_iff.mpr fun x hx => ?_
    obtain ⟨t, _, rfl⟩ := List.mem_map.mp hx
    rfl
  · rw [List.map_map]; try rfl
  refine kds_all ps _ _ _ (PySem.wpAny_Constant_str (PySem.wpAny_Constant_str ?_))
  generalize hH : s.heap.push { cls := .type "set", dict := none, data := .set #[] 0 (.fresh 0 0 led) } = H
  have hs0 : H.SetOf (PySem.strKind prog w) s.heap.objs.size (fun _ => false) 0 := by
    subst hH
    exact ⟨_, #[], 0, _, Heap.get?_push_size _ rfl, ⟨rfl, rfl, rfl⟩, rfl, fun e he => by simp at he, fun k => by simp, by decide, by rfl, rfl⟩
  have kp0 : ∀ c o, s.heap.get? c = some o → H.get? c = some o := fun c o e => by subst hH; exact Heap.get?_push_of_some _ e
  have ne : ∀ c o, s.heap.get? c = some o → c ≠ s.heap.objs.size := fun c o e => Nat.ne_of_lt (Heap.lt_size e)
  refine kds_fill_cons (setAdd_str hs0 (by decide) fun h₁ sb₁ hs₁ => kds_fill_cons (setAdd_str hs₁ (by decide) fun h₂ sb₂ hs₂ => kds_fill_nil (by rfl) (kdi_mark ?_)))
  have hn2 : (if (false || decide (b = a)) = true then (if false = true then 0 else 0 + 1) else (if false = true then 0 else 0 + 1) + 1) < scanBound := by
    split <;> decide
  refine setUnled_str hs₂ hn2 fun h₃ sb₃ hs₃ => ?_
  refine wpAny_notInSet_of (strKind_is prog w m tm) rfl hs₃ ?_
  have hv : (!(((fun _ : Str => false) m || decide (m = a)) || decide (m = b))) = false := by
    show (!((false || decide (m = a)) || decide (m = b))) = false
    rw [Bool.false_or, hin]; rfl
  refine wpAny_truthy_bool ?_
  rw [hv]
  exact k _ (X.keeps (fun c o e => (sb₃.2 c (ne c o e)).trans ((sb₂.2 c (ne c o e)).trans ((sb₁.2 c (ne c o e)).trans (kp0 c o e)))) rfl rfl)
end
end Mine
end
section
set_option maxRecDepth 100000
namespace Mine
open PySem PySem.Float64 PySem.W PySem.Calls PyProof.Rows
section
variable {prog : Program} {w : World} {A : Around} {E : Value → Shared → Prop} {s : Shared} {env : Env} {P : List Addr} {T : Heap → Prop} {h0 : Heap} {g0 : Array GenState} {o0 : OsState} {ρ : List (Str × AV)} {ls : List (Addr × HV)} {mg mb : Str → Option Value} {cs : List (Addr × Addr)} {K : Frag}

/-- x == ".." -/
theorem tst_eqstr [TabKeep T] {x b m : Str} {px pb pos : Pos} {kb : Nat} {tm : Tok} {Q : Bool → Shared → Prop} {whole : Sem Value} (X : At P T h0 g0 o0 env ρ ls s) (hx : ρ.lookup x = some (.val (.str m tm))) (hd : (x == ("__debug__" : Str)) = false)
    (k : ∀ s', At P T h0 g0 o0 env ρ ls s' → Q (m == b) s') : wpAny (model prog w) A (isTrue (.Compare (.Name x px) [.Eq] [.Constant (.str b) kb pb] pos) env whole) Q E s := by
  refine wpAny_isTrue_Compare1 (Pur.nm hx hd _ _ _ X fun v tk hv _ => PySem.wpAny_Constant_str ?_)
  apply hv.e0 rfl
  exact eq_str (wpAny_truthy_bool (k _ X.toks))

theorem corr_mid {xs ys : List Int} {f f' : Bool} {a b : Addr} {m m' : Int} {tm : Tok} {Q : Flow → Shared → Prop} (S : Static K cs mg mb) (W : Wd K cs mg mb h0) (hA : A.handled = none) (hsc : env.scope = dCorr.scope) (hfn : env.func ≠ none) (hcells : ∃ cx cy, env.cells.lookup ("xbar" : Str) = some cx ∧ env.cells.lookup ("ybar" : Str) = some cy)
    (G : Gl (tabs cs) env h0 mg mb) (hcode : kdsCode K env.code = true) (hi : interactive env = false)
    (hx : Sm xs) (hy : Sm ys) (hlen : ys.length = xs.length) (h2 : 2 ≤ xs.length) (hmx : xs.sum = m * xs.length) (hmy : ys.sum = m' * xs.length) (hm1 : m.natAbs ≤ 2 ^ 20) (hm2 : m'.natAbs ≤ 2 ^ 20)
    (X : At (tabs cs) (TT cs) h0 g0 o0 env [("x", .ref a), ("y", .ref b), ("method", .val (.str "linear" tm))] [(a, .list (nums f xs)), (b, .list (nums f' ys))] s)
    (k : ∀ s' ρ ls, At (tabs cs) (TT cs) h0 g0 o0 env ρ ls s' → (∀ a fp h, (a, HV.pin fp h) ∉ ls) → ρ.lookup ("sxy" : Str) = some (.fl (dotN (xs.map (· - m)) (ys.map (· - m')) xs.length)) → ρ.lookup ("sxx" : Str) = some (.fl (dotN (xs.map (· - m)) (xs.map (· - m)) xs.length)) →
      ρ.lookup ("syy" : Str) = some (.fl (dotN (ys.map (· - m')) (ys.map (· - m')) xs.length)) → wpAny (model prog w) A (execs (dCorr.body.drop 9) env) Q E s') : wpAny (model prog w) A (execs dCorr.body env) Q E s := by
  have hk : ∀ x, env.kindOf x = dCorr.scope.names.lookup x := fun x => by unfold Env.kindOf; rw [hsc]
  obtain ⟨cx, cy, hcx, hcy⟩ := hcells
  have hl := hx.len
  have gl := S.gf
  have ma : (a, HV.list (nums f xs)) ∈ [(a, HV.list (nums f xs)), (b, HV.list (nums f' ys))] := List.mem_cons_self
  have mb' : (b, HV.list (nums f' ys)) ∈ [(a, HV.list (nums f xs)), (b, HV.list (nums f' ys))] := List.mem_cons_of_mem _ List.mem_cons_self
  have np : ∀ c fp h, (c, HV.pin fp h) ∉ [(a, HV.list (nums f xs)), (b, HV.list (nums f' ys))] := fun c fp h hm => by
    rcases List.mem_cons.mp hm with q | q
    · cases q
    · cases List.mem_singleton.mp q
  refine s_doc X hi fun s₁ X₁ => ?_
  refine s_assign X₁ (.len G ((hk _).trans rfl) gl.len.1 gl.len.2 (.nm rfl) ma (by unfold nums; rw [List.length_map]) (by omega)) (.inl ((hk _).trans rfl)) fun s₂ X₂ => ?_
  refine s_skip X₂ (.cmp (.len G ((hk _).trans rfl) gl.len.1 gl.len.2 (.nm rfl) mb' (by unfold nums; rw [List.length_map, hlen]) (by omega)) (.nm rfl) op_ne) (by simp) fun s₃ X₃ => ?_
  refine s_skip X₃ (.cmp (.nm rfl) .int op_lt) (by simp; omega) fun s₄ X₄ => ?_
  have hN : ((xs.length : Int)).natAbs ≤ 2 ^ 53 := by omega
  refine wpAny_execs_cons (wpAny_If (tst_notin X₄ (W.at S X₄).k hcode rfl (by decide) (by decide) fun s₅ X₅ => s_nil ?_))
  refine wpAny_execs_cons (wpAny_If (tst_eqstr X₅ rfl (by decide) fun s₆ X₆ => ?_))
  rw [if_neg (show ¬ (((("linear" : Str)) == ("ranked" : Str)) = true) by decide)]
  refine s_assignE (P := tabs cs) (T := TT cs) (h0 := h0) (g0 := g0) (o0 := o0) (.inr ⟨(hk _).trans rfl, cx, hcx, hfn⟩) (wpAny_BinOp (eval_fsum hA G ((hk _).trans rfl) gl.fsum X₆ rfl (by decide) ma hx.take hx.val53 fun v s₅ hv X₅ => Pur.nm rfl (by decide) _ _ _ X₅ fun u tk hu _ =>
    op_div_fi (q := m) hA hmx (by omega) hN (by omega) _ _ _ _ _ hv hu fun v' tk' hv' _ => ⟨_, _, _, hv', X₅.toks, fun s₆ X₆ => ?_⟩))
  refine s_assignE (P := tabs cs) (T := TT cs) (h0 := h0) (g0 := g0) (o0 := o0) (.inr ⟨(hk _).trans rfl, cy, hcy, hfn⟩) (wpAny_BinOp (eval_fsum hA G ((hk _).trans rfl) gl.fsum X₆ rfl (by decide) mb' hy.take hy.val53 fun v s₅ hv X₅ => Pur.nm rfl (by decide) _ _ _ X₅ fun u tk hu _ =>
    op_div_fi (q := m') hA hmy (by omega) hN (by omega) _ _ _ _ _ hv hu fun v' tk' hv' _ => ⟨_, _, _, hv', X₅.toks, fun s₇ X₇ => ?_⟩))
  refine s_center hA X₇ np rfl (by decide) ma hx.val53 (hx.sub53 hm1) (Nat.le_trans hl (by decide)) rfl ((hk _).trans rfl) (fun cc h => closure_one h rfl) (swaps_true (by rw [hsc]; rfl) ((hk _).trans rfl) rfl (by decide)) ((hk _).trans rfl) (by decide) rfl rfl rfl (by decide) (by decide) (by decide) fun D s₈ hD X₈ => ?_
  have np₈ : ∀ c fp h, (c, HV.pin fp h) ∉ [(D, HV.list (nums true (xs.map (· - m)))), (a, HV.list (nums f xs)), (b, HV.list (nums f' ys))] := fun c fp h hm => by
    rcases List.mem_cons.mp hm with q | q
    · cases q
    · exact np c fp h q
  have hly := hy.len
  refine s_center hA X₈ np₈ rfl (by decide) (List.mem_cons_of_mem _ mb') hy.val53 (hy.sub53 hm2) (Nat.le_trans hly (by decide)) rfl ((hk _).trans rfl) (fun cc h => closure_one h rfl) (swaps_true (by rw [hsc]; rfl) ((hk _).trans rfl) rfl (by decide)) ((hk _).trans rfl) (by decide) rfl rfl rfl (by decide) (by decide) (by decide) fun D' s₉ hD' X₉ => s_nil ?_
  have np₉ : ∀ c fp h, (c, HV.pin fp h) ∉ [(D', HV.list (nums true (ys.map (· - m')))), (D, HV.list (nums true (xs.map (· - m)))), (a, HV.list (nums f xs)), (b, HV.list (nums f' ys))] := fun c fp h hm => by
    rcases List.mem_cons.mp hm with q | q
    · cases q
    · exact np₈ c fp h q
  have hba : ∀ n ∈ xs.map (· - m), n.natAbs ≤ 2 ^ 53 := fun n hn => by
    obtain ⟨c, h1, rfl⟩ := List.mem_map.mp hn
    exact hx.sub53 hm1 c h1
  have hbb : ∀ n ∈ ys.map (· - m'), n.natAbs ≤ 2 ^ 53 := fun n hn => by
    obtain ⟨c, h1, rfl⟩ := List.mem_map.mp hn
    exact hy.sub53 hm2 c h1
  have hlc : (xs.map (· - m)).length = xs.length := List.length_map ..
  have hlc' : (ys.map (· - m')).length = xs.length := by rw [List.length_map, hlen]
  have my : (D', HV.list (nums true (ys.map (· - m')))) ∈ [(D', HV.list (nums true (ys.map (· - m')))), (D, HV.list (nums true (xs.map (· - m)))), (a, HV.list (nums f xs)), (b, HV.list (nums f' ys))] := List.mem_cons_self
  have mx : (D, HV.list (nums true (xs.map (· - m)))) ∈ [(D', HV.list (nums true (ys.map (· - m')))), (D, HV.list (nums true (xs.map (· - m)))), (a, HV.list (nums f xs)), (b, HV.list (nums f' ys))] := List.mem_cons_of_mem _ List.mem_cons_self
  refine s_assignE (P := tabs cs) (T := TT cs) (h0 := h0) (g0 := g0) (o0 := o0) (.inl ((hk _).trans rfl)) (eval_sumprod_lists (f := true) hA G ((hk _).trans rfl) gl.sumprod X₉ rfl (by decide) mx rfl (by decide) my hba hbb (by rw [hlc, hlc']) (hx.dot hy hm1 hm2) (by rw [hlc]; omega) fun v s₁₀ hv X₁₀ _ => ⟨_, _, _, hv, X₁₀, fun s₁₁ X₁₁ => ?_⟩)
  refine s_assignE (P := tabs cs) (T := TT cs) (h0 := h0) (g0 := g0) (o0 := o0) (.inl ((hk _).trans rfl)) (eval_sumprod_lists (f := true) hA G ((hk _).trans rfl) gl.sumprod X₁₁ rfl (by decide) mx rfl (by decide) mx hba hba rfl (hx.dot hx hm1 hm1) (by rw [hlc]; omega) fun v s₁₂ hv X₁₂ _ => ⟨_, _, _, hv, X₁₂, fun s₁₃ X₁₃ => ?_⟩)
  refine s_assignE (P := tabs cs) (T := TT cs) (h0 := h0) (g0 := g0) (o0 := o0) (.inl ((hk _).trans rfl)) (eval_sumprod_lists (f := true) hA G ((hk _).trans rfl) gl.sumprod X₁₃ rfl (by decide) my rfl (by decide) my hbb hbb rfl (hy.dot hy hm2 hm2) (by rw [hlc']; omega) fun v s₁₄ hv X₁₄ _ => ⟨_, _, _, hv, X₁₄, fun s₁₅ X₁₅ => ?_⟩)
  rw [hlc, hlc'] at X₁₅
  exact k s₁₅ _ _ X₁₅ np₉ rfl rfl rfl
end
end Mine
end
section
set_option maxRecDepth 100000
namespace Mine
open PySem PySem.Float64 PySem.W PySem.Calls PyProof.Rows
theorem Fn.kds {K : Frag} {d : DefRec} {q : Str} {f c : Addr} {dV kV : Value} (x : Fn K d q f dV kV c) : kdsCode K (.ref c) = true := by
  obtain ⟨oc, vs, t, a, b, _⟩ := x.code
  obtain ⟨c1, d1, dt, sl⟩ := oc
  dsimp only at b
  subst b
  unfold kdsCode
  dsimp only
  rw [a]
theorem looks_ns {M : Model} {h : Heap} {d : Addr} {name : Str} {m : Str → Option Value} {v : Value} (hn : h.Ns d m) (hv : m name = some v) : Looks M h (nsGet d name) (some v) := fun A Q E s k q => by
  refine wpAny_nsGet (hn.keeps k) ?_
  rw [hv]; exact q
theorem bind_corr {s : Shared} {pm cd doc va vb vm : Value} {m : Str → Option Value} (hn : s.heap.Ns 336 m) (hv : m "method" = some vm) :
    BindsTo s { docDef dCorr.name dCorr.params dCorr.body dCorr.scope pm cd doc with kwdefaults := .ref 336 } ⟨[va, vb], []⟩ [("x", va), ("y", vb), ("method", vm)] := fun M A E Q hq => by
  obtain ⟨hh, g, d, t, os⟩ := s
  have L : Looks M hh (nsGet 336 "method") (some vm) := looks_ns hn hv
  unfold bindArgs
  dsimp only
  repeat lk
  exact hq
section
variable {prog : Program} {w : World} {A : Around} {E : Value → Shared → Prop} {s : Shared} {env : Env} {h0 : Heap} {g0 : Array GenState} {o0 : OsState} {ρ : List (Str × AV)} {ls : List (Addr × HV)} {mg mb : Str → Option Value} {cs : List (Addr × Addr)} {K : Frag}

/-- the call of _sqrtprod in correlation's last row -/
theorem eval_sq {b c : Int} {p p1 p2 pos : Pos} {Q : Value → Shared → Prop} (S : Static K cs mg mb) (W : Wd K cs mg mb h0) (G : Gl (tabs cs) env h0 mg mb) (hk : env.kindOf "_sqrtprod" = some .globalImplicit)
    (X : At (tabs cs) (TT cs) h0 g0 o0 env ρ ls s) (h1 : ρ.lookup ("sxx" : Str) = some (.fl b)) (h2 : ρ.lookup ("syy" : Str) = some (.fl c))
    (h : ∀ x y t u tk, IsF x b → IsF y c → wpAny (model prog w) A (call (.ref 328) [.float x t, .float y u]) Q E { s with toks := tk }) :
    wpAny (model prog w) A (eval (.Call (.Name "_sqrtprod" p) [.Name "sxx" p1, .Name "syy" p2] [] pos) env) Q E s := by
  refine (S.sq.2.at (W.at S X).k).elim fun o pm cd doc ho hd _ => ?_
  refine eval_call G hk S.sq.1 (by decide) X ho hd (.cons (.nm h1) (.cons (.nm h2) .nil)) fun vs tk hvs => ?_
  apply hvs.consE; intro _ _ h3 h4
  apply h4.consE; intro _ _ h4 h5
  apply h5.nilE
  cases h3 with | fl _ x t hx => cases h4 with | fl _ y u hy => exact h x y t u tk hx hy

/-- the quotient stands -/
theorem corr_end {a b c : Int} {res : AV} {Q : Flow → Shared → Prop} (S : Static K cs mg mb) (W : Wd K cs mg mb h0) (hA : A.handled = none) (hroom : A.depth < recursionLimit) (hsc : env.scope = dCorr.scope) (G : Gl (tabs cs) env h0 mg mb)
    (hres : ∀ x y z, IsF x b → IsF y c → IsF z a → SqOk x y ∧ isZero (sqp x y) = false ∧ ∀ t, Rep res (.float (Float64.div z (sqp x y)) t))
    (X : At (tabs cs) (TT cs) h0 g0 o0 env ρ ls s) (hnp : ∀ a fp h, (a, HV.pin fp h) ∉ ls) (h1 : ρ.lookup ("sxy" : Str) = some (.fl a)) (h2 : ρ.lookup ("sxx" : Str) = some (.fl b)) (h3 : ρ.lookup ("syy" : Str) = some (.fl c))
    (k : ∀ v s', Rep res v → At (tabs cs) (TT cs) h0 g0 o0 env ρ ls s' → Q (.ret v) s') :
    wpAny (model prog w) A (execs (dCorr.body.drop 9) env) Q E s := by
  have hk : ∀ x, env.kindOf x = dCorr.scope.names.lookup x := fun x => by unfold Env.kindOf; rw [hsc]
  refine s_try (wpAny_execs_cons (wpAny_Return_some (wpAny_BinOp (Pur.nm h1 (by decide) _ _ _ X fun vz tk hvz _ => ?_))))
  cases hvz with | fl _ z tz hz =>
  have X₁ := X.toks (tk := tk)
  refine eval_sq S W G ((hk _).trans rfl) X₁ h2 h3 fun x y t u tk' hx hy => ?_
  obtain ⟨ok, nz, hr⟩ := hres x y z hx hy hz
  have X₂ := X₁.toks (tk := tk')
  have W₂ := W.at S X₂
  refine call_sq (s := { s with toks := tk' }) hA W₂.w (S.sq.2.at W₂.k) S.gs hroom (.cons (.bits _ _) (.cons (.bits _ _) .nil)) ok fun v s₃ hv af => ?_
  cases hv with | bits _ tv =>
  refine truediv_float_or hA (fun h => by rw [nz] at h; cases h) fun _ => ?_
  exact k _ _ (hr _) (X₂.call af fun a fp h hm => absurd hm (hnp a fp h)).toks
/-- the root is zero -/
theorem corr_end0 {a b c : Int} {outer : List Env} {E0 E1 : Value → Shared → Prop} {Q : Flow → Shared → Prop} (S : Static K cs mg mb) (W : Wd K cs mg mb h0) (hA : A.handled = none) (hroom : A.depth < recursionLimit) (hsc : env.scope = dCorr.scope) (G : Gl (tabs cs) env h0 mg mb) (hfr : A.frames = some (env :: outer)) (hf : env.frame = some env.locals) (ch : Chain (tabs cs) s.heap outer)
    (hbc : b * c = 0)
    (X : At (tabs cs) (TT cs) h0 g0 o0 env ρ ls s) (hnp : ∀ a fp h, (a, HV.pin fp h) ∉ ls) (h1 : ρ.lookup ("sxy" : Str) = some (.fl a)) (h2 : ρ.lookup ("sxx" : Str) = some (.fl b)) (h3 : ρ.lookup ("syy" : Str) = some (.fl c))
    (k : ∀ s' e, Fly (tabs cs) (TT cs) s s' outer e (.ref 102) → E0 (.ref e) s') :
    wpAny (model prog w) A (execs (dCorr.body.drop 9) env) Q (fun e s' => wpAny (model prog w) A (leaving env e) (fun _ s'' => E0 e s'') (fun e' s'' => E1 e' s'') s') s := by
  have hk : ∀ x, env.kindOf x = dCorr.scope.names.lookup x := fun x => by unfold Env.kindOf; rw [hsc]
  refine s_try (wpAny_execs_cons (wpAny_Return_some (wpAny_BinOp (Pur.nm h1 (by decide) _ _ _ X fun vz tk hvz _ => ?_))))
  cases hvz with | fl _ z tz hz =>
  have X₁ := X.toks (tk := tk)
  refine eval_sq S W G ((hk _).trans rfl) X₁ h2 h3 fun x y t u tk' hx hy => ?_
  obtain ⟨e1, e2, e3, e4⟩ := sq_zero hx hy hbc
  have X₂ := X₁.toks (tk := tk')
  have W₂ := W.at S X₂
  refine call_sq0 (s := { s with toks := tk' }) hA W₂.w (S.sq.2.at W₂.k) S.gs hroom (.cons (.bits _ _) (.cons (.bits _ _) .nil)) e1 e2 e3 e4 fun v s₃ hv af => ?_
  cases hv with | bits _ tv =>
  have hnp' : ∀ a fp h, (a, HV.pin fp h) ∈ ls → ∀ b ∈ fp, b ∉ tabs cs := fun a fp h hm => absurd hm (hnp a fp h)
  have X₃ := X₂.call af hnp'
  have af' : After (tabs cs) (TT cs) s s₃ := ⟨af.grow, af.tb, af.gens, af.os⟩
  refine truediv_float_or hA (fun _ h' tk₄ e hx => ?_) fun h => absurd e3 h
  exact catch_raise G hfr hf X₃ (ch.grow af'.grow (tabs_low X.tb)) hnp (S.errK.at (W.at S X₃).k) S.errP.1 S.errP.2 ((hk _).trans rfl) S.zde.1 S.zde.2 ((hk _).trans rfl) S.err hx fun h' tk' e' fl => k _ _ (Fly.after af' fl)

theorem enter_corr {xs ys : List Int} {f f' : Bool} {a b : Addr} {vs : List Value} {Q : Value → Shared → Prop} (S : Static K cs mg mb) (W : Wd K cs mg mb s.heap) (hroom : A.depth < recursionLimit) (hla : IsAV s.heap a (nums f xs)) (hlb : IsAV s.heap b (nums f' ys)) (hvs : Reps [.ref a, .ref b] vs)
    (k : ∀ env s' tm, env.scope = dCorr.scope → env.func ≠ none → (∃ cx cy, env.cells.lookup ("xbar" : Str) = some cx ∧ env.cells.lookup ("ybar" : Str) = some cy) → env.code = .ref 340 → interactive env = false → env.frame = some env.locals → Gl (tabs cs) env s.heap mg mb →
      At (tabs cs) (TT cs) s.heap s.gens s.os env [("x", .ref a), ("y", .ref b), ("method", .val (.str "linear" tm))] [(a, .list (nums f xs)), (b, .list (nums f' ys))] s' →
      wpAny (model prog w) (A.deeper env) (execs dCorr.body env) (fun f s' => Q (match f with | .ret v => v | _ => .none) s') (fun e s' => wpAny (model prog w) (A.deeper env) (leaving env e) (fun _ s'' => E e s'') (fun e' s'' => E e' s'') s') s') :
    wpAny (model prog w) A (call (.ref 341) vs) Q E s := by
  refine (S.corr.2.cd W.k).elim fun o pm doc ho hd hcd => ?_
  obtain ⟨oD, es, ep, tm, hD, hDd, hDk, hDv⟩ := S.corrD
  apply hvs.consE; intro _ _ h1 h2'
  apply h2'.consE; intro _ _ h2' h3
  apply h3.nilE; apply h1.e0 rfl; apply h2'.e0 rfl
  refine enterC W.w hroom ho hd hcd rfl (binds := [("x", .ref a), ("y", .ref b), ("method", .str "linear" tm)]) (ρ := [("x", .ref a), ("y", .ref b), ("method", .val (.str "linear" tm))]) (ls := [(a, .list (nums f xs)), (b, .list (nums f' ys))])
    (bind_corr (m := nsFind es) ⟨oD, es, ep, W.k _ _ hD, hDd, hDk, fun _ => rfl⟩ hDv)
    (loc_of (by show ∀ n ∈ [("x" : Str), "y", "method"], dCorr.scope.names.lookup n = some .local; decide)) rfl rfl rfl (fun x av hx' => ?_) (fun b' l hm' => ?_) (fun s' G X => ?_) rfl rfl rfl
  · rw [List.lookup_cons] at hx'
    by_cases e : x = "x"
    · subst e; cases hx'
      exact ⟨_, rfl, rfl, .ref a⟩
    · rw [beq_eq_false_iff_ne.mpr e] at hx'
      rcases lookup_two hx' with ⟨rfl, rfl⟩ | ⟨rfl, rfl⟩
      · exact ⟨_, rfl, rfl, .ref b⟩
      · exact ⟨_, rfl, rfl, .val _⟩
  · rcases List.mem_cons.mp hm' with q | q
    · cases q; exact hla
    · cases List.mem_singleton.mp q; exact hlb
  · exact k _ s' tm rfl (by intro q; cases q) ⟨_, _, rfl, rfl⟩ rfl rfl rfl G X

theorem call_corr {xs ys : List Int} {f f' : Bool} {a b : Addr} {vs : List Value} {m m' : Int} {res : AV} {Q : Value → Shared → Prop} (S : Static K cs mg mb) (W : Wd K cs mg mb s.heap) (hA : A.handled = none) (hroom : A.depth + 4 < recursionLimit) (hla : IsAV s.heap a (nums f xs)) (hlb : IsAV s.heap b (nums f' ys)) (hvs : Reps [.ref a, .ref b] vs)
    (hx : Sm xs) (hy : Sm ys) (hlen : ys.length = xs.length) (h2 : 2 ≤ xs.length) (hmx : xs.sum = m * xs.length) (hmy : ys.sum = m' * xs.length) (hm1 : m.natAbs ≤ 2 ^ 20) (hm2 : m'.natAbs ≤ 2 ^ 20)
    (hres : ∀ x y z, IsF x (dotN (xs.map (· - m)) (xs.map (· - m)) xs.length) → IsF y (dotN (ys.map (· - m')) (ys.map (· - m')) xs.length) → IsF z (dotN (xs.map (· - m)) (ys.map (· - m')) xs.length) → SqOk x y ∧ isZero (sqp x y) = false ∧ ∀ t, Rep res (.float (Float64.div z (sqp x y)) t))
    (k : ∀ v s', Rep res v → After (tabs cs) (TT cs) s s' → Q v s') :
    wpAny (model prog w) A (call (.ref 341) vs) Q E s := by
  refine enter_corr S W (by omega) hla hlb hvs fun env s' tm h1 h3 h4 h5 h6 h7 G X => corr_mid S W hA h1 h3 h4 G (by rw [h5]; exact S.corr.2.kds) h6 hx hy hlen h2 hmx hmy hm1 hm2 X fun s₂ ρ ls X₂ np e1 e2 e3 => ?_
  exact corr_end S W hA (by show A.depth + 1 < _; omega) h1 G hres X₂ np e1 e2 e3 fun v s₃ r X₃ => k v s₃ r X₃.out
theorem call_corr0 {xs ys : List Int} {f f' : Bool} {a b : Addr} {vs : List Value} {m m' : Int} {outer : List Env} {Q : Value → Shared → Prop} (S : Static K cs mg mb) (W : Wd K cs mg mb s.heap) (hA : A.handled = none) (hroom : A.depth + 4 < recursionLimit) (hfr : A.frames = some outer) (hc : Chain (tabs cs) s.heap outer) (hla : IsAV s.heap a (nums f xs)) (hlb : IsAV s.heap b (nums f' ys)) (hvs : Reps [.ref a, .ref b] vs)
    (hx : Sm xs) (hy : Sm ys) (hlen : ys.length = xs.length) (h2 : 2 ≤ xs.length) (hmx : xs.sum = m * xs.length) (hmy : ys.sum = m' * xs.length) (hm1 : m.natAbs ≤ 2 ^ 20) (hm2 : m'.natAbs ≤ 2 ^ 20)
    (hb : dotN (xs.map (· - m)) (xs.map (· - m)) xs.length * dotN (ys.map (· - m')) (ys.map (· - m')) xs.length = 0)
    (k : ∀ s' e, Fly (tabs cs) (TT cs) s s' outer e (.ref 102) → E (.ref e) s') :
    wpAny (model prog w) A (call (.ref 341) vs) Q E s := by
  refine enter_corr S W (by omega) hla hlb hvs fun env s' tm h1 h3 h4 h5 h6 h7 G X => corr_mid S W hA h1 h3 h4 G (by rw [h5]; exact S.corr.2.kds) h6 hx hy hlen h2 hmx hmy hm1 hm2 X fun s₂ ρ ls X₂ np e1 e2 e3 => ?_
  exact corr_end0 S W hA (by show A.depth + 1 < _; omega) h1 G (frames_of hfr) h7 (hc.grow X₂.grow (tabs_low X₂.tb)) hb X₂ np e1 e2 e3 fun s₃ e fl => k s₃ e (Fly.after X₂.out fl)
end
end Mine
end
section
set_option maxRecDepth 100000
namespace Mine
open PySem PySem.Float64 PySem.W PySem.Calls PyProof.Rows
/-- a value that is a float -/
noncomputable def FlV (av : AV) : Prop := ∀ v, Rep av v → ∃ b t, v = .float b t
theorem flv_fl {n : Int} : FlV (.fl n) := fun v h => by cases h with | fl _ b t _ => exact ⟨b, t, rfl⟩
theorem flv_q {a b : Int} : FlV (.q a b) := fun v h => by cases h with | q _ _ x y t _ _ _ => exact ⟨_, t, rfl⟩
theorem flv_bits {b : UInt64} : FlV (.bits b) := fun v h => by cases h with | bits _ t => exact ⟨_, t, rfl⟩
section
variable {prog : Program} {w : World} {A : Around} {E : Value → Shared → Prop} {s : Shared} {env : Env} {h0 : Heap} {g0 : Array GenState} {o0 : OsState} {ρ : List (Str × AV)} {ls : List (Addr × HV)} {mg mb : Str → Option Value} {cs : List (Addr × Addr)} {K : Frag}

theorem read_line {x : Addr} {name y : Str} {B D : Addr} {i : Int} {v1 v2 v : Value} {p pos : Pos} {Q : Value → Shared → Prop} (S : Static K cs mg mb) (W : Wd K cs mg mb h0) (hroom : A.depth < recursionLimit) (fd : Field K 409 B D 71 name i)
    (hi : i = 0 ∧ v = v1 ∨ i = 1 ∧ v = v2) (X : At (tabs cs) (TT cs) h0 g0 o0 env ρ ls s) (hnp : ∀ a fp h, (a, HV.pin fp h) ∉ ls) (hy : ρ.lookup y = some (.ref x)) (hyd : (y == ("__debug__" : Str)) = false) (hl : LineAt s.heap 409 x #[v1, v2]) (hv : handedIn v = true)
    (k : ∀ s', At (tabs cs) (TT cs) h0 g0 o0 env ρ ls s' → LineAt s'.heap 409 x #[v1, v2] → Q v s') : wpAny (model prog w) A (eval (.Attribute (.Name y p) name pos) env) Q E s :=
  read_field (Td := 64) (q := "_tuplegetter.__get__") W.w hroom S.gg fd S.kok W.k (fun _ Xh => S.get.fq Xh) S.getD hi X hnp hy hyd hl hv k

/-- type(line.name) is not float -/
theorem tst_type_field {x : Addr} {name y : Str} {B D : Addr} {i : Int} {v1 v2 : Value} {fb : UInt64} {ft : Tok} {p p1 p2 p3 pos apos : Pos} {whole : Sem Value} {Q : Bool → Shared → Prop} (S : Static K cs mg mb) (W : Wd K cs mg mb h0) (hroom : A.depth < recursionLimit) (G : Gl (tabs cs) env h0 mg mb) (fd : Field K 409 B D 71 name i) (hkt : env.kindOf "type" = some .globalImplicit) (hkf : env.kindOf "float" = some .globalImplicit)
    (hi : i = 0 ∧ .float fb ft = v1 ∨ i = 1 ∧ .float fb ft = v2) (X : At (tabs cs) (TT cs) h0 g0 o0 env ρ ls s) (hnp : ∀ a fp h, (a, HV.pin fp h) ∉ ls) (hy : ρ.lookup y = some (.ref x)) (hyd : (y == ("__debug__" : Str)) = false) (hl : LineAt s.heap 409 x #[v1, v2])
    (k : ∀ s', At (tabs cs) (TT cs) h0 g0 o0 env ρ ls s' → LineAt s'.heap 409 x #[v1, v2] → Q false s') :
    wpAny (model prog w) A (isTrue (.Compare (.Call (.Name "type" p) [.Attribute (.Name y p1) name apos] [] p2) [.IsNot] [.Name "float" p3] pos) env whole) Q E s := by
  refine wpAny_isTrue_Compare1 (wpAny_Call_NameR (Pur.blt G hkt S.gg.type.1 S.gg.type.2 rfl s _ _ X fun f tk hf _ => ?_))
  apply hf.e0 rfl
  refine PyProof.Rows.callWith_type1 (spliced_more (read_line S W hroom fd hi X.toks hnp hy hyd hl rfl fun s₁ X₁ hl₁ => spliced_nil ?_) rfl) rfl rfl
  refine call_type_of (Tx := "float") rfl rfl ?_
  refine Pur.blt G hkf S.float.1 S.float.2 rfl s₁ _ _ X₁ fun f tk' hf _ => ?_
  apply hf.e0 rfl
  exact isnot_type_same (wpAny_truthy_bool (k _ X₁.toks hl₁))

theorem line_body {a b : Addr} {p : Bool} {l1 l2 : List AV} {av1 av2 : AV} {Q : Flow → Shared → Prop} (S : Static K cs mg mb) (W : Wd K cs mg mb h0) (hroom : A.depth < recursionLimit) (hsc : env.scope = dLine.scope) (G : Gl (tabs cs) env h0 mg mb) (f1 : FlV av1) (f2 : FlV av2)
    (X : At (tabs cs) (TT cs) h0 g0 o0 env [("over", .ref a), ("column", .ref b), ("origin", .bool p)] [(a, .list l1), (b, .list l2)] s)
    (hlr : ∀ (s' : Shared) (Q' : Value → Shared → Prop), Wd K cs mg mb s'.heap → IsAV s'.heap a l1 → IsAV s'.heap b l2 → (∀ x v1 v2 s'', Rep av1 v1 → Rep av2 v2 → After (tabs cs) (TT cs) s' s'' → LineAt s''.heap 409 x #[v1, v2] → Q' (.ref x) s'') → ∀ E', wpAny (model prog w) A (call (.ref 418) [.ref a, .ref b] [("proportional", .bool p)]) Q' E' s')
    (k : ∀ D s', At (tabs cs) (TT cs) h0 g0 o0 env [] [(D, .list [av1, av2])] s' → Q (.ret (.ref D)) s') : wpAny (model prog w) A (execs dLine.body env) Q E s := by
  have hk : ∀ x, env.kindOf x = dLine.scope.names.lookup x := fun x => by unfold Env.kindOf; rw [hsc]
  have np : ∀ c fp h, (c, HV.pin fp h) ∉ [(a, HV.list l1), (b, HV.list l2)] := fun c fp h hm => by
    rcases List.mem_cons.mp hm with q | q
    · cases q
    · cases List.mem_singleton.mp q
  have hnp' : ∀ c fp h, (c, HV.pin fp h) ∈ [(a, HV.list l1), (b, HV.list l2)] → ∀ d ∈ fp, d ∉ tabs cs := fun c fp h hm => absurd hm (np c fp h)
  have kf : keepIn K (.ref 418) = true := by
    obtain ⟨pm, doc, h⟩ := S.lr.2.1.fn
    unfold keepIn
    dsimp only
    rw [h]
  refine s_try (wpAny_execs_cons (wpAny_Assign_Name (wpAny_Call_ofName (Pur.glob G ((hk _).trans rfl) S.lr.1 rfl s _ _ X fun f tk hf _ => ?_)) rfl))
  apply hf.e0 rfl
  refine callWith_of (P := K.In) rfl (keeps_K kf) (evalArgs_kw2 rfl (PurL.cons (.nm rfl) (.cons (.nm rfl) .nil rfl) rfl _ _ _ _ X.toks fun vs tk' hvs _ => kwAll_cons (Pur.nm (av := .bool p) rfl (by decide) _ _ _ X.toks fun v tk'' hv _ => kwAll_nil ?_)) rfl)
  apply hvs.consE; intro _ _ h1 h2
  apply h2.consE; intro _ _ h2 h3
  apply h3.nilE; apply h1.e0 rfl; apply h2.e0 rfl; apply hv.e0 rfl
  have X₁ := X.toks (tk := tk'')
  have W₁ := W.at S X₁
  refine ⟨W₁.k, hlr { s with toks := tk'' } _ W₁ (X₁.lists a _ List.mem_cons_self) (X₁.lists b _ (List.mem_cons_of_mem _ List.mem_cons_self)) (fun x v1 v2 s₂ r1 r2 af hl => ?_) _⟩
  obtain ⟨b1, t1, rfl⟩ := f1 v1 r1
  obtain ⟨b2, t2, rfl⟩ := f2 v2 r2
  have X₂ := X₁.call af hnp'
  refine X₂.store (.ref x) (.inl ((hk _).trans rfl)) fun s₃ X₃ st hsb => s_nil ?_
  have hl₃ : LineAt s₃.heap 409 x #[.float b1 t1, .float b2 t2] := by
    obtain ⟨ox, n, dx, od, e1, e2, e3, e4, e5, e6, e7⟩ := hl
    obtain ⟨c, hsame, hc, _⟩ := hsb
    have hloc : c = env.locals := by
      rcases hc with ⟨_, e⟩ | ⟨q, _⟩
      · exact e
      · rw [(hk _).trans (show dLine.scope.names.lookup ("line" : Str) = some .local from rfl)] at q; cases q
    subst hloc
    have h5 : ∃ od', s₃.heap.get? dx = some od' := by
      by_cases q : dx = env.locals
      · obtain ⟨m, o, es, ep, e, _⟩ := X₃.ok.ns
        exact ⟨o, by rw [q]; exact e⟩
      · exact ⟨od, (hsame.2 dx q).trans e5⟩
    obtain ⟨od', h5⟩ := h5
    exact ⟨ox, n, dx, od', st.2.1 x ox (by unfold Lasting; rw [e3]) e1, e2, e3, e4, h5, e6, e7⟩
  have lk : ((("line" : Str), AV.ref x) :: [(("over" : Str), AV.ref a), ("column", .ref b), ("origin", .bool p)]).lookup ("line" : Str) = some (.ref x) := rfl
  refine wpAny_execs_cons (wpAny_If (isTrue_or (tst_type_field S W hroom G S.slope ((hk _).trans rfl) ((hk _).trans rfl) (.inl ⟨rfl, rfl⟩) X₃ np lk (by decide) hl₃ fun s₄ X₄ hl₄ => ?_)))
  rw [if_neg Bool.false_ne_true]
  refine isTrue_or (tst_type_field S W hroom G S.icept ((hk _).trans rfl) ((hk _).trans rfl) (.inr ⟨rfl, rfl⟩) X₄ np lk (by decide) hl₄ fun s₅ X₅ hl₅ => ?_)
  rw [if_neg Bool.false_ne_true]
  refine isTrue_or_nil ?_
  rw [if_neg Bool.false_ne_true]
  refine s_nil ?_
  refine wpAny_execs_cons (wpAny_Return_some (wpAny_List (spliced_more (read_line S W hroom S.slope (.inl ⟨rfl, rfl⟩) X₅ np lk (by decide) hl₅ rfl fun s₆ X₆ hl₆ => ?_) rfl)))
  refine spliced_more (read_line S W hroom S.icept (.inr ⟨rfl, rfl⟩) X₆ np lk (by decide) hl₆ rfl fun s₇ X₇ hl₇ => spliced_nil ⟨(show 2 ≤ sizeLine by decide), ?_⟩) rfl
  have X₈ := ((X₇.weak (ρ' := []) (ls' := []) sub_nil fun p hp => by cases hp).push (tk := s₇.toks) (.cons r1 (.cons r2 .nil))).unacc
  exact k s₇.heap.objs.size _ X₈
end
end Mine
end
section
set_option maxRecDepth 100000
namespace Mine
open PySem PySem.Float64 PySem.W PySem.Calls PyProof.Rows
section
variable {prog : Program} {w : World} {A : Around} {E : Value → Shared → Prop} {s : Shared} {env : Env} {h0 : Heap} {g0 : Array GenState} {o0 : OsState} {ρ : List (Str × AV)} {ls : List (Addr × HV)} {mg mb : Str → Option Value} {cs : List (Addr × Addr)} {K : Frag}

/-- the call raises, and is caught -/
theorem line_body0 {a b : Addr} {p : Bool} {l1 l2 : List AV} {outer : List Env} {Q : Flow → Shared → Prop} (S : Static K cs mg mb) (W : Wd K cs mg mb h0) (hsc : env.scope = dLine.scope) (G : Gl (tabs cs) env h0 mg mb) (hfr : A.frames = some (env :: outer)) (hf : env.frame = some env.locals) (hc : Chain (tabs cs) s.heap outer)
    (X : At (tabs cs) (TT cs) h0 g0 o0 env [("over", .ref a), ("column", .ref b), ("origin", .bool p)] [(a, .list l1), (b, .list l2)] s)
    (hE : ∀ e, PassesOwnAt (model prog w) (A.mark (some (.ref e))) A env E)
    (hlr : ∀ (s' : Shared) (Q' : Value → Shared → Prop) (E' : Value → Shared → Prop), Wd K cs mg mb s'.heap → IsAV s'.heap a l1 → IsAV s'.heap b l2 → Chain (tabs cs) s'.heap (env :: outer) → (∀ s'' e, Fly (tabs cs) (TT cs) s' s'' (env :: outer) e (.ref 102) → E' (.ref e) s'') → wpAny (model prog w) A (call (.ref 418) [.ref a, .ref b] [("proportional", .bool p)]) Q' E' s')
    (k : ∀ s', At (tabs cs) (TT cs) h0 g0 o0 env [] [] s' → Q (.ret .none) s') : wpAny (model prog w) A (execs dLine.body env) Q E s := by
  have hk : ∀ x, env.kindOf x = dLine.scope.names.lookup x := fun x => by unfold Env.kindOf; rw [hsc]
  have np : ∀ c fp h, (c, HV.pin fp h) ∉ [(a, HV.list l1), (b, HV.list l2)] := fun c fp h hm => by
    rcases List.mem_cons.mp hm with q | q
    · cases q
    · cases List.mem_singleton.mp q
  have kf : keepIn K (.ref 418) = true := by
    obtain ⟨pm, doc, h⟩ := S.lr.2.1.fn
    unfold keepIn
    dsimp only
    rw [h]
  refine s_try (wpAny_execs_cons (wpAny_Assign_Name (wpAny_Call_ofName (Pur.glob G ((hk _).trans rfl) S.lr.1 rfl s _ _ X fun f tk hf _ => ?_)) rfl))
  replace hf := hf.inv; obtain rfl := hf
  refine callWith_of (P := K.In) rfl (keeps_K kf) (evalArgs_kw2 rfl (PurL.cons (.nm rfl) (.cons (.nm rfl) .nil rfl) rfl _ _ _ _ X.toks fun vs tk' hvs _ => kwAll_cons (Pur.nm (av := .bool p) rfl (by decide) _ _ _ X.toks fun v tk'' hv _ => kwAll_nil ?_)) rfl)
  replace hvs := hvs.consI; obtain ⟨_, _, h1, h2, rfl⟩ := hvs
  replace h2 := h2.consI; obtain ⟨_, _, h2, h3, rfl⟩ := h2
  replace h3 := h3.nilI; obtain rfl := h3; replace h1 := h1.inv; obtain rfl := h1; replace h2 := h2.inv; obtain rfl := h2; replace hv := hv.inv; obtain rfl := hv
  have X₁ := X.toks (tk := tk'')
  have W₁ := W.at S X₁
  obtain ⟨m, hn⟩ := X.ok.ns
  have ca : Chain (tabs cs) s.heap (env :: outer) := Chain.cons (by rw [X.ok.fn]; intro q; cases q) hf (Nat.lt_of_lt_of_le X.top_lt X.ok.lo) hn hc
  refine ⟨W₁.k, hlr { s with toks := tk'' } _ _ W₁ (X₁.lists a _ List.mem_cons_self) (X₁.lists b _ (List.mem_cons_of_mem _ List.mem_cons_self)) ca (fun s₂ e fl => ?_)⟩
  exact catch_none (s := { s with toks := tk'' }) G hfr hf X₁ np (S.errK.at W₁.k) S.errP.1 S.errP.2 ((hk _).trans rfl) S.err fl (hE e) fun s'' X'' => k s'' (X''.weak sub_nil fun p hp => by cases hp)

theorem enter_line {a b : Addr} {p : Bool} {l1 l2 : List AV} {vs : List Value} {Q : Value → Shared → Prop} (S : Static K cs mg mb) (W : Wd K cs mg mb s.heap) (hroom : A.depth < recursionLimit) (hla : IsAV s.heap a l1) (hlb : IsAV s.heap b l2) (hvs : Reps [.ref a, .ref b, .bool p] vs)
    (k : ∀ env s', env.scope = dLine.scope → env.frame = some env.locals → Gl (tabs cs) env s.heap mg mb →
      At (tabs cs) (TT cs) s.heap s.gens s.os env [("over", .ref a), ("column", .ref b), ("origin", .bool p)] [(a, .list l1), (b, .list l2)] s' →
      wpAny (model prog w) (A.deeper env) (execs dLine.body env) (fun f s' => Q (match f with | .ret v => v | _ => .none) s') (fun e s' => wpAny (model prog w) (A.deeper env) (leaving env e) (fun _ s'' => E e s'') (fun e' s'' => E e' s'') s') s') :
    wpAny (model prog w) A (call (.ref 439) vs) Q E s := by
  refine (S.line.2.at W.k).elim fun o pm cd doc ho hd hcd => ?_
  replace hvs := hvs.consI; obtain ⟨_, _, h1, h2, rfl⟩ := hvs
  replace h2 := h2.consI; obtain ⟨_, _, h2, h3, rfl⟩ := h2
  replace h3 := h3.consI; obtain ⟨_, _, h3, h4, rfl⟩ := h3
  replace h4 := h4.nilI; obtain rfl := h4; replace h1 := h1.inv; obtain rfl := h1; replace h2 := h2.inv; obtain rfl := h2; replace h3 := h3.inv; obtain rfl := h3
  refine enter W.w hroom ho hd hcd rfl (binds := [("over", .ref a), ("column", .ref b), ("origin", .bool p)]) (ρ := [("over", .ref a), ("column", .ref b), ("origin", .bool p)]) (ls := [(a, .list l1), (b, .list l2)]) (BindsTo.of_eq rfl) (by show ∀ x ∈ dLine.scope.names, x.2 ≠ .cell; decide)
    (loc_of (by show ∀ n ∈ [("over" : Str), "column", "origin"], dLine.scope.names.lookup n = some .local; decide)) rfl rfl rfl (fun x av hx => ?_) (fun c l hm => ?_) (fun s' G X => ?_) rfl rfl rfl
  · rw [List.lookup_cons] at hx
    by_cases e : x = "over"
    · subst e; cases hx
      exact ⟨_, rfl, .ref a⟩
    · rw [beq_eq_false_iff_ne.mpr e] at hx
      rcases lookup_two hx with ⟨rfl, rfl⟩ | ⟨rfl, rfl⟩
      · exact ⟨_, rfl, .ref b⟩
      · exact ⟨_, rfl, .bool p⟩
  · rcases List.mem_cons.mp hm with q | q
    · cases q; exact hla
    · cases List.mem_singleton.mp q; exact hlb
  · exact k _ s' rfl rfl G X

/-- what a call of _law_line asks of its lists -/
structure LineOk (xs ys : List Int) (m m' : Int) : Prop where
  hx : Sm xs
  hy : Sm ys
  len : ys.length = xs.length
  two : 2 ≤ xs.length
  mx : xs.sum = m * xs.length
  my : ys.sum = m' * xs.length
  m1 : m.natAbs ≤ 2 ^ 20
  m2 : m'.natAbs ≤ 2 ^ 20

theorem call_line_false {xs ys : List Int} {f f' : Bool} {a b : Addr} {vs : List Value} {m m' q : Int} {Q : Value → Shared → Prop} (S : Static K cs mg mb) (W : Wd K cs mg mb s.heap) (hA : A.handled = none) (hroom : A.depth + 6 < recursionLimit) (hla : IsAV s.heap a (nums f xs)) (hlb : IsAV s.heap b (nums f' ys)) (hvs : Reps [.ref a, .ref b, .bool false] vs)
    (ok : LineOk xs ys m m') (hb : dotN (xs.map (· - m)) (xs.map (· - m)) xs.length ≠ 0) (hq : dotN (xs.map (· - m)) (ys.map (· - m')) xs.length = q * dotN (xs.map (· - m)) (xs.map (· - m)) xs.length) (hq1 : q.natAbs ≤ 2 ^ 20)
    (k : ∀ D s', IsAV s'.heap D [.fl q, .fl (m' - q * m)] → After (tabs cs) (TT cs) s s' → Q (.ref D) s') :
    wpAny (model prog w) A (call (.ref 439) vs) Q E s :=
  enter_line S W (by omega) hla hlb hvs fun env s' h1 h2 G X => line_body S W (by show A.depth + 1 < _; omega) h1 G flv_fl flv_fl X
    (fun s₁ Q' W₁ l1 l2 kk E' => call_lr_false S W₁ hA (by show A.depth + 1 + 4 < _; omega) l1 l2 (.cons (.ref a) (.cons (.ref b) .nil)) ok.hx ok.hy ok.len ok.two ok.mx ok.my ok.m1 ok.m2 hb hq hq1 kk) fun D s₂ X₂ => k D s₂ (X₂.lists D _ List.mem_cons_self) X₂.out
theorem call_line_false0 {xs ys : List Int} {f f' : Bool} {a b : Addr} {vs : List Value} {m m' : Int} {outer : List Env} {Q : Value → Shared → Prop} (S : Static K cs mg mb) (W : Wd K cs mg mb s.heap) (hA : A.handled = none) (hroom : A.depth + 6 < recursionLimit) (hfr : A.frames = some outer) (hc : Chain (tabs cs) s.heap outer) (hla : IsAV s.heap a (nums f xs)) (hlb : IsAV s.heap b (nums f' ys)) (hvs : Reps [.ref a, .ref b, .bool false] vs)
    (ok : LineOk xs ys m m') (hb : dotN (xs.map (· - m)) (xs.map (· - m)) xs.length = 0)
    (k : ∀ s', After (tabs cs) (TT cs) s s' → Q .none s') :
    wpAny (model prog w) A (call (.ref 439) vs) Q E s :=
  enter_line S W (by omega) hla hlb hvs fun env s' h1 h2 G X => line_body0 S W h1 G (frames_of hfr) h2 (hc.grow X.grow (tabs_low X.tb)) X (fun e => by passes_own)
    (fun s₁ Q' E' W₁ l1 l2 ch kk => call_lr_false0 S W₁ hA (by show A.depth + 1 + 4 < _; omega) (frames_of hfr) ch l1 l2 (.cons (.ref a) (.cons (.ref b) .nil)) ok.hx ok.hy ok.len ok.two ok.mx ok.my ok.m1 ok.m2 hb kk) fun s₂ X₂ => k s₂ X₂.out
theorem call_line_true {xs ys : List Int} {f : Bool} {a b : Addr} {vs : List Value} {Q : Value → Shared → Prop} (S : Static K cs mg mb) (W : Wd K cs mg mb s.heap) (hA : A.handled = none) (hroom : A.depth + 6 < recursionLimit) (hla : IsAV s.heap a (nums f xs)) (hlb : IsAV s.heap b (nums f ys)) (hvs : Reps [.ref a, .ref b, .bool true] vs)
    (hx : Sm xs) (hy : Sm ys) (hlen : ys.length = xs.length) (h2 : 2 ≤ xs.length) (hb : dotN xs xs xs.length ≠ 0)
    (k : ∀ D s', IsAV s'.heap D [.q (dotN xs ys xs.length) (dotN xs xs xs.length), .fl 0] → After (tabs cs) (TT cs) s s' → Q (.ref D) s') :
    wpAny (model prog w) A (call (.ref 439) vs) Q E s :=
  enter_line S W (by omega) hla hlb hvs fun env s' h1 h2' G X => line_body S W (by show A.depth + 1 < _; omega) h1 G flv_q flv_fl X
    (fun s₁ Q' W₁ l1 l2 kk E' => call_lr_true S W₁ hA (by show A.depth + 1 + 4 < _; omega) l1 l2 (.cons (.ref a) (.cons (.ref b) .nil)) hx hy hlen h2 hb kk) fun D s₂ X₂ => k D s₂ (X₂.lists D _ List.mem_cons_self) X₂.out
theorem call_line_true0 {xs ys : List Int} {f : Bool} {a b : Addr} {vs : List Value} {outer : List Env} {Q : Value → Shared → Prop} (S : Static K cs mg mb) (W : Wd K cs mg mb s.heap) (hA : A.handled = none) (hroom : A.depth + 6 < recursionLimit) (hfr : A.frames = some outer) (hc : Chain (tabs cs) s.heap outer) (hla : IsAV s.heap a (nums f xs)) (hlb : IsAV s.heap b (nums f ys)) (hvs : Reps [.ref a, .ref b, .bool true] vs)
    (hx : Sm xs) (hy : Sm ys) (hlen : ys.length = xs.length) (h2 : 2 ≤ xs.length) (hb : dotN xs xs xs.length = 0)
    (k : ∀ s', After (tabs cs) (TT cs) s s' → Q .none s') :
    wpAny (model prog w) A (call (.ref 439) vs) Q E s :=
  enter_line S W (by omega) hla hlb hvs fun env s' h1 h2' G X => line_body0 S W h1 G (frames_of hfr) h2' (hc.grow X.grow (tabs_low X.tb)) X (fun e => by passes_own)
    (fun s₁ Q' E' W₁ l1 l2 ch kk => call_lr_true0 S W₁ hA (by show A.depth + 1 + 4 < _; omega) (frames_of hfr) ch l1 l2 (.cons (.ref a) (.cons (.ref b) .nil)) hx hy hlen h2 hb kk) fun s₂ X₂ => k s₂ X₂.out
end
end Mine
end
section
set_option maxRecDepth 100000
namespace Mine
open PySem PySem.Float64 PySem.W PySem.Calls PyProof.Rows
section
variable {prog : Program} {w : World} {A : Around} {E : Value → Shared → Prop} {s : Shared} {env : Env} {h0 : Heap} {g0 : Array GenState} {o0 : OsState} {ρ : List (Str × AV)} {ls : List (Addr × HV)} {mg mb : Str → Option Value} {cs : List (Addr × Addr)} {K : Frag}

theorem tie_body {a b : Addr} {l1 l2 : List AV} {av : AV} {Q : Flow → Shared → Prop} (S : Static K cs mg mb) (W : Wd K cs mg mb h0) (hsc : env.scope = dTie.scope) (G : Gl (tabs cs) env h0 mg mb) (f1 : FlV av)
    (X : At (tabs cs) (TT cs) h0 g0 o0 env [("over", .ref a), ("column", .ref b)] [(a, .list l1), (b, .list l2)] s)
    (hlr : ∀ (s' : Shared) (Q' : Value → Shared → Prop), Wd K cs mg mb s'.heap → IsAV s'.heap a l1 → IsAV s'.heap b l2 → (∀ v s'', Rep av v → After (tabs cs) (TT cs) s' s'' → Q' v s'') → ∀ E', wpAny (model prog w) A (call (.ref 341) [.ref a, .ref b]) Q' E' s')
    (k : ∀ v s', Rep av v → At (tabs cs) (TT cs) h0 g0 o0 env [] [] s' → Q (.ret v) s') : wpAny (model prog w) A (execs dTie.body env) Q E s := by
  have hk : ∀ x, env.kindOf x = dTie.scope.names.lookup x := fun x => by unfold Env.kindOf; rw [hsc]
  have np : ∀ c fp h, (c, HV.pin fp h) ∉ [(a, HV.list l1), (b, HV.list l2)] := fun c fp h hm => by
    rcases List.mem_cons.mp hm with q | q
    · cases q
    · cases List.mem_singleton.mp q
  have hnp' : ∀ c fp h, (c, HV.pin fp h) ∈ [(a, HV.list l1), (b, HV.list l2)] → ∀ d ∈ fp, d ∉ tabs cs := fun c fp h hm => absurd hm (np c fp h)
  refine (S.corr.2.cd (W.at S X).k).elim fun o pm doc ho hd _ => ?_
  refine s_try (s_assignE (P := tabs cs) (T := TT cs) (h0 := h0) (g0 := g0) (o0 := o0) (.inl ((hk _).trans rfl)) (eval_call G ((hk _).trans rfl) S.corr.1 (by decide) X ho hd (.cons (.nm rfl) (.cons (.nm rfl) .nil)) fun vs tk hvs => ?_))
  apply hvs.consE; intro _ _ h1 h2
  apply h2.consE; intro _ _ h2 h3
  apply h3.nilE; apply h1.e0 rfl; apply h2.e0 rfl
  have X₁ := X.toks (tk := tk)
  have W₁ := W.at S X₁
  refine hlr { s with toks := tk } _ W₁ (X₁.lists a _ List.mem_cons_self) (X₁.lists b _ (List.mem_cons_of_mem _ List.mem_cons_self)) (fun v s₂ r af => ?_) _
  obtain ⟨fb, ft, rfl⟩ := f1 v r
  have X₂ := X₁.call af hnp'
  refine ⟨.val (.float fb ft), _, _, .val _, X₂, fun s₃ X₃ => s_nil ?_⟩
  refine s_ret X₃ (av := .val (.float fb ft)) (.ite (b := true) ?_ (fun _ => .nm rfl) fun h => by cases h) fun v s₄ hv X₄ => ?_
  · intro s Q E Y h
    refine wpAny_isTrue_Compare1 (wpAny_Call_NameR (Pur.blt G ((hk _).trans rfl) S.gg.type.1 S.gg.type.2 rfl s _ _ Y fun f tk hf htk => ?_))
    apply hf.e0 rfl
    refine PyProof.Rows.callWith_type1 (PurL.cons (.nm rfl) .nil rfl _ _ _ _ Y.toks fun vs tk₂ hvs htk₂ => ?_) rfl rfl
    apply hvs.consE; intro _ _ h1 h2
    apply h2.nilE; apply h1.e0 rfl
    refine call_type_of (Tx := "float") rfl rfl ?_
    refine Pur.blt G ((hk _).trans rfl) S.float.1 S.float.2 rfl _ _ _ Y.toks fun f tk' hf htk' => ?_
    apply hf.e0 rfl
    exact wpAny_is_self rfl (wpAny_truthy_bool (h _ (Nat.le_trans htk (Nat.le_trans htk₂ htk'))))
  · apply hv.e0 rfl
    exact k _ s₄ r (X₄.weak sub_nil fun p hp => by cases hp)
theorem tie_body0 {a b : Addr} {l1 l2 : List AV} {outer : List Env} {Q : Flow → Shared → Prop} (S : Static K cs mg mb) (W : Wd K cs mg mb h0) (hsc : env.scope = dTie.scope) (G : Gl (tabs cs) env h0 mg mb) (hfr : A.frames = some (env :: outer)) (hf : env.frame = some env.locals) (hc : Chain (tabs cs) s.heap outer)
    (X : At (tabs cs) (TT cs) h0 g0 o0 env [("over", .ref a), ("column", .ref b)] [(a, .list l1), (b, .list l2)] s)
    (hE : ∀ e, PassesOwnAt (model prog w) (A.mark (some (.ref e))) A env E)
    (hlr : ∀ (s' : Shared) (Q' : Value → Shared → Prop) (E' : Value → Shared → Prop), Wd K cs mg mb s'.heap → IsAV s'.heap a l1 → IsAV s'.heap b l2 → Chain (tabs cs) s'.heap (env :: outer) → (∀ s'' e, Fly (tabs cs) (TT cs) s' s'' (env :: outer) e (.ref 102) → E' (.ref e) s'') → wpAny (model prog w) A (call (.ref 341) [.ref a, .ref b]) Q' E' s')
    (k : ∀ s', At (tabs cs) (TT cs) h0 g0 o0 env [] [] s' → Q (.ret .none) s') : wpAny (model prog w) A (execs dTie.body env) Q E s := by
  have hk : ∀ x, env.kindOf x = dTie.scope.names.lookup x := fun x => by unfold Env.kindOf; rw [hsc]
  have np : ∀ c fp h, (c, HV.pin fp h) ∉ [(a, HV.list l1), (b, HV.list l2)] := fun c fp h hm => by
    rcases List.mem_cons.mp hm with q | q
    · cases q
    · cases List.mem_singleton.mp q
  refine (S.corr.2.cd (W.at S X).k).elim fun o pm doc ho hd _ => ?_
  refine s_try (wpAny_execs_cons (wpAny_Assign_Name (eval_call G ((hk _).trans rfl) S.corr.1 (by decide) X ho hd (.cons (.nm rfl) (.cons (.nm rfl) .nil)) fun vs tk hvs => ?_) rfl))
  apply hvs.consE; intro _ _ h1 h2
  apply h2.consE; intro _ _ h2 h3
  apply h3.nilE; apply h1.e0 rfl; apply h2.e0 rfl
  have X₁ := X.toks (tk := tk)
  have W₁ := W.at S X₁
  obtain ⟨m, hn⟩ := X.ok.ns
  have ca : Chain (tabs cs) s.heap (env :: outer) := Chain.cons (by rw [X.ok.fn]; intro q; cases q) hf (Nat.lt_of_lt_of_le X.top_lt X.ok.lo) hn hc
  refine hlr { s with toks := tk } _ _ W₁ (X₁.lists a _ List.mem_cons_self) (X₁.lists b _ (List.mem_cons_of_mem _ List.mem_cons_self)) ca (fun s₂ e fl => ?_)
  exact catch_none (s := { s with toks := tk }) G hfr hf X₁ np (S.errK.at W₁.k) S.errP.1 S.errP.2 ((hk _).trans rfl) S.err fl (hE e) fun s'' X'' => k s'' (X''.weak sub_nil fun p hp => by cases hp)

theorem enter_tie {a b : Addr} {l1 l2 : List AV} {vs : List Value} {Q : Value → Shared → Prop} (S : Static K cs mg mb) (W : Wd K cs mg mb s.heap) (hroom : A.depth < recursionLimit) (hla : IsAV s.heap a l1) (hlb : IsAV s.heap b l2) (hvs : Reps [.ref a, .ref b] vs)
    (k : ∀ env s', env.scope = dTie.scope → env.frame = some env.locals → Gl (tabs cs) env s.heap mg mb →
      At (tabs cs) (TT cs) s.heap s.gens s.os env [("over", .ref a), ("column", .ref b)] [(a, .list l1), (b, .list l2)] s' →
      wpAny (model prog w) (A.deeper env) (execs dTie.body env) (fun f s' => Q (match f with | .ret v => v | _ => .none) s') (fun e s' => wpAny (model prog w) (A.deeper env) (leaving env e) (fun _ s'' => E e s'') (fun e' s'' => E e' s'') s') s') :
    wpAny (model prog w) A (call (.ref 446) vs) Q E s := by
  refine (S.tie.2.at W.k).elim fun o pm cd doc ho hd hcd => ?_
  apply hvs.consE; intro _ _ h1 h2
  apply h2.consE; intro _ _ h2 h3
  apply h3.nilE; apply h1.e0 rfl; apply h2.e0 rfl
  refine enter W.w hroom ho hd hcd rfl (binds := [("over", .ref a), ("column", .ref b)]) (ρ := [("over", .ref a), ("column", .ref b)]) (ls := [(a, .list l1), (b, .list l2)]) (BindsTo.of_eq rfl) (by show ∀ x ∈ dTie.scope.names, x.2 ≠ .cell; decide)
    (loc_of (by show ∀ n ∈ [("over" : Str), "column"], dTie.scope.names.lookup n = some .local; decide)) rfl rfl rfl (fun x av hx => ?_) (fun c l hm => ?_) (fun s' G X => ?_) rfl rfl rfl
  · rcases lookup_two hx with ⟨rfl, rfl⟩ | ⟨rfl, rfl⟩
    · exact ⟨_, rfl, .ref a⟩
    · exact ⟨_, rfl, .ref b⟩
  · rcases List.mem_cons.mp hm with q | q
    · cases q; exact hla
    · cases List.mem_singleton.mp q; exact hlb
  · exact k _ s' rfl rfl G X

theorem call_tie {xs ys : List Int} {f f' : Bool} {a b : Addr} {vs : List Value} {m m' : Int} {res : AV} {Q : Value → Shared → Prop} (S : Static K cs mg mb) (W : Wd K cs mg mb s.heap) (hA : A.handled = none) (hroom : A.depth + 6 < recursionLimit) (hla : IsAV s.heap a (nums f xs)) (hlb : IsAV s.heap b (nums f' ys)) (hvs : Reps [.ref a, .ref b] vs)
    (ok : LineOk xs ys m m') (hf : FlV res)
    (hres : ∀ x y z, IsF x (dotN (xs.map (· - m)) (xs.map (· - m)) xs.length) → IsF y (dotN (ys.map (· - m')) (ys.map (· - m')) xs.length) → IsF z (dotN (xs.map (· - m)) (ys.map (· - m')) xs.length) → SqOk x y ∧ isZero (sqp x y) = false ∧ ∀ t, Rep res (.float (Float64.div z (sqp x y)) t))
    (k : ∀ v s', Rep res v → After (tabs cs) (TT cs) s s' → Q v s') :
    wpAny (model prog w) A (call (.ref 446) vs) Q E s :=
  enter_tie S W (by omega) hla hlb hvs fun env s' h1 h2 G X => tie_body S W h1 G hf X
    (fun s₁ Q' W₁ l1 l2 kk E' => call_corr S W₁ hA (by show A.depth + 1 + 4 < _; omega) l1 l2 (.cons (.ref a) (.cons (.ref b) .nil)) ok.hx ok.hy ok.len ok.two ok.mx ok.my ok.m1 ok.m2 hres kk) fun v s₂ r X₂ => k v s₂ r X₂.out
theorem call_tie0 {xs ys : List Int} {f f' : Bool} {a b : Addr} {vs : List Value} {m m' : Int} {outer : List Env} {Q : Value → Shared → Prop} (S : Static K cs mg mb) (W : Wd K cs mg mb s.heap) (hA : A.handled = none) (hroom : A.depth + 6 < recursionLimit) (hfr : A.frames = some outer) (hc : Chain (tabs cs) s.heap outer) (hla : IsAV s.heap a (nums f xs)) (hlb : IsAV s.heap b (nums f' ys)) (hvs : Reps [.ref a, .ref b] vs)
    (ok : LineOk xs ys m m') (hb : dotN (xs.map (· - m)) (xs.map (· - m)) xs.length * dotN (ys.map (· - m')) (ys.map (· - m')) xs.length = 0)
    (k : ∀ s', After (tabs cs) (TT cs) s s' → Q .none s') :
    wpAny (model prog w) A (call (.ref 446) vs) Q E s :=
  enter_tie S W (by omega) hla hlb hvs fun env s' h1 h2 G X => tie_body0 S W h1 G (frames_of hfr) h2 (hc.grow X.grow (tabs_low X.tb)) X (fun e => by passes_own)
    (fun s₁ Q' E' W₁ l1 l2 ch kk => call_corr0 S W₁ hA (by show A.depth + 1 + 4 < _; omega) (frames_of hfr) ch l1 l2 (.cons (.ref a) (.cons (.ref b) .nil)) ok.hx ok.hy ok.len ok.two ok.mx ok.my ok.m1 ok.m2 hb kk) fun s₂ X₂ => k s₂ X₂.out
end
end Mine
end
section
set_option maxRecDepth 100000
namespace Mine
open PySem PySem.Float64 PySem.W PySem.Calls PyProof.Rows
section
variable {prog : Program} {w : World} {A : Around} {E : Value → Shared → Prop} {s : Shared} {env : Env} {P : List Addr} {T : Heap → Prop} {h0 : Heap} {g0 : Array GenState} {o0 : OsState} {ρ : List (Str × AV)} {ls : List (Addr × HV)} {mg mb : Str → Option Value}

theorem Reps.drop : ∀ {l r} (n : Nat), Reps l r → Reps (l.drop n) (r.drop n)
  | _, _, 0, h => h
  | _, _, _ + 1, .nil => .nil
  | _, _, n + 1, .cons _ t => Reps.drop n t
theorem Reps.take : ∀ {l r} (n : Nat), Reps l r → Reps (l.take n) (r.take n)
  | _, _, 0, _ => .nil
  | _, _, _ + 1, .nil => .nil
  | _, _, n + 1, .cons h t => .cons h (Reps.take n t)

/-- a fresh list stands behind what was pushed before it -/
theorem At.push2 [TabKeep T] {avs : List AV} {vs : List Value} {o : Obj} {tk : Nat} (X : At P T h0 g0 o0 env ρ ls s) (hr : Reps avs vs) :
    At P T h0 g0 o0 env ρ ((s.heap.objs.size + 1, .acc avs) :: ls) { s with heap := (s.heap.push o).push { cls := .type "list", data := .seq vs.toArray }, toks := tk } := by
  have Y := X.keeps (s' := { s with heap := s.heap.push o }) (fun b o e => Heap.get?_push_of_some _ e) rfl rfl
  have Z := Y.push (tk := tk) hr
  have e : ({ s with heap := s.heap.push o } : Shared).heap.objs.size = s.heap.objs.size + 1 := Heap.size_push ..
  rw [e] at Z
  exact Z

/-- value[i:] -/
theorem eval_from [TabKeep T] {value : Expr} {i : Int} {kk : Nat} {cp p pos : Pos} {l : List AV} {Q : Value → Shared → Prop}
    (hv : wpAny (model prog w) A (eval value env) (fun v s₁ => ∃ a, v = .ref a ∧ At P T h0 g0 o0 env ρ ls s₁ ∧ IsAV s₁.heap a l) E s) (hi : 0 ≤ i) (hsz : l.length ≤ sizeLine)
    (k : ∀ D s', h0.objs.size ≤ D → At P T h0 g0 o0 env ρ ((D, .acc (l.drop i.toNat)) :: ls) s' → Q (.ref D) s') :
    wpAny (model prog w) A (eval (.Subscript value (.Slice (some (.Constant (.int i) kk cp)) none none p) pos) env) Q E s := by
  refine Subscript_ (wpAny_mono hv (fun v s₁ h₁ => wpAny_Slice (wpAny_Constant_int (k := kk) (pos := cp) (wpAny_pure (wpAny_pure ?_)))) fun _ _ e => e)
  obtain ⟨a, rfl, X, vals, hL, hR⟩ := h₁
  refine tail_any (T := "list") (id := "list.__getitem__") (hL.push _).typeIs list_getitem_lookup (wpAny_getItem_list_slice (hL.push _) (Heap.IsSliceOf.new ..) (.int i _) .none .none (by simp) ?_ (by rw [List.size_toArray, hR.length]; exact hsz)) rfl
  obtain ⟨n, rfl⟩ := Int.eq_ofNat_of_zero_le hi
  rw [slicePick_from', Heap.size_push]
  refine k _ _ (Nat.le_succ_of_le X.low) ?_
  rw [Int.toNat_natCast]
  exact X.push2 (hR.drop n)
/-- value[:i] -/
theorem eval_upto [TabKeep T] {value : Expr} {i : Int} {kk : Nat} {cp p pos : Pos} {l : List AV} {Q : Value → Shared → Prop}
    (hv : wpAny (model prog w) A (eval value env) (fun v s₁ => ∃ a, v = .ref a ∧ At P T h0 g0 o0 env ρ ls s₁ ∧ IsAV s₁.heap a l) E s) (hi : 0 ≤ i) (hsz : l.length ≤ sizeLine)
    (k : ∀ D s', h0.objs.size ≤ D → At P T h0 g0 o0 env ρ ((D, .acc (l.take i.toNat)) :: ls) s' → Q (.ref D) s') :
    wpAny (model prog w) A (eval (.Subscript value (.Slice none (some (.Constant (.int i) kk cp)) none p) pos) env) Q E s := by
  refine Subscript_ (wpAny_mono hv (fun v s₁ h₁ => wpAny_Slice (wpAny_pure (wpAny_Constant_int (k := kk) (pos := cp) (wpAny_pure ?_)))) fun _ _ e => e)
  obtain ⟨a, rfl, X, vals, hL, hR⟩ := h₁
  refine tail_any (T := "list") (id := "list.__getitem__") (hL.push _).typeIs list_getitem_lookup (wpAny_getItem_list_slice (hL.push _) (Heap.IsSliceOf.new ..) .none (.int i _) .none (by simp) ?_ (by rw [List.size_toArray, hR.length]; exact hsz)) rfl
  obtain ⟨n, rfl⟩ := Int.eq_ofNat_of_zero_le hi
  rw [slicePick_upto', Heap.size_push]
  refine k _ _ (Nat.le_succ_of_le X.low) ?_
  rw [Int.toNat_natCast]
  exact X.push2 (hR.take n)

theorem Holds.av {h : Heap} {a : Addr} {l : List AV} (x : Holds h a (.acc l)) : IsAV h a l := by
  obtain ⟨vals, ⟨o, n, ho, h1, h2, hd⟩, hr⟩ := x
  exact ⟨vals, ⟨o, ho, h1, n, hd⟩, hr⟩

/-- list + list -/
theorem op_add_lists [TabKeep T] {a b : Addr} {l1 l2 : List AV} {Q : Value → Shared → Prop} (X : At P T h0 g0 o0 env ρ ls s) (h1 : IsAV s.heap a l1) (h2 : IsAV s.heap b l2) (hsz : l1.length + l2.length ≤ sizeLine)
    (k : ∀ D s', h0.objs.size ≤ D → At P T h0 g0 o0 env ρ ((D, .acc (l1 ++ l2)) :: ls) s' → Q (.ref D) s') : wpAny (model prog w) A (binaryOp .Add (.ref a) (.ref b)) Q E s := by
  obtain ⟨v1, ⟨⟨cls, dd, data, sl⟩, ho, hc, n, hd⟩, r1⟩ := h1
  obtain ⟨v2, ⟨⟨cls2, dd2, data2, sl2⟩, ho2, hc2, n2, hd2⟩, r2⟩ := h2
  simp only at hc hd hc2 hd2
  subst hc hd hc2 hd2
  refine concat_meets ⟨_, ho, rfl⟩ ⟨_, ho2, rfl⟩ noFill_list_add seq_list_add PySem.F.slot_list_add PySem.F.entry_list_add (PySem.F.args_list_add_2 _ _) (list_addW a b v1.toArray v2.toArray n n2 dd dd2 sl sl2 (by rw [List.size_toArray, List.size_toArray, r1.length, r2.length]; exact hsz)) ⟨ho, ho2, ?_⟩
  rw [show v1.toArray ++ v2.toArray = (v1 ++ v2).toArray by simp]
  exact k _ _ X.low (X.push (tk := s.toks) (r1.append r2))
theorem Reps.replicate {l r} (h : Reps l r) : ∀ n : Nat, Reps (List.replicate n l).flatten (List.replicate n r).flatten
  | 0 => .nil
  | n + 1 => by
    rw [List.replicate_succ, List.replicate_succ, List.flatten_cons, List.flatten_cons]
    exact h.append (Reps.replicate h n)
/-- list * int -/
theorem op_mul_list [TabKeep T] {a : Addr} {l : List AV} {x : Int} {u : Tok} {Q : Value → Shared → Prop} (X : At P T h0 g0 o0 env ρ ls s) (h1 : IsAV s.heap a l) (hlo : -(2 ^ 63 : Int) ≤ x) (hhi : x < 2 ^ 63) (hsz : l.length * x.toNat ≤ 2 ^ 24)
    (k : ∀ D s', h0.objs.size ≤ D → At P T h0 g0 o0 env ρ ((D, .acc (List.replicate x.toNat l).flatten) :: ls) s' → Q (.ref D) s') : wpAny (model prog w) A (binaryOp .Mult (.ref a) (.int x u)) Q E s := by
  obtain ⟨vs, ⟨⟨cls, d, data, sl⟩, ho, hcl, kk, hd⟩, r1⟩ := h1
  simp only at hcl hd
  subst hcl hd
  have e := listMul_foldl_if vs.toArray x.toNat
  have hsz' : vs.toArray.size * x.toNat ≤ 2 ^ 24 := by rw [List.size_toArray, r1.length]; exact hsz
  refine wpAny_binaryOp_repeat_ref (T := "list") (U := "int") (by decide) ⟨_, ho, rfl⟩ (fun s' => typeIs_int s' x u) noFill_list_mul F.fills_int_mul F.slot_int_rmul repeat_list F.slot_int_index.lookup
    (call_meets F.slot_int_rmul (typeIs_int s x u) F.entry_int_rmul (F.args_int_rmul_2 _ _) (lm_int_rmul_list_any x u a vs.toArray kk d sl)
      ⟨ho, rfl, ⟨_, ho, rfl⟩, call_meets F.slot_list_mul ⟨_, ho, rfl⟩ F.entry_list_mul (F.args_list_mul_2 _ _)
        (lm_list_mul_any a vs.toArray kk d sl x u (by simp [Builtin.List.listFitsIndex]; omega) (by omega) (by simp [Builtin.List.listTooLong, sizeLine]; omega))
        ⟨ho, ?_⟩⟩)
  rw [e]
  exact k _ _ X.low (X.push (tk := s.toks) (r1.replicate x.toNat))
end
end Mine
end
section
set_option maxRecDepth 100000
namespace Mine
open PySem PySem.Float64 PySem.W PySem.Calls PyProof.Rows
theorem preSum_eq (l : List Int) : ∀ n, n ≤ l.length → preSum (fun i => l.getD i 0) n = (l.take n).sum
  | 0, _ => by simp [preSum]
  | n + 1, h => by
    rw [preSum, preSum_eq l n (by omega), List.take_add_one, List.sum_append, List.getD_eq_getElem?_getD, List.getElem?_eq_getElem (by omega)]
    simp
section
variable {prog : Program} {w : World} {A : Around} {E : Value → Shared → Prop} {s : Shared} {env : Env} {P : List Addr} {T : Heap → Prop} {h0 : Heap} {g0 : Array GenState} {o0 : OsState} {ρ : List (Str × AV)} {ls : List (Addr × HV)} {mg mb : Str → Option Value}
/-- sum(e), e a list of ints -/
theorem eval_sum [TabKeep T] {p pos : Pos} {e : Expr} {l : List Int} {Q : Value → Shared → Prop} (hA : A.handled = none) (G : Gl P env h0 mg mb) (hk : env.kindOf "sum" = some .globalImplicit) (hm : mg "sum" = Option.none) (hb : mb "sum" = some (.builtin "sum"))
    (X : At P T h0 g0 o0 env ρ ls s)
    (he : ∀ s, At P T h0 g0 o0 env ρ ls s → wpAny (model prog w) A (eval e env) (fun v s₁ => ∃ a, v = .ref a ∧ At P T h0 g0 o0 env ρ ls s₁ ∧ IsAV s₁.heap a (l.map .int)) E s)
    (k : ∀ t s', At P T h0 g0 o0 env ρ ls s' → Q (.int l.sum t) s') (hst : starEach [e] env = (false, eval e env) :: starEach [] env := by rfl) :
    wpAny (model prog w) A (eval (.Call (.Name "sum" p) [e] [] pos) env) Q E s := by
  refine wpAny_Call_NameR (Pur.blt G hk hm hb rfl s _ _ X fun f tk hf _ => ?_)
  apply hf.e0 rfl
  refine PyProof.Rows.callWith_builtin1 (spliced_more (wpAny_mono (he _ X.toks) (fun v s₁ h₁ => spliced_nil ?_) fun _ _ e => e) hst) hst rfl
  obtain ⟨a, rfl, X₁, vals, hL, hR⟩ := h₁
  refine call_sum_walkG (wpAny_pyIter_list hL ?_)
  have hlt : a < s₁.heap.objs.size := by obtain ⟨o, ho, _⟩ := hL; exact Heap.lt_size ho
  have hA' : A.in1.handled = none := hA
  have W := Walks.list (prog := prog) (w := w) hA' s₁.heap.objs.size a (Nat.ne_of_lt hlt) vals.toArray
  rw [show vals.toArray.size = l.length from by rw [List.size_toArray, hR.length, List.length_map]] at W
  refine ⟨_, _, _, _, _, _, fun i => l.getD i 0, rfl, W, ⟨isListIter_of (Heap.get?_push_size _ rfl), hL.push _⟩, fun b hb => ?_, fun i v h => ?_, fun h' tk t' hk' => ?_⟩
  · show b < (s₁.heap.push _).objs.size
    rw [Heap.size_push]
    simp only [List.mem_cons, List.not_mem_nil, or_false] at hb
    rcases hb with q | q
    · rw [q]; exact Nat.lt_succ_self _
    · rw [q]; exact Nat.lt_succ_of_lt hlt
  · obtain ⟨a', h1, h2⟩ := hR.at' (i := i) (v := v) (by simpa using h)
    rw [List.getElem?_map] at h1
    cases hli : l[i]? with
    | none => rw [hli] at h1; cases h1
    | some z =>
      rw [hli] at h1; cases h1
      cases h2 with | int _ t =>
      exact ⟨t, by dsimp only; rw [List.getD_eq_getElem?_getD, hli]; rfl⟩
  · rw [preSum_eq l _ (Nat.le_refl _), List.take_of_length_le (Nat.le_refl _)]
    refine k t' _ (X₁.keeps (fun b o e => hk' b o (fun hb => ?_) (Heap.get?_push_of_some _ e)) rfl rfl)
    rw [List.mem_singleton.mp hb] at e
    exact Nat.lt_irrefl _ (Heap.lt_size e)
end
end Mine
end
section
set_option maxRecDepth 100000
namespace Mine
open PySem PySem.Float64 PySem.W PySem.Calls PyProof.Rows
/-- the targets of an unpacking: names -/
inductive Tgts (env : Env) : List Str → List (Value → Sem Unit) → Prop
  | nil : Tgts env [] []
  | cons {x : Str} {p : Pos} {xs : List Str} {ts : List (Value → Sem Unit)} : Storable env x → Tgts env xs ts → Tgts env (x :: xs) (assign (.Name x p) env :: ts)
/-- what is bound behind it -/
noncomputable def bound : List Str → List AV → List (Str × AV) → List (Str × AV)
  | x :: xs, a :: as, ρ => bound xs as ((x, a) :: ρ)
  | _, _, ρ => ρ
section
variable {prog : Program} {w : World} {A : Around} {E : Value → Shared → Prop} {s : Shared} {env : Env} {P : List Addr} {T : Heap → Prop} {h0 : Heap} {g0 : Array GenState} {o0 : OsState} {ρ : List (Str × AV)} {ls : List (Addr × HV)} {mg mb : Str → Option Value}

theorem At.bindAll [TabKeep T] {Q : Unit → Shared → Prop} {xs : List Str} {ts : List (Value → Sem Unit)} {avs : List AV} {vs : List Value} {ρ : List (Str × AV)} {s : Shared} (ht : Tgts env xs ts) (hr : Reps avs vs) (hl : avs.length = xs.length) (X : At P T h0 g0 o0 env ρ ls s)
    (k : ∀ s', At P T h0 g0 o0 env (bound xs avs ρ) ls s' → Stored h0.objs.size s.heap s'.heap → Q () s') : wpAny (model prog w) A (assignInOrder ts vs) Q E s := by
  induction ht generalizing avs vs ρ s with
  | nil =>
    obtain rfl := List.eq_nil_of_length_eq_zero hl
    obtain rfl := hr.nilI
    exact assignInOrder_nil (k _ X ⟨fun _ _ _ e => e, fun _ _ _ e => e, rfl⟩)
  | cons hx t ih =>
    cases avs with
    | nil => cases hl
    | cons a l =>
      obtain ⟨_, _, h, r, rfl⟩ := hr.consI
      exact assignInOrder_cons (wpAny_assign_Name (X.store h hx fun s₁ X₁ st _ =>
        ih r (Nat.succ.inj hl) X₁ fun s₂ X₂ st₂ => k s₂ X₂ ⟨fun b o hb e => st₂.1 b o hb (st.1 b o hb e), fun b o hL e => st₂.2.1 b o hL (st.2.1 b o hL e), st₂.2.2.trans st.2.2⟩))

theorem ext_new {h h' : Heap} (he : Heap.ExtBut h.objs.size h h') : ∀ b o, h.get? b = some o → h'.get? b = some o := fun b o e => he b o (Nat.ne_of_lt (Heap.lt_size e)) e

/-- a, b, .. = value, a list -/
theorem s_unpack [TabKeep T] {Q : Flow → Shared → Prop} {rest : List Stmt} {elts : List Expr} {ek : Nat} {tp pos : Pos} {value : Expr} {xs : List Str} {ts : List (Value → Sem Unit)} {avs : List AV} {ρ' : List (Str × AV)} {ls' : List (Addr × HV)} (hA : A.handled = none)
    (he : assignEach elts env = ts.map fun t => (false, t)) (ht : Tgts env xs ts) (hn : avs.length = xs.length)
    (hv : wpAny (model prog w) A (eval value env) (fun v s₁ => ∃ a, v = .ref a ∧ At P T h0 g0 o0 env ρ' ls' s₁ ∧ IsAV s₁.heap a avs) E s)
    (k : ∀ s', At P T h0 g0 o0 env (bound xs avs ρ') ls' s' → wpAny (model prog w) A (execs rest env) Q E s')
    (hs : swapsWithSole [.Tuple elts ek tp] value pos.line env = pure false := by rfl) (hw : swappedStores [.Tuple elts ek tp] value env = pure none := by rfl) :
    wpAny (model prog w) A (execs (.Assign [.Tuple elts ek tp] value pos :: rest) env) Q E s := by
  refine wpAny_execs_cons (Assign_Tuple (wpAny_mono hv (fun v s₁ h₁ => ?_) fun _ _ e => e) hs hw)
  obtain ⟨a, rfl, X, vals, hL, hR⟩ := h₁
  have htl : ∀ {xs ts}, Tgts env xs ts → ts.length = xs.length := fun {xs ts} h => by
    induction h with
    | nil => rfl
    | cons _ _ ih => rw [List.length_cons, List.length_cons, ih]
  have len : (assignEach elts env).length = vals.toArray.size := by rw [he, List.length_map, htl ht, List.size_toArray, hR.length, hn]
  rw [assign_Tuple]
  refine wpAny_bind (wpAny_standAt ?_)
  unfold unpack
  rw [len]
  have hf : (assignEach elts env).findIdx? (·.1) = none := by
    rw [he]
    rw [List.findIdx?_eq_none_iff]
    intro x hx
    obtain ⟨t, _, rfl⟩ := List.mem_map.mp hx
    rfl
  rw [hf]
  refine wpAny_bind (wpAny_holding (kun_itemsOf hA hL fun h' he' => ?_))
  rw [he, List.map_map, show ((fun x : Bool × (Value → Sem Unit) => x.2) ∘ fun t => (false, t)) = id from rfl, List.map_id]
  exact At.bindAll (s := { s₁ with heap := h' }) ht hR hn (X.keeps (ext_new he') rfl rfl) fun s' X' _ => k s' X'
/-- the same, of a tuple -/
theorem At.unpackT [TabKeep T] {Q : Unit → Shared → Prop} {elts : List Expr} {ek : Nat} {tp : Pos} {xs : List Str} {ts : List (Value → Sem Unit)} {avs : List AV} {vals : List Value} {t : Addr} (hA : A.handled = none)
    (he : assignEach elts env = ts.map fun t => (false, t)) (ht : Tgts env xs ts) (hn : avs.length = xs.length) (X : At P T h0 g0 o0 env ρ ls s) (hT : IsTup s.heap t vals.toArray) (hR : Reps avs vals)
    (k : ∀ s' h', At P T h0 g0 o0 env (bound xs avs ρ) ls s' → (∀ b o, s.heap.get? b = some o → h'.get? b = some o) → Stored h0.objs.size h' s'.heap → Q () s') :
    wpAny (model prog w) A (assign (.Tuple elts ek tp) env (.ref t)) Q E s := by
  have htl : ∀ {xs ts}, Tgts env xs ts → ts.length = xs.length := fun {xs ts} h => by
    induction h with
    | nil => rfl
    | cons _ _ ih => rw [List.length_cons, List.length_cons, ih]
  refine assign_Tuple_tuple hA hT (by rw [he, List.length_map, htl ht, List.size_toArray, hR.length, hn]) ?_ fun h' he' => ?_
  · rw [he]
    rw [List.findIdx?_eq_none_iff]
    intro x hx
    obtain ⟨t, _, rfl⟩ := List.mem_map.mp hx
    rfl
  rw [he, List.map_map, show ((fun x : Bool × (Value → Sem Unit) => x.2) ∘ fun t => (false, t)) = id from rfl, List.map_id]
  exact At.bindAll (s := { s with heap := h' }) ht hR hn (X.keeps (ext_new he') rfl rfl) fun s' X' st => k s' h' X' (ext_new he') st
/-- a, b, .. = value, a tuple -/
theorem s_unpackT [TabKeep T] {Q : Flow → Shared → Prop} {rest : List Stmt} {elts : List Expr} {ek : Nat} {tp pos : Pos} {value : Expr} {xs : List Str} {ts : List (Value → Sem Unit)} {avs : List AV} {ρ' : List (Str × AV)} {ls' : List (Addr × HV)} (hA : A.handled = none)
    (he : assignEach elts env = ts.map fun t => (false, t)) (ht : Tgts env xs ts) (hn : avs.length = xs.length)
    (hv : wpAny (model prog w) A (eval value env) (fun v s₁ => ∃ t vals, v = .ref t ∧ At P T h0 g0 o0 env ρ' ls' s₁ ∧ IsTup s₁.heap t vals.toArray ∧ Reps avs vals) E s)
    (k : ∀ s', At P T h0 g0 o0 env (bound xs avs ρ') ls' s' → wpAny (model prog w) A (execs rest env) Q E s')
    (hs : swapsWithSole [.Tuple elts ek tp] value pos.line env = pure false := by rfl) (hw : swappedStores [.Tuple elts ek tp] value env = pure none := by rfl) :
    wpAny (model prog w) A (execs (.Assign [.Tuple elts ek tp] value pos :: rest) env) Q E s := by
  refine wpAny_execs_cons (Assign_Tuple (wpAny_mono hv (fun v s₁ h₁ => ?_) fun _ _ e => e) hs hw)
  obtain ⟨t, vals, rfl, X, hT, hR⟩ := h₁
  exact X.unpackT hA he ht hn hT hR fun s' _ X' _ _ => k s' X'
end
end Mine
end
section
set_option maxRecDepth 100000
namespace Mine
open PySem PySem.Float64 PySem.W PySem.Calls PyProof.Rows
theorem bound_other {y : Str} : ∀ (xs : List Str) (as : List AV) (ρ : List (Str × AV)), y ∉ xs → (bound xs as ρ).lookup y = ρ.lookup y
  | [], _, _, _ => rfl
  | _ :: _, [], _, _ => rfl
  | x :: xs, a :: as, ρ, h => by
    rw [List.mem_cons, not_or] at h
    show (bound xs as ((x, a) :: ρ)).lookup y = _
    rw [bound_other xs as _ h.2, List.lookup_cons, beq_eq_false_iff_ne.mpr h.1]
section
variable {prog : Program} {w : World} {A : Around} {E : Value → Shared → Prop} {s : Shared} {env : Env} {P : List Addr} {T : Heap → Prop} {h0 : Heap} {g0 : Array GenState} {o0 : OsState} {ρ ρc : List (Str × AV)} {ls : List (Addr × HV)} {mg mb : Str → Option Value}

/-- an iterator that hands out a tuple of its own -/
structure IterOfT (prog : Program) (w : World) (A : Around) (n : Nat) (av : Nat → List AV) (I : Addr) (fp wr : List Addr) (St : Nat → Heap → Prop) (Mid : Nat → Addr → Heap → Prop) (s₁ s₂ : Shared) : Prop where
  walks : WalksT prog w A I fp wr n (fun i vals => Reps (av i) vals.toList) St Mid
  st0 : St 0 s₂.heap
  fresh : ∀ b ∈ wr, s₁.heap.objs.size ≤ b
  lasts : ∀ i h, St i h → ∀ b ∈ fp, ∃ o, h.get? b = some o ∧ Lasting o = true
  stw : ∀ i h, St i h → ∀ b ∈ wr, ∃ o, h.get? b = some o ∧ Lasting o = true ∧ o.cls ≠ .type "list"
  midw : ∀ i t h, Mid i t h → ∀ b ∈ wr, ∃ o, h.get? b = some o ∧ Lasting o = true ∧ o.cls ≠ .type "list"
  keep : ∀ b o, s₁.heap.get? b = some o → s₂.heap.get? b = some o
  gens : s₂.gens = s₁.gens
  os : s₂.os = s₁.os
  size : s₁.heap.objs.size ≤ s₂.heap.objs.size
  low : ∀ b ∈ fp, b < s₂.heap.objs.size

/-- a change of fresh iterators leaves the state -/
theorem At.iter2 [TabKeep T] {n0 : Nat} {wr : List Addr} {h' : Heap} {tk : Nat} (X : At P T h0 g0 o0 env ρ ls s) (hw : ∀ b ∈ wr, n0 ≤ b) (h451 : 451 < n0) (hf : ∀ b ∈ wr, ∃ o, s.heap.get? b = some o ∧ Lasting o = true ∧ o.cls ≠ .type "list")
    (h0w : ∀ b o, b ∉ P → h0.get? b = some o → b < n0) (hp : ∀ a fp h₁, (a, HV.pin fp h₁) ∈ ls → ∀ b ∈ fp, ∀ o, h₁.get? b = some o → b < n0) (hk : ∀ b o, b ∉ wr → s.heap.get? b = some o → h'.get? b = some o) : At P T h0 g0 o0 env ρ ls { s with heap := h', toks := tk } := by
  have hnl : ∀ b o, s.heap.get? b = some o → Lasting o = false → h'.get? b = some o := fun b o e hl => hk b o (fun hb => by
    obtain ⟨o', e', d, _⟩ := hf b hb
    rw [e] at e'; cases e'
    rw [d] at hl; cases hl) e
  have hlt : ∀ b o, b < n0 → s.heap.get? b = some o → h'.get? b = some o := fun b o hb e => hk b o (fun hm => Nat.lt_irrefl _ (Nat.lt_of_lt_of_le hb (hw b hm))) e
  refine ⟨envOk_keep hnl X.ok, X.grow.keep fun b o o₀ hb e₀ e => hlt b o (h0w b o₀ hb e₀) e, fun x av h => let ⟨v, h1, h2⟩ := X.here x av h; ⟨v, h1, loads_keep hnl h2⟩, fun a l h => ?_, X.far, X.big,
    TabKeep.go _ _ X.tb fun b o hb e => hlt b o (Nat.lt_of_lt_of_le hb h451) e, X.gens, X.os⟩
  have := X.lists a l h
  have k : ∀ o, s.heap.get? a = some o → o.cls = .type "list" → h'.get? a = some o := fun o e hs => hk a o (fun hb => by
      obtain ⟨o', e', _, d⟩ := hf a hb
      rw [e] at e'; cases e'
      exact d hs) e
  cases l with
  | list l =>
    obtain ⟨vals, ⟨o, ho, hc, n, hd⟩, hr⟩ := this
    exact ⟨vals, ⟨o, k o ho hc, hc, n, hd⟩, hr⟩
  | acc l =>
    obtain ⟨vals, ⟨o, n, ho, h1, h2, hd⟩, hr⟩ := this
    exact ⟨vals, ⟨o, n, k o ho h1, h1, h2, hd⟩, hr⟩
  | pin fp h₁ => exact fun b hb o e => ⟨(this b hb o e).1, hlt b o (hp a fp h₁ h b hb o e) (this b hb o e).2⟩

theorem comp_coreT [TabKeep T] [TabFields P T] {elt iter : Expr} {xs : List Str} {elts : List Expr} {ek : Nat} {tp : Pos} {scope : Scope} {cl : List (Str × Addr)} {pos : Pos} {n : Nat} {av : Nat → List AV} {bv : Nat → AV} {I : Addr} {fp wr : List Addr} {St : Nat → Heap → Prop} {Mid : Nat → Addr → Heap → Prop} {s₁ s₂ : Shared}
    {RR : Value → Addr → Result → Shared → Prop} (hA : A.handled = none)
    (X : At P T h0 g0 o0 env ρ ls s₁) (hnp : ∀ a fp h, (a, HV.pin fp h) ∉ ls) (IO : IterOfT prog w A n av I fp wr St Mid s₁ s₂) (hsz : n ≤ sizeLine)
    (hcell : ∀ y ∈ scope.names, y.2 ≠ .cell) (hkind : scope.kind = .function) (hx : ∀ x ∈ xs, scope.names.lookup x = some .local)
    (htg : ∀ C, ∃ ts, assignEach elts (compEnvC scope cl C env) = ts.map (fun t => (false, t)) ∧ Tgts (compEnvC scope cl C env) xs ts) (hav : ∀ i, i < n → (av i).length = xs.length)
    (hclE : ∀ y c, cl.lookup y = some c → env.cells.lookup y = some c)
    (hρc : ∀ y a, ρc.lookup y = some a → ρ.lookup y = some a ∧ env.kindOf y = some .cell ∧ scope.names.lookup y = some .free ∧ ∃ c, cl.lookup y = some c)
    (step : ∀ C i a l, i < n → Pur prog w A (At P T s₁.heap s₁.gens s₁.os (compEnvC scope cl C env) (bound xs (av i) ρc) ((a, .acc l) :: ls)) (compEnvC scope cl C env) elt (bv i))
    (fin : ∀ D C s' m, At P T s₁.heap s₁.gens s₁.os (compEnvC scope cl C env) ρc ((D, .acc ((List.range n).map bv)) :: ls) s' → s'.heap.Ns C m → s₁.heap.objs.size ≤ D → s₁.heap.objs.size ≤ C → D ≠ C → RR (.ref D) C (.ok .next) s') :
    wpAny (model prog w) A (newList []) (fun acc s₃ => wpAny (model prog w) A (newFunctionEnv scope env.globals cl [] env.qual none .none (some env)) (fun cenv s₄ =>
      codeAny (model prog w) A (.compStart (.ListComp elt [⟨.Tuple elts ek tp, iter, [], 0⟩] scope pos) 0 (.ref I) acc { cenv with scope := relabel scope env }) (RR acc cenv.locals) s₄) E s₃) E s₂ := by
  refine wpAny_newObj_type (wpAny_newFunctionEnv hcell (by intro y hy; simp at hy) (fun h₁ hns₁ hsb₁ => ?_) hkind)
  dsimp only at hns₁ hsb₁ ⊢
  generalize hH2 : s₂.heap.push { cls := .type "list", dict := none, data := .seq ([] : List Value).toArray } = H2 at hns₁ hsb₁ ⊢
  have hC : H2.objs.size = s₂.heap.objs.size + 1 := by rw [← hH2, Heap.size_push]
  have hDC : s₂.heap.objs.size ≠ H2.objs.size := by rw [hC]; exact Nat.ne_of_lt (Nat.lt_succ_self _)
  have below : ∀ b, b < s₂.heap.objs.size → b ≠ H2.objs.size ∧ b ≠ s₂.heap.objs.size := fun b hb => ⟨by rw [hC]; exact Nat.ne_of_lt (Nat.lt_succ_of_lt hb), Nat.ne_of_lt hb⟩
  have old : ∀ b o, s₂.heap.get? b = some o → h₁.get? b = some o := fun b o e => hsb₁.extBut b o (below b (Heap.lt_size e)).1 (Heap.get?_push_of_some _ (hH2 ▸ Heap.get?_push_of_some _ e))
  have hacc : PlainL h₁ s₂.heap.objs.size #[] := ⟨_, _, hsb₁.extBut _ _ hDC (Heap.get?_push_of_some _ (hH2 ▸ Heap.get?_push_size _ rfl)), rfl, rfl, rfl⟩
  have hst₁ : St 0 h₁ := IO.walks.frame _ _ _ IO.st0 fun b _ o e => old b o e
  have big : s₁.heap.objs.size ≤ s₂.heap.objs.size := IO.size
  have Y0 : At P T s₁.heap s₁.gens s₁.os (compEnvC scope cl H2.objs.size env) ρc ((s₂.heap.objs.size, .acc ((List.range 0).map bv)) :: ls) { s₂ with heap := h₁, toks := s₂.toks + ([] : List (Str × Value)).length } :=
    comp_start X hkind hns₁ (fun b o e => old b o (IO.keep b o e)) (by rw [hC]; exact Nat.le_succ_of_le big) hacc IO.gens IO.os hclE hρc
  have loop : ∀ s₃ : Shared, s₃ = { s₂ with heap := h₁, toks := s₂.toks + ([] : List (Str × Value)).length } →
      codeAny (model prog w) A (.compLoop (.ListComp elt [⟨.Tuple elts ek tp, iter, [], 0⟩] scope pos) 0 (.ref I) (.ref s₂.heap.objs.size) (compEnvC scope cl H2.objs.size env))
        (RR (.ref s₂.heap.objs.size) H2.objs.size) s₃ := by
    rintro s₃ rfl
    refine LCp.codeAny_compLoop_pair (fun m s' => ∃ i, i ≤ n ∧ m = n - i ∧ At P T s₁.heap s₁.gens s₁.os (compEnvC scope cl H2.objs.size env) ρc ((s₂.heap.objs.size, .acc ((List.range i).map bv)) :: ls) s' ∧ St i s'.heap) ?_ n ⟨0, Nat.zero_le _, rfl, Y0, hst₁⟩
    intro m s' hinv
    refine ex1and4 hinv fun i hi hm Y st => ?_
    subst hm
    clear hinv
    have h0w : ∀ b o, b ∉ P → s₁.heap.get? b = some o → b < s₁.heap.objs.size := fun b o _ e => Heap.lt_size e
    have hpn : ∀ a fp h₁, (a, HV.pin fp h₁) ∈ ((s₂.heap.objs.size, HV.acc ((List.range i).map bv)) :: ls) → ∀ b ∈ fp, ∀ o, h₁.get? b = some o → b < s₁.heap.objs.size := fun a fp h₁ hm => by
      rcases List.mem_cons.mp hm with q | q
      · cases q
      · exact absurd q (hnp a fp h₁)
    rcases Nat.lt_or_ge i n with hlt | hge
    · refine IO.walks.item i s' _ _ hlt st fun t vals h' tk hv _ ht hmid hk => ?_
      have Y' := Y.iter2 (tk := tk) IO.fresh X.lt451 (IO.stw i _ st) h0w hpn hk
      dsimp only
      refine IO.walks.go _ _ _ i t { s' with heap := h', toks := tk } _ _ hmid fun h'' st' hk' => ?_
      have Y'' := Y'.iter2 (tk := tk) IO.fresh X.lt451 (IO.midw i t _ hmid) h0w hpn hk'
      obtain ⟨ts, hts, htg'⟩ := htg H2.objs.size
      have hT : IsTup h'' t vals.toList.toArray := by
        obtain ⟨o, ho, hc, nn, hd⟩ := ht
        exact ⟨o, hk' t o (IO.walks.apart i t _ hmid) ho, hc, nn, hd⟩
      refine Y''.unpackT hA hts htg' (hav i hlt) hT hv fun s₄ h₄ Y₄ kp₄ st₄ => ?_
      have stn : St (i + 1) s₄.heap := IO.walks.frame _ _ _ st' fun b hb o e => by
        obtain ⟨o', e', hl⟩ := IO.lasts _ _ st' b hb
        rw [e] at e'; cases e'
        exact st₄.2.1 b o hl (kp₄ b o e)
      have sub : ∀ y a, ρc.lookup y = some a → (bound xs (av i) ρc).lookup y = some a := fun y a hy => by
        rw [bound_other]
        · exact hy
        · intro q
          have := hx y q
          rw [(hρc y a hy).2.2.1] at this
          cases this
      have lowls : ∀ b l', (b, l') ∈ ls → (∃ l'', l' = .list l'' ∨ l' = .acc l'') → b ≠ s₂.heap.objs.size := fun b l' hm hl => by
        have : ∃ o, s₁.heap.get? b = some o := by
          have hh := X.lists b l' hm
          obtain ⟨l'', q | q⟩ := hl <;> subst q
          · obtain ⟨_, ⟨o, ho, _⟩, _⟩ := hh
            exact ⟨o, ho⟩
          · obtain ⟨_, ⟨o, _, ho, _⟩, _⟩ := hh
            exact ⟨o, ho⟩
        obtain ⟨o, ho⟩ := this
        exact Nat.ne_of_lt (Nat.lt_of_lt_of_le (Heap.lt_size ho) big)
      have lowfp : ∀ b ∈ fp, b ≠ s₂.heap.objs.size := fun b hb => Nat.ne_of_lt (IO.low b hb)
      refine step H2.objs.size i s₂.heap.objs.size _ hlt s₄ _ _ Y₄ fun y tk' hy _ => ?_
      have Y₅ := Y₄.toks (tk := tk')
      refine Y₅.append_call hy big (by rw [List.length_map, List.length_range]; exact Nat.le_trans hi hsz) (fun b l' hm => lowls b _ hm ⟨_, .inl rfl⟩) (fun b l' hm => lowls b _ hm ⟨_, .inr rfl⟩) (fun b fp' h₂ hm => absurd hm (hnp _ _ _)) fun h₅ Y₆ hs₅ => ⟨n - (i + 1), by omega, i + 1, hlt, rfl, ?_, ?_⟩
      · rw [List.range_succ, List.map_append]
        exact Y₆.weak sub fun p hp => hp
      · exact IO.walks.frame _ _ _ stn fun b hb o e => (hs₅.2 b (lowfp b hb)).trans e
    · obtain rfl : i = n := Nat.le_antisymm hi hge
      refine IO.walks.done s' _ _ st fun h' tk hk => ?_
      have Y' := Y.iter2 (tk := tk) IO.fresh X.lt451 (IO.stw _ _ st) h0w hpn hk
      obtain ⟨m, hn⟩ := Y'.ok.ns
      exact fin _ _ _ m Y' hn big (by rw [hC]; exact Nat.le_succ_of_le big) hDC
  exact codeAny_compStart_list (loop _ rfl) (IO.walks.self 0 _ _ _ hst₁ (loop _ rfl))
end
end Mine
end
section
set_option maxRecDepth 100000
namespace Mine
open PySem PySem.Float64 PySem.W PySem.Calls PyProof.Rows
noncomputable abbrev IsTrip (h : Heap) (t : Addr) (a b c : Value) : Prop := h.get? t = some { cls := .type "tuple", data := .seq #[a, b, c] }
theorem all4 {α : Type} {Φ : α → Prop} {a b c d : α} (h1 : Φ a) (h2 : Φ b) (h3 : Φ c) (h4 : Φ d) : ∀ x ∈ [a, b, c, d], Φ x := fun x hx => by
  rcases List.mem_cons.mp hx with rfl | hx
  · exact h1
  rcases List.mem_cons.mp hx with rfl | hx
  · exact h2
  rcases List.mem_cons.mp hx with rfl | hx
  · exact h3
  rw [List.mem_singleton.mp hx]; exact h4
theorem all5 {α : Type} {Φ : α → Prop} {a b c d e : α} (h0 : Φ a) (h1 : Φ b) (h2 : Φ c) (h3 : Φ d) (h4 : Φ e) : ∀ x ∈ [a, b, c, d, e], Φ x := fun x hx => by
  rcases List.mem_cons.mp hx with rfl | hx
  · exact h0
  exact all4 h1 h2 h3 h4 x hx
theorem all7 {α : Type} {Φ : α → Prop} {a b c d e f g : α} (k0 : Φ a) (k1 : Φ b) (h0 : Φ c) (h1 : Φ d) (h2 : Φ e) (h3 : Φ f) (h4 : Φ g) : ∀ x ∈ [a, b, c, d, e, f, g], Φ x := fun x hx => by
  rcases List.mem_cons.mp hx with rfl | hx
  · exact k0
  rcases List.mem_cons.mp hx with rfl | hx
  · exact k1
  exact all5 h0 h1 h2 h3 h4 x hx
theorem all9 {α : Type} {Φ : α → Prop} {a b c d e f g i j : α} (m0 : Φ a) (m1 : Φ b) (k0 : Φ c) (k1 : Φ d) (h0 : Φ e) (h1 : Φ f) (h2 : Φ g) (h3 : Φ i) (h4 : Φ j) : ∀ x ∈ [a, b, c, d, e, f, g, i, j], Φ x := fun x hx => by
  rcases List.mem_cons.mp hx with rfl | hx
  · exact m0
  rcases List.mem_cons.mp hx with rfl | hx
  · exact m1
  exact all7 k0 k1 h0 h1 h2 h3 h4 x hx
theorem mi' {α : Type} {l : List α} {a c : α} (x : c = a) (i : Nat) (h : l[i]? = some a) : c ∈ l := x ▸ mi i h
structure Zip3Apart (z TI TO i1 i2 i3 l1 l2 l3 : Addr) : Prop where
  TIz : TI ≠ z
  TOz : TO ≠ z
  i1z : i1 ≠ z
  i2z : i2 ≠ z
  i3z : i3 ≠ z
  TITO : TI ≠ TO
  TIi1 : TI ≠ i1
  TIi2 : TI ≠ i2
  TIi3 : TI ≠ i3
  TOi1 : TO ≠ i1
  TOi2 : TO ≠ i2
  TOi3 : TO ≠ i3
  i12 : i1 ≠ i2
  i13 : i1 ≠ i3
  i23 : i2 ≠ i3
  l1z : l1 ≠ z
  l1TO : l1 ≠ TO
  l1i1 : l1 ≠ i1
  l1i2 : l1 ≠ i2
  l1i3 : l1 ≠ i3
  l2z : l2 ≠ z
  l2TO : l2 ≠ TO
  l2i1 : l2 ≠ i1
  l2i2 : l2 ≠ i2
  l2i3 : l2 ≠ i3
  l3z : l3 ≠ z
  l3TO : l3 ≠ TO
  l3i1 : l3 ≠ i1
  l3i2 : l3 ≠ i2
  l3i3 : l3 ≠ i3
section
variable {prog : Program} {w : World} {A : Around} {E : Value → Shared → Prop} {s : Shared}

theorem updateSeq_trip {t : Addr} {a b c x : Value} {k : Nat} {Q : Unit → Shared → Prop} (hT : IsTrip s.heap t a b c)
    (h : ∀ h', h'.get? t = some { cls := .type "tuple", data := .seq ((#[a, b, c] : Array Value).setIfInBounds k x) } → Heap.SameBut t s.heap h' → Q () { s with heap := h' }) :
    wpAny (model prog w) A (updateSeq t (·.setIfInBounds k x)) Q E s := by
  refine wpAny_updateSeq hT rfl (h _ ?_ (Heap.SameBut.update ..))
  rw [Heap.get?_update_self _ hT rfl]
  simp [Obj.mapSeq]

theorem zip3_next_item {z TI TO i1 i2 i3 l1 l2 l3 : Addr} {k : Nat} {xs ys zs : Array Value} {x y u a b c : Value} {Q : Value → Shared → Prop} (D : Zip3Apart z TI TO i1 i2 i3 l1 l2 l3)
    (hz : IsZip s.heap z TI TO .none) (hTI : IsTrip s.heap TI (.ref i1) (.ref i2) (.ref i3)) (hTO : IsTrip s.heap TO a b c)
    (h1 : s.heap.IsListIter i1 l1 k) (h2 : s.heap.IsListIter i2 l2 k) (h3 : s.heap.IsListIter i3 l3 k) (hl1 : s.heap.IsList l1 xs) (hl2 : s.heap.IsList l2 ys) (hl3 : s.heap.IsList l3 zs) (hx : xs[k]? = some x) (hy : ys[k]? = some y) (hu : zs[k]? = some u)
    (hQ : ∀ h', IsZip h' z TI TO (rawInt s.heap.objs.size) → IsTrip h' TO x y u → h'.IsListIter i1 l1 (k + 1) → h'.IsListIter i2 l2 (k + 1) → h'.IsListIter i3 l3 (k + 1) → IsTrip h' s.heap.objs.size x y u → h'.objs.size = s.heap.objs.size + 1 →
      (∀ c o, c ≠ z → c ≠ TO → c ≠ i1 → c ≠ i2 → c ≠ i3 → s.heap.get? c = some o → h'.get? c = some o) → Q (.ref s.heap.objs.size) { s with heap := h' }) :
    wpAny (model prog w) A (Builtin.«zip.__next__» ⟨[.ref z], []⟩) (fun fin s' => ∃ v, fin = .done (.ret v) ∧ Q v s') E s := by
  show wpAny _ _ (field (.ref z) 2 >>= _) _ _ _
  refine wpAny_bind (wpAny_field hz rfl (x := .bool false) rfl ?_)
  show wpAny _ _ (field (.ref z) 3 >>= _) _ _ _
  refine wpAny_bind (wpAny_field hz rfl (x := .ref TI) rfl ?_)
  refine wpAny_bind (wpAny_seqItems hTI rfl ?_)
  show wpAny _ _ (Builtin.SmallTypes.ownedTupleIsFree (.ref z) >>= _) _ _ _
  refine wpAny_bind ?_
  unfold Builtin.SmallTypes.ownedTupleIsFree
  refine wpAny_bind (wpAny_field hz rfl (x := .none) rfl (wpAny_pure ?_))
  simp only [if_true]
  refine wpAny_bind (wpAny_rule ?_)
  refine wpAny_bind (wpAny_field hz rfl (x := .ref TO) rfl ?_)
  refine wpAny_bind (wpAny_setField_rec hz (by simp) fun h₁ hz₁ hs₁ => ?_)
  replace hz₁ : IsZip h₁ z TI TO .ellipsis := hz₁
  refine wpAny_bind ?_
  simp only [List.zipIdx_cons, List.zipIdx_nil, List.forIn_cons, List.forIn_nil]

  refine wpAny_bind (wpAny_bind (wpAny_onRaise ?_))
  show wpAny _ _ (Builtin.SmallTypes.nextOf (.ref i1) >>= _) _ _ _
  refine wpAny_bind (wpAny_nextOf_list_item (h1.extBut hs₁.extBut D.i1z) (hl1.extBut hs₁.extBut D.l1z) hx fun h₂ h1₂ hs₂ => wpAny_pure ?_)
  have hTO₂ : IsTrip h₂ TO a b c := hs₂.extBut _ _ D.TOi1 (hs₁.extBut _ _ D.TOz hTO)
  refine wpAny_bind (wpAny_seqItems hTO₂ rfl ?_)
  refine wpAny_bind (updateSeq_trip hTO₂ fun h₃ hTO₃ hs₃ => ?_)
  replace hTO₃ : IsTrip h₃ TO x b c := hTO₃
  refine wpAny_bind (wpAny_letGo (wpAny_pure ?_))

  refine wpAny_bind (wpAny_bind (wpAny_onRaise ?_))
  show wpAny _ _ (Builtin.SmallTypes.nextOf (.ref i2) >>= _) _ _ _
  refine wpAny_bind (wpAny_nextOf_list_item (((h2.extBut hs₁.extBut D.i2z).extBut hs₂.extBut D.i12.symm).extBut hs₃.extBut D.TOi2.symm)
    (((hl2.extBut hs₁.extBut D.l2z).extBut hs₂.extBut D.l2i1).extBut hs₃.extBut D.l2TO) hy fun h₄ h2₄ hs₄ => wpAny_pure ?_)
  have hTO₄ : IsTrip h₄ TO x b c := hs₄.extBut _ _ D.TOi2 hTO₃
  refine wpAny_bind (wpAny_seqItems hTO₄ rfl ?_)
  refine wpAny_bind (updateSeq_trip hTO₄ fun h₅ hTO₅ hs₅ => ?_)
  replace hTO₅ : IsTrip h₅ TO x y c := hTO₅
  refine wpAny_bind (wpAny_letGo (wpAny_pure ?_))

  have e5 : ∀ d o, d ≠ z → d ≠ i1 → d ≠ TO → d ≠ i2 → s.heap.get? d = some o → h₅.get? d = some o := fun d o c1 c2 c3 c4 e =>
    hs₅.extBut _ _ c3 (hs₄.extBut _ _ c4 (hs₃.extBut _ _ c3 (hs₂.extBut _ _ c2 (hs₁.extBut _ _ c1 e))))
  refine wpAny_bind (wpAny_bind (wpAny_onRaise ?_))
  show wpAny _ _ (Builtin.SmallTypes.nextOf (.ref i3) >>= _) _ _ _
  refine wpAny_bind (wpAny_nextOf_list_item (h3.at fun o e => e5 _ o D.i3z D.i13.symm D.TOi3.symm D.i23.symm e)
    (hl3.at fun o e => e5 _ o D.l3z D.l3i1 D.l3TO D.l3i2 e) hu fun h₆ h3₆ hs₆ => wpAny_pure ?_)
  have hTO₆ : IsTrip h₆ TO x y c := hs₆.extBut _ _ D.TOi3 hTO₅
  refine wpAny_bind (wpAny_seqItems hTO₆ rfl ?_)
  refine wpAny_bind (updateSeq_trip hTO₆ fun h₇ hTO₇ hs₇ => ?_)
  replace hTO₇ : IsTrip h₇ TO x y u := hTO₇
  refine wpAny_bind (wpAny_letGo (wpAny_pure (wpAny_pure ?_)))

  refine wpAny_bind (wpAny_seqItems hTO₇ rfl ?_)
  refine wpAny_bind (wpAny_newTuple ?_)
  have hsz : h₇.objs.size = s.heap.objs.size := by rw [hs₇.1, hs₆.1, hs₅.1, hs₄.1, hs₃.1, hs₂.1, hs₁.1]
  have e7 : ∀ d o, d ≠ TO → d ≠ i3 → h₅.get? d = some o → h₇.get? d = some o := fun d o c1 c2 e => hs₇.extBut _ _ c1 (hs₆.extBut _ _ c2 e)
  have hz₇ : IsZip h₇ z TI TO .ellipsis := e7 _ _ D.TOz.symm D.i3z.symm (hs₅.extBut _ _ D.TOz.symm (hs₄.extBut _ _ D.i2z.symm (hs₃.extBut _ _ D.TOz.symm (hs₂.extBut _ _ D.i1z.symm hz₁))))
  have hk₇ : ∀ d o, d ≠ z → d ≠ TO → d ≠ i1 → d ≠ i2 → d ≠ i3 → s.heap.get? d = some o → h₇.get? d = some o := fun d o c1 c2 c3 c4 c5 e =>
    e7 d o c2 c5 (e5 d o c1 c3 c2 c4 e)
  have h1₇ : h₇.IsListIter i1 l1 (k + 1) := (((h1₂.extBut hs₃.extBut D.TOi1.symm).extBut hs₄.extBut D.i12).extBut hs₅.extBut D.TOi1.symm).at fun o e => e7 _ o D.TOi1.symm D.i13 e
  have h2₇ : h₇.IsListIter i2 l2 (k + 1) := (h2₄.extBut hs₅.extBut D.TOi2.symm).at fun o e => e7 _ o D.TOi2.symm D.i23 e
  have h3₇ : h₇.IsListIter i3 l3 (k + 1) := h3₆.extBut hs₇.extBut D.TOi3.symm
  have hzlt : z < h₇.objs.size := Heap.lt_size hz₇
  show wpAny _ _ (Builtin.SmallTypes.ownedTupleHandOut (.ref z) (.ref h₇.objs.size) >>= _) _ _ _
  refine wpAny_bind ?_
  unfold Builtin.SmallTypes.ownedTupleHandOut
  have hz₆ : IsZip (h₇.push { cls := .type "tuple", data := .seq #[x, y, u] }) z TI TO .ellipsis := Heap.get?_push_of_some _ hz₇
  refine wpAny_bind (wpAny_setField_rec hz₆ (by simp) fun h₈ hz₈ hs₈ => ?_)
  replace hz₈ : IsZip h₈ z TI TO (rawInt h₇.objs.size) := hz₈
  refine wpAny_setField_rec hz₈ (by simp) fun h₉ hz₉ hs₉ => ?_
  replace hz₉ : IsZip h₉ z TI TO (rawInt h₇.objs.size) := hz₉
  have up : ∀ c o, c ≠ z → h₇.get? c = some o → h₉.get? c = some o := fun c o c1 e => hs₉.extBut _ _ c1 (hs₈.extBut _ _ c1 (Heap.get?_push_of_some _ e))
  have hT₉ : IsTrip h₉ h₇.objs.size x y u := hs₉.extBut _ _ (Nat.ne_of_gt hzlt) (hs₈.extBut _ _ (Nat.ne_of_gt hzlt) (Heap.get?_push_size _ rfl))
  have hz9 : h₉.objs.size = h₇.objs.size + 1 := by rw [hs₉.1, hs₈.1, Heap.size_push]
  rw [hsz] at hz₉ hT₉ hz9
  refine wpAny_pure ⟨_, rfl, ?_⟩
  show Q (.ref h₇.objs.size) _
  rw [hsz]
  exact hQ h₉ hz₉ (up _ _ D.TOz hTO₇) (h1₇.at fun o e => up _ o D.i1z e) (h2₇.at fun o e => up _ o D.i2z e) (h3₇.at fun o e => up _ o D.i3z e) hT₉ hz9 fun c o c1 c2 c3 c4 c5 e => up c o c1 (hk₇ c o c1 c2 c3 c4 c5 e)

theorem zip3_next_end {z TI TO i1 i2 i3 l1 l2 l3 : Addr} {k : Nat} {xs : Array Value} {Q : Fin → Shared → Prop} (hh : A.handled = none) (D : Zip3Apart z TI TO i1 i2 i3 l1 l2 l3)
    (hz : IsZip s.heap z TI TO .none) (hTI : IsTrip s.heap TI (.ref i1) (.ref i2) (.ref i3))
    (h1 : s.heap.IsListIter i1 l1 k) (hl1 : s.heap.IsList l1 xs) (hx : xs[k]? = none)
    (hE : ∀ h' e, (∀ c o, c ≠ z → c ≠ i1 → s.heap.get? c = some o → h'.get? c = some o) → (∃ o, h'.get? e = some o ∧ o.cls = .type "StopIteration") → E (.ref e) { s with heap := h' }) :
    wpAny (model prog w) A (Builtin.«zip.__next__» ⟨[.ref z], []⟩) Q E s := by
  show wpAny _ _ (field (.ref z) 2 >>= _) _ _ _
  refine wpAny_bind (wpAny_field hz rfl (x := .bool false) rfl ?_)
  show wpAny _ _ (field (.ref z) 3 >>= _) _ _ _
  refine wpAny_bind (wpAny_field hz rfl (x := .ref TI) rfl ?_)
  refine wpAny_bind (wpAny_seqItems hTI rfl ?_)
  show wpAny _ _ (Builtin.SmallTypes.ownedTupleIsFree (.ref z) >>= _) _ _ _
  refine wpAny_bind ?_
  unfold Builtin.SmallTypes.ownedTupleIsFree
  refine wpAny_bind (wpAny_field hz rfl (x := .none) rfl (wpAny_pure ?_))
  simp only [if_true]
  refine wpAny_bind (wpAny_rule ?_)
  refine wpAny_bind (wpAny_field hz rfl (x := .ref TO) rfl ?_)
  refine wpAny_bind (wpAny_setField_rec hz (by simp) fun h₁ hz₁ hs₁ => ?_)
  replace hz₁ : IsZip h₁ z TI TO .ellipsis := hz₁
  refine wpAny_bind ?_
  simp only [List.zipIdx_cons, List.zipIdx_nil, List.forIn_cons, List.forIn_nil]
  refine wpAny_bind (wpAny_bind (wpAny_onRaise ?_))
  show wpAny _ _ (Builtin.SmallTypes.nextOf (.ref i1) >>= _) _ _ _
  refine wpAny_bind (wpAny_nextOf_list_end hh (h1.extBut hs₁.extBut D.i1z) (hl1.extBut hs₁.extBut D.l1z) hx fun h₂ e hs₂ he => ?_)
  obtain ⟨oe, hoe, hce⟩ := he
  have hz₂ : IsZip h₂ z TI TO .ellipsis := hs₂ _ _ D.i1z.symm hz₁
  have hez : e ≠ z := fun x => by subst x; rw [hz₂] at hoe; cases hoe; simp at hce
  refine wpAny_setField_rec hz₂ (by simp) fun h₃ _ hs₃ => hE h₃ e (fun c o c1 c3 x => hs₃.extBut _ _ c1 (hs₂ _ _ c3 (hs₁.extBut _ _ c1 x))) ⟨oe, hs₃.extBut _ _ hez hoe, hce⟩

theorem walks_zip3 (hh : A.handled = none) (z TI TO i1 i2 i3 l1 l2 l3 : Addr) (D : Zip3Apart z TI TO i1 i2 i3 l1 l2 l3) (n : Nat) (xs ys zs : Array Value) (h1 : xs.size = n) (h2 : ys.size = n) (h3 : zs.size = n) :
    WalksT prog w A z [z, TI, TO, i1, i2, i3, l1, l2, l3] [z, TO, i1, i2, i3] n
      (fun i vals => ∃ x y u, xs[i]? = some x ∧ ys[i]? = some y ∧ zs[i]? = some u ∧ vals = #[x, y, u])
      (fun i h => IsZip h z TI TO .none ∧ IsTrip h TI (.ref i1) (.ref i2) (.ref i3) ∧ (∃ a b c, IsTrip h TO a b c) ∧ h.IsListIter i1 l1 i ∧ h.IsListIter i2 l2 i ∧ h.IsListIter i3 l3 i ∧ h.IsList l1 xs ∧ h.IsList l2 ys ∧ h.IsList l3 zs)
      (fun i T h => IsZip h z TI TO (rawInt T) ∧ IsTrip h TI (.ref i1) (.ref i2) (.ref i3) ∧ (∃ a b c, IsTrip h TO a b c) ∧ h.IsListIter i1 l1 (i + 1) ∧ h.IsListIter i2 l2 (i + 1) ∧ h.IsListIter i3 l3 (i + 1) ∧ h.IsList l1 xs ∧ h.IsList l2 ys ∧ h.IsList l3 zs ∧
        T ≠ z ∧ T ≠ TO ∧ T ≠ i1 ∧ T ≠ i2 ∧ T ≠ i3) where
  sub := all5 (mi 0 rfl) (mi 2 rfl) (mi 3 rfl) (mi 4 rfl) (mi 5 rfl)
  frame := fun i h h' hst hk => by
    obtain ⟨hz, hTI, ⟨a, b, c, hTO⟩, h1, h2, h3, hl1, hl2, hl3⟩ := hst
    exact ⟨hk z (mi 0 rfl) _ hz, hk TI (mi 1 rfl) _ hTI, ⟨a, b, c, hk TO (mi 2 rfl) _ hTO⟩, h1.at fun o e => hk i1 (mi 3 rfl) o e, h2.at fun o e => hk i2 (mi 4 rfl) o e, h3.at fun o e => hk i3 (mi 5 rfl) o e,
      hl1.at fun o e => hk l1 (mi 6 rfl) o e, hl2.at fun o e => hk l2 (mi 7 rfl) o e, hl3.at fun o e => hk l3 (mi 8 rfl) o e⟩
  item := fun i s Q E hi hst hQ => by
    obtain ⟨hz, hTI, ⟨a, b, c, hTO⟩, g1, g2, g3, hl1, hl2, hl3⟩ := hst
    have hix : i < xs.size := h1 ▸ hi
    have hiy : i < ys.size := h2 ▸ hi
    have hiz : i < zs.size := h3 ▸ hi
    have hT : s.TypeIs (.ref z) "zip" := ⟨_, hz, rfl⟩
    unfold pyNext
    refine wpAny_bind (wpAny_attempt (wpAny_callSpecial?_slot (name := Str.ofString "__next__") hT F.slot_zip_next
      (wpAny_call_entry F.slot_zip_next hT F.entry_zip_next
        (zip3_next_item D hz hTI hTO g1 g2 g3 hl1 hl2 hl3 (Array.getElem?_eq_getElem hix) (Array.getElem?_eq_getElem hiy) (Array.getElem?_eq_getElem hiz) fun h' a1 a2 a3 a4 a4' a5 a6 hk => wpAny_pure ?_) (F.args_zip_next_1 _))))
    have lt : ∀ {c o}, s.heap.get? c = some o → s.heap.objs.size ≠ c := fun e => Nat.ne_of_gt (Heap.lt_size e)
    exact hQ s.heap.objs.size #[xs[i], ys[i], zs[i]] h' s.toks ⟨_, _, _, Array.getElem?_eq_getElem hix, Array.getElem?_eq_getElem hiy, Array.getElem?_eq_getElem hiz, rfl⟩ (Nat.le_refl _) ⟨_, a5, rfl, _, rfl⟩
      ⟨a1, hk _ _ D.TIz D.TITO D.TIi1 D.TIi2 D.TIi3 hTI, ⟨_, _, _, a2⟩, a3, a4, a4', hl1.at fun o e => hk _ o D.l1z D.l1TO D.l1i1 D.l1i2 D.l1i3 e, hl2.at fun o e => hk _ o D.l2z D.l2TO D.l2i1 D.l2i2 D.l2i3 e, hl3.at fun o e => hk _ o D.l3z D.l3TO D.l3i1 D.l3i2 D.l3i3 e,
        lt hz, lt hTO, (by obtain ⟨_, e, _⟩ := g1; exact lt e), (by obtain ⟨_, e, _⟩ := g2; exact lt e), (by obtain ⟨_, e, _⟩ := g3; exact lt e)⟩
      fun c o hc e => hk c o (fun x => hc (mi' x 0 rfl)) (fun x => hc (mi' x 1 rfl)) (fun x => hc (mi' x 2 rfl)) (fun x => hc (mi' x 3 rfl)) (fun x => hc (mi' x 4 rfl)) e
  go := fun elts k pos i T s Q E hm hQ => by
    obtain ⟨hz, hTI, ⟨a, b, c, hTO⟩, h1, h2, h3, hl1, hl2, hl3, _⟩ := hm
    refine wpAny_letOwnedTupleGo_zip hz fun h' hz' hs' => hQ h' ⟨hz', hs'.extBut _ _ D.TIz hTI, ⟨a, b, c, hs'.extBut _ _ D.TOz hTO⟩, h1.extBut hs'.extBut D.i1z, h2.extBut hs'.extBut D.i2z, h3.extBut hs'.extBut D.i3z,
      hl1.extBut hs'.extBut D.l1z, hl2.extBut hs'.extBut D.l2z, hl3.extBut hs'.extBut D.l3z⟩ fun c o hc e => hs'.extBut _ _ (fun x => hc (mi' x 0 rfl)) e
  apart := fun i T h hm hT => by
    obtain ⟨_, _, _, _, _, _, _, _, _, t1, t2, t3, t4, t5⟩ := hm
    exact all5 (Φ := fun b => T ≠ b) t1 t2 t3 t4 t5 T hT rfl
  done := fun s Q E hst hQ => by
    obtain ⟨hz, hTI, ⟨a, b, c, hTO⟩, g1, g2, g3, hl1, hl2, hl3⟩ := hst
    have hT : s.TypeIs (.ref z) "zip" := ⟨_, hz, rfl⟩
    unfold pyNext
    refine wpAny_bind (wpAny_attempt (wpAny_callSpecial?_slot (name := Str.ofString "__next__") hT F.slot_zip_next
      (wpAny_call_entry F.slot_zip_next hT F.entry_zip_next (zip3_next_end hh D hz hTI g1 hl1 (Array.getElem?_eq_none (Nat.le_of_eq h1)) fun h' e hk he => ?_) (F.args_zip_next_1 _))))
    obtain ⟨o, ho, hc⟩ := he
    refine wpAny_bind (wpAny_isInstance (T := "StopIteration") (b := true) ⟨o, ho, hc⟩ isSubtype_stop ?_)
    exact wpAny_pure (hQ _ s.toks fun c o hc e => hk c o (fun x => hc (mi' x 0 rfl)) (fun x => hc (mi' x 2 rfl)) e)
  self := fun i s Q E hst hQ => wpAny_pyIter_zip hst.1 hQ
end
end Mine
end
section
set_option maxRecDepth 100000
namespace Mine
open PySem PySem.Float64 PySem.W PySem.Calls PyProof.Rows
namespace Z3
noncomputable abbrev H1 (h : Heap) (l1 : Addr) : Heap := h.push { cls := .type "list_iterator", data := .fields #[.ref l1, .int 0 0] }
noncomputable abbrev H2 (h : Heap) (l1 l2 : Addr) : Heap := (H1 h l1).push { cls := .type "list_iterator", data := .fields #[.ref l2, .int 0 0] }
noncomputable abbrev H3 (h : Heap) (l1 l2 l3 : Addr) : Heap := (H2 h l1 l2).push { cls := .type "list_iterator", data := .fields #[.ref l3, .int 0 0] }
noncomputable abbrev H4 (h : Heap) (l1 l2 l3 : Addr) : Heap := (H3 h l1 l2 l3).push { cls := .type "tuple", data := .seq #[.ref h.objs.size, .ref (H1 h l1).objs.size, .ref (H2 h l1 l2).objs.size] }
noncomputable abbrev H5 (h : Heap) (l1 l2 l3 : Addr) : Heap := (H4 h l1 l2 l3).push { cls := .type "tuple", data := .seq #[.none, .none, .none] }
noncomputable abbrev H6 (h : Heap) (l1 l2 l3 : Addr) : Heap := (H5 h l1 l2 l3).push { cls := .type "zip", data := .fields #[.none, .bool false, .bool false, .ref (H3 h l1 l2 l3).objs.size, .ref (H4 h l1 l2 l3).objs.size] }
end Z3
theorem typeCall_zip_3 (a b c : Value) : checkTypeCall "zip" ⟨[a, b, c], []⟩ = pure () := by kernel_rfl
theorem newCall_zip_3 (a b c : Value) : checkBuiltinCall "zip.__new__" ⟨[.type "zip", a, b, c], []⟩ = pure () := by kernel_rfl
theorem args_object_init_4 (a b c d : Value) : argsOk "object.__init__" ⟨[a, b, c, d], []⟩ := by
  unfold argsOk; rw [signature?_of (id := "object.__init__") (n := ['_', '_', 't', 'i', 'n', 'i', '_', '_']) (o := ['t', 'c', 'e', 'j', 'b', 'o']) (by kernel_rfl) F.owner_object]; kernel_rfl
theorem meets_zip3_new (l1 l2 l3 : Addr) (xs ys zs : Array Value) :
    Meets (Builtin.«zip.__new__» ⟨[.type "zip", .ref l1, .ref l2, .ref l3], []⟩) (fun _ R s => s.heap.IsList l1 xs ∧ s.heap.IsList l2 ys ∧ s.heap.IsList l3 zs ∧
      R (.ok (.ret (.ref (Z3.H5 s.heap l1 l2 l3).objs.size))) { s with heap := Z3.H6 s.heap l1 l2 l3 }) :=
  .of_wp fun prog w A R s h => by
    obtain ⟨hl1, hl2, hl3, h⟩ := h
    show wpAny _ _ (Builtin.SmallTypes.newClass "zip" _ >>= _) _ _ _
    refine wpAny_bind (wpAny_of_eq (a := (.type "zip", [.ref l1, .ref l2, .ref l3])) ?_ ?_)
    · unfold Builtin.SmallTypes.newClass
      dsimp only
      rw [show isType (.type "zip") = pure true from rfl, sub_zip]
      rfl
    · dsimp only
      first | refine wpAny_ite_false (by decide) ?_ | rw [if_neg (by decide)]
      show wpAny _ _ (Builtin.SmallTypes.iterAll [.ref l1, .ref l2, .ref l3] >>= _) _ _ _
      refine wpAny_bind ?_
      unfold Builtin.SmallTypes.iterAll
      simp only [List.forIn_cons, List.forIn_nil]
      refine wpAny_bind (wpAny_bind (wpAny_bind (wpAny_holding (wpAny_pyIter_list hl1 ?_))))
      refine wpAny_pure (wpAny_bind (wpAny_bind (wpAny_holding (wpAny_pyIter_list (hl2.push _) ?_))))
      refine wpAny_pure (wpAny_bind (wpAny_bind (wpAny_holding (wpAny_pyIter_list ((hl3.push _).push _) ?_))))
      refine wpAny_pure (wpAny_pure (wpAny_pure ?_))
      have e3 : (3 : Nat) ≤ sizeLine := by decide
      refine wpAny_bind (wpAny_newTuple (hsz := e3) ?_)
      refine wpAny_bind (wpAny_newTuple (hsz := e3) ?_)
      have hR : ∀ vs, Builtin.SmallTypes.newRecord (.type "zip") vs = newObj (.type "zip") (.fields vs.toArray) := fun _ => rfl
      rw [hR]
      refine wpAny_bind (wpAny_newObj_type ?_ (show (5 : Nat) ≤ sizeLine + 2 by decide))
      exact wpAny_pure ⟨_, rfl, h⟩
section
variable {prog : Program} {w : World} {A : Around} {E : Value → Shared → Prop} {s : Shared}
theorem call_zip_3 {l1 l2 l3 : Addr} {xs ys zs : Array Value} {Q : Value → Shared → Prop} (hl1 : s.heap.IsList l1 xs) (hl2 : s.heap.IsList l2 ys) (hl3 : s.heap.IsList l3 zs)
    (h : ∀ h', IsZip h' (s.heap.objs.size + 5) (s.heap.objs.size + 3) (s.heap.objs.size + 4) .none → IsTrip h' (s.heap.objs.size + 3) (.ref s.heap.objs.size) (.ref (s.heap.objs.size + 1)) (.ref (s.heap.objs.size + 2)) →
      IsTrip h' (s.heap.objs.size + 4) .none .none .none → h'.IsListIter s.heap.objs.size l1 0 → h'.IsListIter (s.heap.objs.size + 1) l2 0 → h'.IsListIter (s.heap.objs.size + 2) l3 0 → h'.objs.size = s.heap.objs.size + 6 →
      (∀ c o, s.heap.get? c = some o → h'.get? c = some o) → Q (.ref (s.heap.objs.size + 5)) { s with heap := h' }) :
    wpAny (model prog w) A (call (.type "zip") [.ref l1, .ref l2, .ref l3]) Q E s := by
  refine callType_new F.called_zip (by decide) (typeCall_zip_3 _ _ _) (newCall_zip_3 _ _ _) (fun obj => args_object_init_4 obj _ _ _) F.entry_zip_new
    (meets_zip3_new l1 l2 l3 xs ys zs) ⟨hl1, hl2, hl3, ?_⟩
  have z1 : (Z3.H1 s.heap l1).objs.size = s.heap.objs.size + 1 := Heap.size_push ..
  have z2 : (Z3.H2 s.heap l1 l2).objs.size = s.heap.objs.size + 2 := by rw [Heap.size_push, z1]
  have z3 : (Z3.H3 s.heap l1 l2 l3).objs.size = s.heap.objs.size + 3 := by rw [Heap.size_push, z2]
  have z4 : (Z3.H4 s.heap l1 l2 l3).objs.size = s.heap.objs.size + 4 := by rw [Heap.size_push, z3]
  have z5 : (Z3.H5 s.heap l1 l2 l3).objs.size = s.heap.objs.size + 5 := by rw [Heap.size_push, z4]
  have z6 : (Z3.H6 s.heap l1 l2 l3).objs.size = s.heap.objs.size + 6 := by rw [Heap.size_push, z5]
  have g6 : (Z3.H6 s.heap l1 l2 l3).get? (Z3.H5 s.heap l1 l2 l3).objs.size = some _ := Heap.get?_push_size _ rfl
  have g5 : (Z3.H6 s.heap l1 l2 l3).get? (Z3.H4 s.heap l1 l2 l3).objs.size = some _ := Heap.get?_push_of_some _ (Heap.get?_push_size _ rfl)
  have g4 : (Z3.H6 s.heap l1 l2 l3).get? (Z3.H3 s.heap l1 l2 l3).objs.size = some _ := Heap.get?_push_of_some _ (Heap.get?_push_of_some _ (Heap.get?_push_size _ rfl))
  have g3 : (Z3.H6 s.heap l1 l2 l3).get? (Z3.H2 s.heap l1 l2).objs.size = some _ := Heap.get?_push_of_some _ (Heap.get?_push_of_some _ (Heap.get?_push_of_some _ (Heap.get?_push_size _ rfl)))
  have g2 : (Z3.H6 s.heap l1 l2 l3).get? (Z3.H1 s.heap l1).objs.size = some _ := Heap.get?_push_of_some _ (Heap.get?_push_of_some _ (Heap.get?_push_of_some _ (Heap.get?_push_of_some _ (Heap.get?_push_size _ rfl))))
  have g1 : (Z3.H6 s.heap l1 l2 l3).get? s.heap.objs.size = some _ := Heap.get?_push_of_some _ (Heap.get?_push_of_some _ (Heap.get?_push_of_some _ (Heap.get?_push_of_some _ (Heap.get?_push_of_some _ (Heap.get?_push_size _ rfl)))))
  show _ ∧ _
  rw [z3, z4, z5] at g6
  rw [z1, z2, z3] at g4
  rw [z4] at g5
  rw [z2] at g3
  rw [z1] at g2
  rw [z5]
  exact ⟨⟨_, g6, rfl⟩, h _ g6 g4 g5 ⟨_, g1, rfl, rfl⟩ ⟨_, g2, rfl, rfl⟩ ⟨_, g3, rfl, rfl⟩ z6 fun c o x =>
    Heap.get?_push_of_some _ (Heap.get?_push_of_some _ (Heap.get?_push_of_some _ (Heap.get?_push_of_some _ (Heap.get?_push_of_some _ (Heap.get?_push_of_some _ x)))))⟩
end
end Mine
end
section
set_option maxRecDepth 100000
namespace Mine
open PySem PySem.Float64 PySem.W PySem.Calls PyProof.Rows
theorem zipApart_new (n a b : Nat) (ha : a < n) (hb : b < n) : ZipApart (n + 4) (n + 2) (n + 3) n (n + 1) a b := by
  constructor <;> intro q <;> (simp only [Addr] at *) <;> omega
theorem zip3Apart_new (n a b c : Nat) (ha : a < n) (hb : b < n) (hc : c < n) : Zip3Apart (n + 5) (n + 3) (n + 4) n (n + 1) (n + 2) a b c := by
  constructor <;> intro q <;> (simp only [Addr] at *) <;> omega
theorem lasts_iter {h : Heap} {i l : Addr} {k : Nat} (z : h.IsListIter i l k) : ∃ o, h.get? i = some o ∧ Lasting o = true ∧ o.cls ≠ .type "list" := by
  obtain ⟨o, ho, hc, hd⟩ := z
  exact ⟨o, ho, by unfold Lasting; rw [hd], by rw [hc]; simp⟩
theorem lasts_iter' {h : Heap} {i l : Addr} {k : Nat} (z : h.IsListIter i l k) : ∃ o, h.get? i = some o ∧ Lasting o = true := let ⟨o, a, b, _⟩ := lasts_iter z; ⟨o, a, b⟩
theorem lasts_list {h : Heap} {a : Addr} {it : Array Value} (z : h.IsList a it) : ∃ o, h.get? a = some o ∧ Lasting o = true := by
  obtain ⟨o, ho, _, _, hd⟩ := z
  exact ⟨o, ho, by unfold Lasting; rw [hd]⟩
theorem below7 (n a b : Nat) (ha : a < n) (hb : b < n) : ∀ d ∈ [n + 4, n + 2, n + 3, n, n + 1, a, b], d < n + 5 := all7 (by omega) (by omega) (by omega) (by omega) (by omega) (by omega) (by omega)
theorem below9 (n a b c : Nat) (ha : a < n) (hb : b < n) (hc : c < n) : ∀ d ∈ [n + 5, n + 3, n + 4, n, n + 1, n + 2, a, b, c], d < n + 6 := all9 (by omega) (by omega) (by omega) (by omega) (by omega) (by omega) (by omega) (by omega) (by omega)
theorem new4 (n : Nat) : ∀ d ∈ [n + 4, n + 3, n, n + 1], n ≤ d := all4 (by omega) (by omega) (by omega) (by omega)
theorem new5 (n : Nat) : ∀ d ∈ [n + 5, n + 4, n, n + 1, n + 2], n ≤ d := all5 (by omega) (by omega) (by omega) (by omega) (by omega)
section
variable {prog : Program} {w : World} {A : Around} {E : Value → Shared → Prop} {s : Shared} {env : Env} {P : List Addr} {T : Heap → Prop} {h0 : Heap} {g0 : Array GenState} {o0 : OsState} {ρ ρc : List (Str × AV)} {ls : List (Addr × HV)} {mg mb : Str → Option Value}

theorem walksT_rep {n : Nat} {I : Addr} {fp wr : List Addr} {Pv Pv' : Nat → Array Value → Prop} {St : Nat → Heap → Prop} {Mid : Nat → Addr → Heap → Prop} (W : WalksT prog w A I fp wr n Pv St Mid) (h : ∀ i v, i < n → Pv i v → Pv' i v) : WalksT prog w A I fp wr n Pv' St Mid :=
  ⟨W.sub, W.frame, fun i s Q E hi st k => W.item i s Q E hi st fun t vals h' tk hv => k t vals h' tk (h i vals hi hv), W.go, W.apart, W.done, W.self⟩
theorem rep_getD {l : List AV} {vals : List Value} {i : Nat} {v : Value} (hR : Reps l vals) (h : vals.toArray[i]? = some v) : Rep (l.getD i .none) v := by
  obtain ⟨a', h1, h2⟩ := hR.at' (i := i) (v := v) (by simpa using h)
  rw [List.getD_eq_getElem?_getD, h1]
  exact h2

noncomputable abbrev IterT (prog : Program) (w : World) (A : Around) (E : Value → Shared → Prop) (P : List Addr) (T : Heap → Prop) (h0 : Heap) (g0 : Array GenState) (o0 : OsState) (env : Env) (ρ : List (Str × AV)) (ls : List (Addr × HV)) (iter : Expr) (n : Nat) (av : Nat → List AV) (s : Shared) : Prop :=
  wpAny (model prog w) A (eval iter env) (fun xv s₁ => wpAny (model prog w) A (pyIter xv) (fun it s₂ => ∃ I fp wr St Mid s₀, it = .ref I ∧ At P T h0 g0 o0 env ρ ls s₀ ∧ IterOfT prog w A n av I fp wr St Mid s₀ s₂) E s₁) E s

/-- zip(x, y) -/
theorem iter_zip2 [TabKeep T] {x y : Str} {p px py pos : Pos} {a b : Addr} {l1 l2 : List AV} (hA : A.handled = none) (G : Gl P env h0 mg mb) (hk : env.kindOf "zip" = some .globalImplicit) (hm : mg "zip" = Option.none) (hb : mb "zip" = some (.type "zip"))
    (X : At P T h0 g0 o0 env ρ ls s) (hx : ρ.lookup x = some (.ref a)) (hdx : (x == ("__debug__" : Str)) = false) (hy : ρ.lookup y = some (.ref b)) (hdy : (y == ("__debug__" : Str)) = false) (h1 : (a, HV.list l1) ∈ ls) (h2 : (b, HV.list l2) ∈ ls) (hl : l2.length = l1.length)
    (hst : starEach [.Name x px, .Name y py] env = (false, eval (.Name x px) env) :: starEach [.Name y py] env := by rfl) (hst' : starEach [.Name y py] env = (false, eval (.Name y py) env) :: starEach [] env := by rfl) :
    IterT prog w A E P T h0 g0 o0 env ρ ls (.Call (.Name "zip" p) [.Name x px, .Name y py] [] pos) l1.length (fun i => [l1.getD i .none, l2.getD i .none]) s := by
  refine wpAny_Call_NameR (Pur.blt G hk hm hb rfl s _ _ X fun f tk hf _ => ?_)
  apply hf.e0 rfl
  refine PyProof.Rows.callWith_type1 (PurL.cons (.nm hx hdx) (.cons (.nm hy hdy) .nil hst') hst _ _ _ _ X.toks fun vs tk' hvs _ => ?_) hst rfl
  apply hvs.consE; intro _ _ q1 q2
  apply q2.consE; intro _ _ q2 q3
  apply q3.nilE; apply q1.e0 rfl; apply q2.e0 rfl
  obtain ⟨v1, L1, R1⟩ := X.lists a _ h1
  obtain ⟨v2, L2, R2⟩ := X.lists b _ h2
  have X' := X.toks (tk := tk')
  generalize hs' : ({ s with toks := tk' } : Shared) = s₀ at X'
  have hh : s₀.heap = s.heap := by rw [← hs']
  have hga : a < s₀.heap.objs.size := by obtain ⟨o, ho, _⟩ := L1; rw [hh]; exact Heap.lt_size ho
  have hgb : b < s₀.heap.objs.size := by obtain ⟨o, ho, _⟩ := L2; rw [hh]; exact Heap.lt_size ho
  rw [← hh] at L1 L2
  refine call_zip_2 L1 L2 fun h' c1 c2 c3 c4 c5 c6 c7 => wpAny_pyIter_zip c1 ?_
  have s1 : v1.toArray.size = l1.length := by rw [List.size_toArray, R1.length]
  have s2 : v2.toArray.size = l1.length := by rw [List.size_toArray, R2.length, hl]
  have D : ZipApart (s₀.heap.objs.size + 4) (s₀.heap.objs.size + 2) (s₀.heap.objs.size + 3) s₀.heap.objs.size (s₀.heap.objs.size + 1) a b := by
    exact zipApart_new _ _ _ hga hgb
  have W := WalksT.zip2 (prog := prog) (w := w) hA _ _ _ _ _ a b D v1.toArray v2.toArray
  rw [s1, s2, Nat.min_self] at W
  refine ⟨_, _, _, _, _, s₀, rfl, X', walksT_rep W (fun i vals hi hv => ?_), ⟨c1, c2, ⟨_, _, c3⟩, c4, c5, L1.at fun o e => c7 _ o e, L2.at fun o e => c7 _ o e⟩, new4 _, fun i h st => ?_, fun i h st => ?_, fun i t h st => ?_, fun d o e => c7 d o e, rfl, rfl, c6 ▸ Nat.le_add_right _ _, c6 ▸ below7 _ _ _ hga hgb⟩
  · obtain ⟨x, y, e1, e2, rfl⟩ := hv
    exact .cons (rep_getD R1 e1) (.cons (rep_getD R2 e2) .nil)
  · obtain ⟨z1, z2, ⟨_, _, z3⟩, z4, z5, z6, z7⟩ := st
    exact all7 ⟨_, z1, rfl⟩ ⟨_, z2, rfl⟩ ⟨_, z3, rfl⟩ (lasts_iter' z4) (lasts_iter' z5) (lasts_list z6) (lasts_list z7)
  · obtain ⟨z1, z2, ⟨_, _, z3⟩, z4, z5, z6, z7⟩ := st
    exact all4 ⟨_, z1, rfl, by simp⟩ ⟨_, z3, rfl, by simp⟩ (lasts_iter z4) (lasts_iter z5)
  · obtain ⟨z1, z2, ⟨_, _, z3⟩, z4, z5, z6, z7, _⟩ := st
    exact all4 ⟨_, z1, rfl, by simp⟩ ⟨_, z3, rfl, by simp⟩ (lasts_iter z4) (lasts_iter z5)

/-- zip(x, y, z) -/
theorem iter_zip3 [TabKeep T] {x y z : Str} {p px py pz pos : Pos} {a b c : Addr} {l1 l2 l3 : List AV} (hA : A.handled = none) (G : Gl P env h0 mg mb) (hk : env.kindOf "zip" = some .globalImplicit) (hm : mg "zip" = Option.none) (hb : mb "zip" = some (.type "zip"))
    (X : At P T h0 g0 o0 env ρ ls s) (hx : ρ.lookup x = some (.ref a)) (hdx : (x == ("__debug__" : Str)) = false) (hy : ρ.lookup y = some (.ref b)) (hdy : (y == ("__debug__" : Str)) = false) (hz : ρ.lookup z = some (.ref c)) (hdz : (z == ("__debug__" : Str)) = false)
    (h1 : (a, HV.list l1) ∈ ls) (h2 : (b, HV.list l2) ∈ ls) (h3 : (c, HV.list l3) ∈ ls) (hl : l2.length = l1.length) (hl' : l3.length = l1.length)
    (hst : starEach [.Name x px, .Name y py, .Name z pz] env = (false, eval (.Name x px) env) :: starEach [.Name y py, .Name z pz] env := by rfl) (hst' : starEach [.Name y py, .Name z pz] env = (false, eval (.Name y py) env) :: starEach [.Name z pz] env := by rfl)
    (hst'' : starEach [.Name z pz] env = (false, eval (.Name z pz) env) :: starEach [] env := by rfl) :
    IterT prog w A E P T h0 g0 o0 env ρ ls (.Call (.Name "zip" p) [.Name x px, .Name y py, .Name z pz] [] pos) l1.length (fun i => [l1.getD i .none, l2.getD i .none, l3.getD i .none]) s := by
  refine wpAny_Call_NameR (Pur.blt G hk hm hb rfl s _ _ X fun f tk hf _ => ?_)
  apply hf.e0 rfl
  refine PyProof.Rows.callWith_type1 (PurL.cons (.nm hx hdx) (.cons (.nm hy hdy) (.cons (.nm hz hdz) .nil hst'') hst') hst _ _ _ _ X.toks fun vs tk' hvs _ => ?_) hst rfl
  apply hvs.consE; intro _ _ q1 q2
  apply q2.consE; intro _ _ q2 q3
  apply q3.consE; intro _ _ q3 q4
  apply q4.nilE; apply q1.e0 rfl; apply q2.e0 rfl; apply q3.e0 rfl
  obtain ⟨v1, L1, R1⟩ := X.lists a _ h1
  obtain ⟨v2, L2, R2⟩ := X.lists b _ h2
  obtain ⟨v3, L3, R3⟩ := X.lists c _ h3
  have X' := X.toks (tk := tk')
  generalize hs' : ({ s with toks := tk' } : Shared) = s₀ at X'
  have hh : s₀.heap = s.heap := by rw [← hs']
  have hga : a < s₀.heap.objs.size := by obtain ⟨o, ho, _⟩ := L1; rw [hh]; exact Heap.lt_size ho
  have hgb : b < s₀.heap.objs.size := by obtain ⟨o, ho, _⟩ := L2; rw [hh]; exact Heap.lt_size ho
  have hgc : c < s₀.heap.objs.size := by obtain ⟨o, ho, _⟩ := L3; rw [hh]; exact Heap.lt_size ho
  rw [← hh] at L1 L2 L3
  refine call_zip_3 L1 L2 L3 fun h' c1 c2 c3 c4 c5 c5' c6 c7 => wpAny_pyIter_zip c1 ?_
  have s1 : v1.toArray.size = l1.length := by rw [List.size_toArray, R1.length]
  have s2 : v2.toArray.size = l1.length := by rw [List.size_toArray, R2.length, hl]
  have s3 : v3.toArray.size = l1.length := by rw [List.size_toArray, R3.length, hl']
  have D : Zip3Apart (s₀.heap.objs.size + 5) (s₀.heap.objs.size + 3) (s₀.heap.objs.size + 4) s₀.heap.objs.size (s₀.heap.objs.size + 1) (s₀.heap.objs.size + 2) a b c := by
    exact zip3Apart_new _ _ _ _ hga hgb hgc
  have W := walks_zip3 (prog := prog) (w := w) hA _ _ _ _ _ _ a b c D l1.length v1.toArray v2.toArray v3.toArray s1 s2 s3
  refine ⟨_, _, _, _, _, s₀, rfl, X', walksT_rep W (fun i vals hi hv => ?_), ⟨c1, c2, ⟨_, _, _, c3⟩, c4, c5, c5', L1.at fun o e => c7 _ o e, L2.at fun o e => c7 _ o e, L3.at fun o e => c7 _ o e⟩, new5 _, fun i h st => ?_, fun i h st => ?_, fun i t h st => ?_, fun d o e => c7 d o e, rfl, rfl, c6 ▸ Nat.le_add_right _ _, c6 ▸ below9 _ _ _ _ hga hgb hgc⟩
  · obtain ⟨x, y, u, e1, e2, e3, rfl⟩ := hv
    exact .cons (rep_getD R1 e1) (.cons (rep_getD R2 e2) (.cons (rep_getD R3 e3) .nil))
  · obtain ⟨z1, z2, ⟨_, _, _, z3⟩, z4, z5, z5', z6, z7, z8⟩ := st
    exact all9 ⟨_, z1, rfl⟩ ⟨_, z2, rfl⟩ ⟨_, z3, rfl⟩ (lasts_iter' z4) (lasts_iter' z5) (lasts_iter' z5') (lasts_list z6) (lasts_list z7) (lasts_list z8)
  · obtain ⟨z1, z2, ⟨_, _, _, z3⟩, z4, z5, z5', z6, z7, z8⟩ := st
    exact all5 ⟨_, z1, rfl, by simp⟩ ⟨_, z3, rfl, by simp⟩ (lasts_iter z4) (lasts_iter z5) (lasts_iter z5')
  · obtain ⟨z1, z2, ⟨_, _, _, z3⟩, z4, z5, z5', z6, z7, z8, _⟩ := st
    exact all5 ⟨_, z1, rfl, by simp⟩ ⟨_, z3, rfl, by simp⟩ (lasts_iter z4) (lasts_iter z5) (lasts_iter z5')
end
end Mine
end
section
set_option maxRecDepth 100000
namespace Mine
open PySem PySem.Float64 PySem.W PySem.Calls PyProof.Rows
section
variable {prog : Program} {w : World} {A : Around} {E : Value → Shared → Prop} {s : Shared} {env : Env} {P : List Addr} {T : Heap → Prop} {h0 : Heap} {g0 : Array GenState} {o0 : OsState} {ρ ρc : List (Str × AV)} {ls : List (Addr × HV)} {rest : List Stmt}

/-- y = [.. for a, b in ..], y a local name on the same line -/
theorem s_compT [TabKeep T] [TabFields P T] {Q : Flow → Shared → Prop} {elt iter : Expr} {y : Str} {py : Pos} {xs : List Str} {elts : List Expr} {ek : Nat} {tp : Pos} {scope : Scope} {cl : List (Str × Addr)} {pos spos : Pos} {n : Nat} {av : Nat → List AV} {bv : Nat → AV} (hA : A.handled = none)
    (hsw : swapsWith (.ListComp elt [⟨.Tuple elts ek tp, iter, [], 0⟩] scope pos) (some (.Name y py)) spos.line env = pure true) (hy : env.kindOf y = some .local)
    (hnp : ∀ a fp h, (a, HV.pin fp h) ∉ ls) (hsz : n ≤ sizeLine)
    (hcell : ∀ y ∈ scope.names, y.2 ≠ .cell) (hkind : scope.kind = .function) (hx : ∀ x ∈ xs, scope.names.lookup x = some .local) (hnames : ∀ z ∈ scope.names, z.2 = .local → scope.names.lookup z.1 = some .local)
    (htg : ∀ C, ∃ ts, assignEach elts (compEnvC scope cl C env) = ts.map (fun t => (false, t)) ∧ Tgts (compEnvC scope cl C env) xs ts) (hav : ∀ i, i < n → (av i).length = xs.length)
    (hclos : closureFor scope env = pure cl) (hclE : ∀ y c, cl.lookup y = some c → env.cells.lookup y = some c)
    (hρc : ∀ y a, ρc.lookup y = some a → ρ.lookup y = some a ∧ env.kindOf y = some .cell ∧ scope.names.lookup y = some .free ∧ ∃ c, cl.lookup y = some c)
    (hiter : IterT prog w A E P T h0 g0 o0 env ρ ls iter n av s)
    (step : ∀ (h₁ : Heap) (g₁ : Array GenState) (o₁ : OsState) C i a l, i < n → Pur prog w A (At P T h₁ g₁ o₁ (compEnvC scope cl C env) (bound xs (av i) ρc) ((a, .acc l) :: ls)) (compEnvC scope cl C env) elt (bv i))
    (k : ∀ D s', h0.objs.size ≤ D → At P T h0 g0 o0 env ((y, .ref D) :: ρ) ((D, .acc ((List.range n).map bv)) :: ls) s' → wpAny (model prog w) A (execs rest env) Q E s')
    (hs : ∀ x, foldedSetIterable iter env x = pure x := by intro _; rfl) :
    wpAny (model prog w) A (execs (.Assign [.Name y py] (.ListComp elt [⟨.Tuple elts ek tp, iter, [], 0⟩] scope pos) spos :: rest) env) Q E s := by
  refine wpAny_execs_cons ?_
  rw [exec_Assign_Name_used _ _ _ _ hsw]
  refine wpAny_bind (wpAny_standAt (wpAny_bind ?_))
  show wpAny _ A (do let _ ← comprehension (.ListComp elt [⟨.Tuple elts ek tp, iter, [], 0⟩] scope pos) scope env _ (newList []) false (eval iter env) (some (assign (.Name y py) env))) _ _ s
  refine wpAny_bind (wpAny_mono (wpAny_comprehension_free (use := some (assign (.Name y py) env)) (Q := fun _ s' => wpAny (model prog w) A (execs rest env) Q E s') rfl hs hclos hkind hnames
    (wpAny_mono hiter (fun xv s₁ h₁ => wpAny_mono h₁ (fun it s₂ h₂ => ?_) fun _ _ e => e) fun _ _ e => e)) (fun _ s' hq => wpAny_pure (wpAny_pure hq)) fun _ _ e => e)
  obtain ⟨I, fp, wr, St, Mid, s₀, rfl, X, IO⟩ := h₂
  refine comp_coreT (RR := fun acc C => compPost (model prog w) A E (some (assign (.Name y py) env)) (fun _ s' => wpAny (model prog w) A (execs rest env) Q E s') acc C) hA X hnp IO hsz hcell hkind hx htg hav hclE hρc (fun C i a l hi => step _ _ _ C i a l hi) fun D C s' m Y hn hD hC hDC => ?_
  show wpAny _ A (assign (.Name y py) env (.ref D)) _ _ _
  have Z : At P T h0 g0 o0 env ρ ((D, .acc ((List.range n).map bv)) :: ls) s' := comp_out X hnp Y hC hDC (Heap.SameBut.refl C s'.heap)
  refine wpAny_assign_Name (Z.store (.ref D) (.inl hy) fun s₃ Z₃ _ hsb => ?_)
  obtain ⟨a, hsb, ha, _⟩ := hsb
  have haC : C ≠ a := by
    intro q
    subst q
    rcases ha with ⟨_, e⟩ | ⟨_, e⟩
    · obtain ⟨mm, o, _, _, ho, _⟩ := X.ok.ns
      rw [← e] at ho
      exact Nat.lt_irrefl _ (Nat.lt_of_lt_of_le (Heap.lt_size ho) hC)
    · obtain ⟨_, _, v, o, ho, _⟩ := X.ok.cell y _ e
      exact Nat.lt_irrefl _ (Nat.lt_of_lt_of_le (Heap.lt_size ho) hC)
  refine ⟨m, hn.sameBut hsb haC, fun h₄ hs₄ => k D _ (Nat.le_trans X.low hD) ?_⟩
  have nc : ∀ b o, s₀.heap.get? b = some o → b ≠ C := fun b o e => Nat.ne_of_lt (Nat.lt_of_lt_of_le (Heap.lt_size e) hC)
  refine Z₃.drop hs₄ (Nat.le_trans X.low hC) ?_ (fun z c hc => ?_) (fun b l hm => ?_) fun b fp h hm => ?_
  · obtain ⟨mm, o, _, _, ho, _⟩ := X.ok.ns
    exact nc _ o ho
  · obtain ⟨_, _, v, o, ho, _⟩ := X.ok.cell z _ hc
    exact nc _ o ho
  · rcases List.mem_cons.mp hm with q | q
    · cases q; exact hDC
    · have hh := X.lists b l q
      cases l with
      | list l =>
        obtain ⟨_, ⟨o, ho, _⟩, _⟩ := hh
        exact nc _ o ho
      | acc l =>
        obtain ⟨_, ⟨o, _, ho, _⟩, _⟩ := hh
        exact nc _ o ho
      | pin fp h => exact absurd q (hnp _ _ _)
  · rcases List.mem_cons.mp hm with q | q
    · cases q
    · exact hnp _ _ _ q
end
end Mine
end
section
set_option maxRecDepth 100000
namespace Mine
open PySem PySem.Float64 PySem.W PySem.Calls PyProof.Rows
/-- a comprehension's closure -/
noncomputable def frees (env : Env) : List (Str × NameKind) → List (Str × Addr) → List (Str × Addr)
  | [], a => a
  | (n, k) :: r, a => if k == .free then frees env r ((n, (env.cells.lookup n).getD 0) :: a) else frees env r a
theorem closure_loop {env : Env} : ∀ (names : List (Str × NameKind)) (a : List (Str × Addr)), (∀ x, (x, NameKind.free) ∈ names → ∃ c, env.cells.lookup x = some c) →
    (forIn names a fun (p : Str × NameKind) (cs : List (Str × Addr)) => match p with
      | (name, kind) => if (kind == .free) = true then do let c ← cellOf env name; pure (ForInStep.yield ((name, c) :: cs)) else pure (ForInStep.yield cs)) = (pure (frees env names a) : Sem _)
  | [], a, _ => rfl
  | (n, k) :: r, a, h => by
    rw [List.forIn_cons]
    by_cases hk : k = .free
    · subst hk
      obtain ⟨c, hc⟩ := h n List.mem_cons_self
      have := closure_loop r ((n, c) :: a) fun x hx => h x (List.mem_cons_of_mem _ hx)
      simp only [frees, cellOf, hc, Option.getD_some]
      exact this
    · have := closure_loop r a fun x hx => h x (List.mem_cons_of_mem _ hx)
      have hf : (k == NameKind.free) = false := beq_eq_false_iff_ne.mpr hk
      simp only [frees, hf]
      exact this
theorem frees_of {env : Env} : ∀ (names : List (Str × NameKind)) (a : List (Str × Addr)), (∀ x, (x, NameKind.free) ∈ names → ∃ c, env.cells.lookup x = some c) →
    (∀ y c, a.lookup y = some c → env.cells.lookup y = some c) → ∀ y c, (frees env names a).lookup y = some c → env.cells.lookup y = some c
  | [], _, _, ha => ha
  | (n, k) :: r, a, h, ha => by
    unfold frees
    split
    · refine frees_of r _ (fun x hx => h x (List.mem_cons_of_mem _ hx)) fun y c hy => ?_
      rw [List.lookup_cons] at hy
      by_cases e : y = n
      · subst e
        rw [beq_self_eq_true] at hy
        cases hy
        rename_i hk
        obtain rfl : k = .free := eq_of_beq hk
        obtain ⟨c', hc⟩ := h y List.mem_cons_self
        rw [hc]; rfl
      · rw [beq_eq_false_iff_ne.mpr e] at hy
        exact ha y c hy
    · exact frees_of r a (fun x hx => h x (List.mem_cons_of_mem _ hx)) ha
theorem frees_keep {env : Env} : ∀ (names : List (Str × NameKind)) (a : List (Str × Addr)) (y : Str), (∃ c, a.lookup y = some c) → ∃ c, (frees env names a).lookup y = some c
  | [], _, _, h => h
  | (n, k) :: r, a, y, h => by
    unfold frees
    split
    · refine frees_keep r _ y ?_
      rw [List.lookup_cons]
      cases y == n with
      | true => exact ⟨_, rfl⟩
      | false => exact h
    · exact frees_keep r a y h
theorem frees_mem {env : Env} : ∀ (names : List (Str × NameKind)) (a : List (Str × Addr)) (y : Str), (y, NameKind.free) ∈ names → ∃ c, (frees env names a).lookup y = some c
  | [], _, _, h => by cases h
  | (n, k) :: r, a, y, h => by
    rcases List.mem_cons.mp h with q | q
    · obtain ⟨rfl, rfl⟩ := Prod.mk.inj q
      exact frees_keep r ((y, (env.cells.lookup y).getD 0) :: a) y ⟨_, by rw [List.lookup_cons, beq_self_eq_true]⟩
    · unfold frees
      split
      · exact frees_mem r _ y q
      · exact frees_mem r a y q
theorem closure_all {scope : Scope} {env : Env} (h : ∀ x, (x, NameKind.free) ∈ scope.names → ∃ c, env.cells.lookup x = some c) :
    closureFor scope env = pure (frees env scope.names []) := by
  unfold closureFor
  exact congrArg (fun m : Sem (List (Str × Addr)) => m >>= fun cs => pure cs) (closure_loop scope.names [] h)

section
variable {prog : Program} {w : World} {A : Around} {E : Value → Shared → Prop} {s : Shared} {env : Env} {P : List Addr} {T : Heap → Prop} {h0 : Heap} {g0 : Array GenState} {o0 : OsState} {ρ ρc : List (Str × AV)} {ls : List (Addr × HV)} {rest : List Stmt} {mg mb : Str → Option Value}
theorem Gl.comp {scope : Scope} {cl : List (Str × Addr)} {C : Addr} (G : Gl P env h0 mg mb) (X : At P T h0 g0 o0 env ρ ls s) : Gl P (compEnvC scope cl C env) s.heap mg mb :=
  ⟨X.grow.ns G.gP G.g, X.grow.ns G.bP G.b, G.gP, G.bP⟩
noncomputable abbrev IterE (prog : Program) (w : World) (A : Around) (E : Value → Shared → Prop) (P : List Addr) (T : Heap → Prop) (h0 : Heap) (g0 : Array GenState) (o0 : OsState) (env : Env) (ρ : List (Str × AV)) (ls : List (Addr × HV)) (iter : Expr) (n : Nat) (av : Nat → AV) (s : Shared) : Prop :=
  wpAny (model prog w) A (eval iter env) (fun xv s₁ => At P T h0 g0 o0 env ρ ls s₁ ∧ wpAny (model prog w) A (pyIter xv) (fun it s₂ => ∃ I fp wr St src, it = .ref I ∧ IterOf prog w A n av src I fp wr St s₁ s₂) E s₁) E s
/-- the items of a list just made -/
theorem iter_av [TabKeep T] {e : Expr} {l : List AV} (hA : A.handled = none)
    (he : wpAny (model prog w) A (eval e env) (fun v s₁ => ∃ a, v = .ref a ∧ At P T h0 g0 o0 env ρ ls s₁ ∧ IsAV s₁.heap a l) E s) :
    IterE prog w A E P T h0 g0 o0 env ρ ls e l.length (fun i => l.getD i .none) s := by
  refine wpAny_mono he (fun v s₁ h₁ => ?_) fun _ _ e => e
  obtain ⟨a, rfl, X, vals, hL, hR⟩ := h₁
  refine ⟨X, wpAny_pyIter_list hL ?_⟩
  have hlt : a < s₁.heap.objs.size := by obtain ⟨o, ho, _⟩ := hL; exact Heap.lt_size ho
  have hne : a ≠ s₁.heap.objs.size := Nat.ne_of_lt hlt
  have W := Walks.list (prog := prog) (w := w) hA s₁.heap.objs.size a hne vals.toArray
  rw [show vals.toArray.size = l.length from by rw [List.size_toArray, hR.length]] at W
  refine ⟨_, _, _, _, [a], rfl, walks_rep W (fun i v hi h => rep_getD hR h), ⟨isListIter_of (Heap.get?_push_size _ rfl), hL.push _⟩, fun b hb => ?_, fun i h st b hb => ?_, fun i h st b hb => ?_, fun i h st b hb => ?_, fun b o e => Heap.get?_push_of_some _ e, rfl, rfl, size_push_le _ _, fun b hb => ?_⟩
  · obtain rfl := List.mem_singleton.mp hb
    exact Nat.le_refl _
  · simp only [List.mem_cons, List.not_mem_nil, or_false] at hb
    rcases hb with q | q <;> subst q
    · obtain ⟨o, ho, _, hd⟩ := st.1
      exact ⟨o, ho, by unfold Lasting; rw [hd]⟩
    · obtain ⟨o, ho, _, n, hd⟩ := st.2
      exact ⟨o, ho, by unfold Lasting; rw [hd]⟩
  · obtain rfl := List.mem_singleton.mp hb
    obtain ⟨o, ho, _, hd⟩ := st.1
    exact ⟨o, _, ho, hd⟩
  · simp only [List.mem_cons, List.not_mem_nil, or_false] at hb
    rcases hb with q | q <;> subst q
    · obtain ⟨o, ho, _, hd⟩ := st.1
      exact .inr ⟨o, _, ho, hd⟩
    · exact .inl (List.mem_singleton.mpr rfl)
  · simp only [List.mem_cons, List.not_mem_nil, or_false] at hb
    rcases hb with q | q <;> subst q
    · exact .inl (Nat.le_refl _)
    · obtain ⟨o, ho, _, n, hd⟩ := id hL
      exact .inr ⟨o, _, n, Heap.get?_push_of_some _ ho, hd⟩
theorem iterE_of {iter : Expr} {n : Nat} {av : Nat → AV} {src : List Addr} (h : wpAny (model prog w) A (eval iter env) (fun xv s₁ => At P T h0 g0 o0 env ρ ls s₁ ∧ wpAny (model prog w) A (pyIter xv) (fun it s₂ => ∃ I fp wr St, it = .ref I ∧ IterOf prog w A n av src I fp wr St s₁ s₂) E s₁) E s) :
    IterE prog w A E P T h0 g0 o0 env ρ ls iter n av s :=
  wpAny_mono h (fun _ _ h₁ => ⟨h₁.1, wpAny_mono h₁.2 (fun _ _ ⟨I, fp, wr, St, e, x⟩ => ⟨I, fp, wr, St, src, e, x⟩) fun _ _ e => e⟩) fun _ _ e => e

/-- a list comprehension -/
theorem eval_compE [TabKeep T] [TabFields P T] {elt iter : Expr} {x : Str} {px : Pos} {ifs : List Expr} {scope : Scope} {pos : Pos} {n : Nat} {av bv : Nat → AV} {keep : Nat → Bool} {Q : Value → Shared → Prop}
    (hnp : ∀ a fp h, (a, HV.pin fp h) ∉ ls) (hsz : n ≤ sizeLine) (hfr : ∀ x, (x, NameKind.free) ∈ scope.names → ∃ c, env.cells.lookup x = some c)
    (hcell : ∀ y ∈ scope.names, y.2 ≠ .cell) (hkind : scope.kind = .function) (hx : scope.names.lookup x = some .local) (hnames : ∀ z ∈ scope.names, z.2 = .local → scope.names.lookup z.1 = some .local)
    (hρc : ∀ p ∈ ρc, ρ.lookup p.1 = some p.2 ∧ env.kindOf p.1 = some .cell ∧ scope.names.lookup p.1 = some .free)
    (hiter : IterE prog w A E P T h0 g0 o0 env ρ ls iter n av s)
    (step : ∀ s₁, At P T h0 g0 o0 env ρ ls s₁ → CompStep prog w A P T s₁ env scope (frees env scope.names []) x ifs elt n av bv keep ρc ls)
    (k : ∀ D s', h0.objs.size ≤ D → At P T h0 g0 o0 env ρ ((D, .acc (accOf n keep bv)) :: ls) s' → Q (.ref D) s')
    (hs : ∀ x, foldedSetIterable iter env x = pure x := by intro _; rfl) :
    wpAny (model prog w) A (eval (.ListComp elt [⟨.Name x px, iter, ifs, 0⟩] scope pos) env) Q E s := by
  rw [eval_ListComp]
  refine wpAny_comprehension_free (use := none) rfl hs (closure_all hfr) hkind hnames (wpAny_mono hiter (fun xv s₁ h₁ => wpAny_mono h₁.2 (fun it s₂ h₂ => ?_) fun _ _ e => e) fun _ _ e => e)
  obtain ⟨X, _⟩ := h₁
  obtain ⟨I, fp, wr, St, src, rfl, IO⟩ := h₂
  have hρc' : ∀ y a, ρc.lookup y = some a → ρ.lookup y = some a ∧ env.kindOf y = some .cell ∧ scope.names.lookup y = some .free ∧ ∃ c, (frees env scope.names []).lookup y = some c := fun y a hy => by
    obtain ⟨h1, h2, h3⟩ := hρc (y, a) (lookup_mem hy)
    exact ⟨h1, h2, h3, frees_mem _ _ _ (lookup_mem h3)⟩
  refine comp_core (RR := fun acc C => compPost (model prog w) A E none Q acc C) X hnp IO hsz hcell hkind hx (frees_of _ _ hfr fun _ _ h => by cases h) hρc' (step s₁ X) fun D C s' m Y hn hD hC hDC => ?_
  exact ⟨m, hn, fun h' hs' => k D _ (Nat.le_trans X.low hD) (comp_out X hnp Y hC hDC hs')⟩

/-- what a comprehension's frame finds in its cells -/
theorem comp_names {scope : Scope}
    (h : ∀ p ∈ ρc, ρ.lookup p.1 = some p.2 ∧ env.kindOf p.1 = some .cell ∧ scope.names.lookup p.1 = some .free) :
    ∀ y a, ρc.lookup y = some a → ρ.lookup y = some a ∧ env.kindOf y = some .cell ∧ scope.names.lookup y = some .free ∧ ∃ c, (frees env scope.names []).lookup y = some c := fun y a hy => by
  obtain ⟨h1, h2, h3⟩ := h (y, a) (lookup_mem hy)
  exact ⟨h1, h2, h3, frees_mem _ _ _ (lookup_mem h3)⟩
theorem comp_cells {scope : Scope} (hfr : ∀ x, (x, NameKind.free) ∈ scope.names → ∃ c, env.cells.lookup x = some c) : ∀ y c, (frees env scope.names []).lookup y = some c → env.cells.lookup y = some c :=
  frees_of _ _ hfr fun _ _ h => by cases h
end
end Mine
end
section
set_option maxRecDepth 100000
namespace Mine
open PySem PySem.Float64 PySem.W PySem.Calls PyProof.Rows
noncomputable def cellsOf (sc : List Int) : List Int := ((sc.drop 1 ++ [3, 4, 11]).take 5).map (Int.fmod · 15)
noncomputable def headOf (sc : List Int) : Int := (sc.take 1 ++ sc.drop 6).sum
noncomputable def digit (h : Int) (k : Nat) : Int := (h.fdiv (20 ^ k)).fmod 20 - 10
/-- law's activation -/
structure LawEnv (env : Env) : Prop where
  sc : env.scope = dLaw.scope
  fn : env.func ≠ none
  cell : ∀ x, dLaw.scope.names.lookup x = some .cell → ∃ c, env.cells.lookup x = some c
section
variable {prog : Program} {w : World} {A : Around} {E : Value → Shared → Prop} {s : Shared} {env : Env} {P : List Addr} {T : Heap → Prop} {h0 : Heap} {g0 : Array GenState} {o0 : OsState} {ρ ρc : List (Str × AV)} {ls : List (Addr × HV)} {rest : List Stmt} {mg mb : Str → Option Value} {Q : Flow → Shared → Prop}
theorem LawEnv.kind (L : LawEnv env) (x : Str) : env.kindOf x = dLaw.scope.names.lookup x := by unfold Env.kindOf; rw [L.sc]
theorem LawEnv.st (L : LawEnv env) {x : Str} (h : dLaw.scope.names.lookup x = some .cell) : Storable env x :=
  let ⟨c, hc⟩ := L.cell x h
  .inr ⟨(L.kind x).trans h, c, hc, L.fn⟩
theorem LawEnv.lo (L : LawEnv env) {x : Str} (h : dLaw.scope.names.lookup x = some .local) : Storable env x := .inl ((L.kind x).trans h)
theorem swaps_false {elt : Expr} {gens : List Comprehension} {scope : Scope} {pos tp : Pos} {t : Str} {line : Nat} (hk : env.kindOf t = some .cell) :
    swapsWith (.ListComp elt gens scope pos) (some (.Name t tp)) line env = pure false := by
  show (pure (env.blockKind == .function && env.kindOf t == some .local && tp.line == pos.line && !(scope.names.any fun (n, k) => n == t && (k == .local || k == .cell))) : Sem Bool) = pure false
  rw [hk, show ((some NameKind.cell : Option NameKind) == some .local) = false from by decide, Bool.and_false]
  rfl
theorem no_pins1 {a : Addr} {l : List AV} : ∀ c fp h, (c, HV.pin fp h) ∉ [(a, HV.list l)] := fun c fp h hm => by cases List.mem_singleton.mp hm
theorem law_0 [TabKeep T] [TabFields P T] {a : Addr} {sc : List Int} (L : LawEnv env) (hA : A.handled = none) (hsz : sc.length ≤ 63)
    (X : At P T h0 g0 o0 env [("script", .ref a)] [(a, .list (sc.map .int))] s)
    (k : ∀ D s', At P T h0 g0 o0 env [("cells", .ref D), ("script", .ref a)] [(D, .list ((cellsOf sc).map .int)), (a, .list (sc.map .int))] s' → wpAny (model prog w) A (execs (dLaw.body.drop 1) env) Q E s') :
    wpAny (model prog w) A (execs dLaw.body env) Q E s := by
  have line : sizeLine = 2 ^ 24 := rfl
  refine s_assignE (P := P) (T := T) (h0 := h0) (g0 := g0) (o0 := o0) (L.st rfl) (eval_compE (P := P) (T := T) (h0 := h0) (g0 := g0) (o0 := o0) (ρ := [("script", .ref a)]) (ls := [(a, .list (sc.map .int))]) (ρc := []) (keep := fun _ => true) (n := (((sc.drop 1 ++ [3, 4, 11]).take 5).map AV.int).length) (av := fun i => (((sc.drop 1 ++ [3, 4, 11]).take 5).map AV.int).getD i .none) (bv := fun i => .int ((((sc.drop 1 ++ [3, 4, 11]).take 5).getD i 0).fmod 15))
    no_pins1 (by rw [List.length_map, List.length_take]; omega) (by intro x hx; revert hx; show (x, NameKind.free) ∈ [((".0" : Str), NameKind.local), ("x", .local)] → _; intro hx; simp at hx) (by decide) rfl rfl (by decide) (by intro p hp; cases hp) ?_ (fun s₁ X₁ => step_pur fun C i a' fp hp l hi => ?_) fun D s' hD X' => ?_) (swaps_false ((L.kind _).trans rfl))
  · refine iter_av (P := P) (T := T) hA (eval_upto (P := P) (T := T) (h0 := h0) (g0 := g0) (o0 := o0) (ρ := [("script", .ref a)]) (ls := [(a, .list (sc.map .int))]) (l := (sc.drop 1 ++ [3, 4, 11]).map AV.int)
      (wpAny_BinOp (eval_from (P := P) (T := T) (h0 := h0) (g0 := g0) (o0 := o0) (ρ := [("script", .ref a)]) (ls := [(a, .list (sc.map .int))]) (l := sc.map AV.int) (Pur.nm rfl (by decide) s _ _ X fun v tk hv _ => ?_) (by decide) (by rw [List.length_map]; omega) fun D s₁ hD X₁ => ?_)) (by decide) ?_ fun D s' hD X' => ?_)
    · apply hv.e0 rfl
      exact ⟨a, rfl, X.toks, X.lists a _ List.mem_cons_self⟩
    · refine eval_list X₁ (.cons .int (.cons .int (.cons .int .nil rfl) rfl) rfl) (by decide) fun D' s₂ hD' X₂ => ?_
      refine op_add_lists X₂ (X₂.lists D _ (List.mem_cons_of_mem _ List.mem_cons_self)).av (X₂.lists D' _ List.mem_cons_self).av ?_ fun D₃ s₃ _ X₃ => ?_
      · rw [List.length_drop, List.length_map]
        show sc.length - _ + 3 ≤ _
        omega
      · refine ⟨D₃, rfl, X₃.weak (fun _ _ h => h) fun p hp => ?_, ?_⟩
        · exact List.mem_cons_of_mem _ (List.mem_cons_of_mem _ (List.mem_cons_of_mem _ hp))
        · have := (X₃.lists D₃ _ List.mem_cons_self).av
          rw [List.map_append, List.map_drop]
          exact this
    · rw [List.length_map, List.length_append, List.length_drop]
      show sc.length - _ + 3 ≤ _
      omega
    · refine ⟨D, rfl, X'.weak (fun _ _ h => h) fun p hp => List.mem_cons_of_mem _ hp, ?_⟩
      rw [List.map_take]
      exact (X'.lists D _ List.mem_cons_self).av
  · have hi' : i < ((sc.drop 1 ++ [3, 4, 11]).take 5).length := by rw [List.length_map] at hi; exact hi
    have e : (((sc.drop 1 ++ [3, 4, 11]).take 5).map AV.int).getD i .none = .int (((sc.drop 1 ++ [3, 4, 11]).take 5).getD i 0) := by
      rw [List.getD_eq_getElem?_getD, List.getD_eq_getElem?_getD, List.getElem?_map, List.getElem?_eq_getElem hi']
      rfl
    rw [e]
    exact .bin (.nm rfl) .int (op_mod (by decide))
  · have e : accOf (((sc.drop 1 ++ [3, 4, 11]).take 5).map AV.int).length (fun _ => true) (fun i => .int ((((sc.drop 1 ++ [3, 4, 11]).take 5).getD i 0).fmod 15)) = (cellsOf sc).map .int := by
      rw [accOf_all, List.length_map]
      unfold cellsOf
      rw [List.map_map]
      exact range_getD _ 0 (fun n : Int => AV.int (n.fmod 15))
    refine ⟨_, _, _, .ref D, X', fun s₂ X₂ => k D s₂ ?_⟩
    have Y := X₂.unacc
    rw [e] at Y
    exact Y
end
end Mine
end
section
set_option maxRecDepth 100000
namespace Mine
open PySem PySem.Float64 PySem.W PySem.Calls PyProof.Rows
/-- lists that were made one by one -/
noncomputable def colsAt (col : Nat → List AV) : Nat → List Addr → List (Addr × HV)
  | _, [] => []
  | i, d :: ds => (d, .list (col i)) :: colsAt col (i + 1) ds
theorem colsAt_snoc {col : Nat → List AV} : ∀ (ds : List Addr) (i : Nat) (d : Addr), colsAt col i (ds ++ [d]) = colsAt col i ds ++ [(d, .list (col (i + ds.length)))]
  | [], _, _ => rfl
  | e :: ds, i, d => by
    show (e, _) :: colsAt col (i + 1) (ds ++ [d]) = (e, _) :: (colsAt col (i + 1) ds ++ _)
    rw [colsAt_snoc ds (i + 1) d, List.length_cons, show i + 1 + ds.length = i + (ds.length + 1) by omega]
theorem colsAt_mem {col : Nat → List AV} {b : Addr} {l : HV} : ∀ (ds : List Addr) (i : Nat), (b, l) ∈ colsAt col i ds → b ∈ ds ∧ ∃ l', l = .list l'
  | [], _, h => by cases h
  | e :: ds, i, h => by
    rcases List.mem_cons.mp h with q | q
    · cases q; exact ⟨List.mem_cons_self, _, rfl⟩
    · obtain ⟨h1, h2⟩ := colsAt_mem ds (i + 1) q
      exact ⟨List.mem_cons_of_mem _ h1, h2⟩
section
variable {prog : Program} {w : World} {A : Around} {E : Value → Shared → Prop} {s : Shared} {env : Env} {P : List Addr} {T : Heap → Prop} {h0 : Heap} {g0 : Array GenState} {o0 : OsState} {ρ ρc : List (Str × AV)} {ls : List (Addr × HV)}

theorem eval_compR [TabKeep T] [TabFields P T] {elt iter : Expr} {x : Str} {px : Pos} {scope : Scope} {pos : Pos} {n : Nat} {av : Nat → AV} {col : Nat → List AV} {Q : Value → Shared → Prop}
    (hnp : ∀ a fp h, (a, HV.pin fp h) ∉ ls) (hsz : n ≤ sizeLine) (hfr : ∀ x, (x, NameKind.free) ∈ scope.names → ∃ c, env.cells.lookup x = some c)
    (hcell : ∀ y ∈ scope.names, y.2 ≠ .cell) (hkind : scope.kind = .function) (hx : scope.names.lookup x = some .local) (hnames : ∀ z ∈ scope.names, z.2 = .local → scope.names.lookup z.1 = some .local)
    (hρc : ∀ p ∈ ρc, ρ.lookup p.1 = some p.2 ∧ env.kindOf p.1 = some .cell ∧ scope.names.lookup p.1 = some .free)
    (hiter : IterE prog w A E P T h0 g0 o0 env ρ ls iter n av s)
    (step : ∀ (s₁ : Shared) (C i : Nat) (s' : Shared) (a : Addr) (fp : List Addr) (hp : Heap) (ds : List Addr) (E' : Value → Shared → Prop), At P T h0 g0 o0 env ρ ls s₁ → i < n → ds.length = i → (∀ b ∈ fp, b ∉ P) → C < s'.heap.objs.size → a < s'.heap.objs.size →
      At P T s₁.heap s₁.gens s₁.os (compEnvC scope (frees env scope.names []) C env) ((x, av i) :: ρc) ((a, .acc (ds.map .ref)) :: (0, .pin fp hp) :: (colsAt col 0 ds ++ ls)) s' →
      wpAny (model prog w) A (eval elt (compEnvC scope (frees env scope.names []) C env)) (fun y s₄ => ∃ d, y = .ref d ∧ s'.heap.objs.size ≤ d ∧
        At P T s₁.heap s₁.gens s₁.os (compEnvC scope (frees env scope.names []) C env) ((x, av i) :: ρc) ((a, .acc (ds.map .ref)) :: (0, .pin fp hp) :: (colsAt col 0 ds ++ ls)) s₄ ∧ IsAV s₄.heap d (col i)) E' s')
    (k : ∀ D ds s', ds.length = n → At P T h0 g0 o0 env ρ ((D, .acc (ds.map .ref)) :: (colsAt col 0 ds ++ ls)) s' → Q (.ref D) s')
    (hs : ∀ x, foldedSetIterable iter env x = pure x := by intro _; rfl) :
    wpAny (model prog w) A (eval (.ListComp elt [⟨.Name x px, iter, [], 0⟩] scope pos) env) Q E s := by
  rw [eval_ListComp]
  refine wpAny_comprehension_free (use := none) rfl hs (closure_all hfr) hkind hnames (wpAny_mono hiter (fun xv s₁ h₁ => wpAny_mono h₁.2 (fun it s₂ h₂ => ?_) fun _ _ e => e) fun _ _ e => e)
  obtain ⟨X, _⟩ := h₁
  obtain ⟨I, fp, wr, St, src, rfl, IO⟩ := h₂
  have hclE : ∀ y c, (frees env scope.names []).lookup y = some c → env.cells.lookup y = some c := frees_of _ _ hfr fun _ _ h => by cases h
  have hρc' : ∀ y a, ρc.lookup y = some a → ρ.lookup y = some a ∧ env.kindOf y = some .cell ∧ scope.names.lookup y = some .free ∧ ∃ c, (frees env scope.names []).lookup y = some c := fun y a hy => by
    obtain ⟨h1, h2, h3⟩ := hρc (y, a) (lookup_mem hy)
    exact ⟨h1, h2, h3, frees_mem _ _ _ (lookup_mem h3)⟩
  generalize frees env scope.names [] = cl at hclE hρc' step ⊢
  refine wpAny_newObj_type (wpAny_newFunctionEnv hcell (by intro y hy; simp at hy) (fun h₁ hns₁ hsb₁ => ?_) hkind)
  dsimp only at hns₁ hsb₁ ⊢
  generalize hH2 : s₂.heap.push { cls := .type "list", dict := none, data := .seq ([] : List Value).toArray } = H2 at hns₁ hsb₁ ⊢
  have hC : H2.objs.size = s₂.heap.objs.size + 1 := by rw [← hH2, Heap.size_push]
  have hDC : s₂.heap.objs.size ≠ H2.objs.size := by rw [hC]; exact Nat.ne_of_lt (Nat.lt_succ_self _)
  have below : ∀ b, b < s₂.heap.objs.size → b ≠ H2.objs.size ∧ b ≠ s₂.heap.objs.size := fun b hb => ⟨by rw [hC]; exact Nat.ne_of_lt (Nat.lt_succ_of_lt hb), Nat.ne_of_lt hb⟩
  have old : ∀ b o, s₂.heap.get? b = some o → h₁.get? b = some o := fun b o e => hsb₁.extBut b o (below b (Heap.lt_size e)).1 (Heap.get?_push_of_some _ (hH2 ▸ Heap.get?_push_of_some _ e))
  have hacc : PlainL h₁ s₂.heap.objs.size #[] := ⟨_, _, hsb₁.extBut _ _ hDC (Heap.get?_push_of_some _ (hH2 ▸ Heap.get?_push_size _ rfl)), rfl, rfl, rfl⟩
  have hst₁ : St 0 h₁ := IO.walks.frame _ _ _ IO.st0 fun b _ o e => old b o e
  have big : s₁.heap.objs.size ≤ s₂.heap.objs.size := IO.size
  have X₂ := X.keeps IO.keep IO.gens IO.os
  have Y0 : At P T s₁.heap s₁.gens s₁.os (compEnvC scope cl H2.objs.size env) ρc ((s₂.heap.objs.size, .acc (([] : List Addr).map .ref)) :: (colsAt col 0 [] ++ ls)) { s₂ with heap := h₁, toks := s₂.toks + ([] : List (Str × Value)).length } :=
    comp_start X hkind hns₁ (fun b o e => old b o (IO.keep b o e)) (by rw [hC]; exact Nat.le_succ_of_le big) hacc IO.gens IO.os hclE hρc'
  have szs : ∀ {ls' s'}, At P T s₁.heap s₁.gens s₁.os (compEnvC scope cl H2.objs.size env) ρc ls' s' → H2.objs.size < s'.heap.objs.size := fun Y => by
    obtain ⟨m, hn⟩ := Y.ok.ns
    exact hn.lt
  have loop : ∀ s₃ : Shared, s₃ = { s₂ with heap := h₁, toks := s₂.toks + ([] : List (Str × Value)).length } →
      codeAny (model prog w) A (.compLoop (.ListComp elt [⟨.Name x px, iter, [], 0⟩] scope pos) 0 (.ref I) (.ref s₂.heap.objs.size) (compEnvC scope cl H2.objs.size env))
        (compPost (model prog w) A E none Q (.ref s₂.heap.objs.size) H2.objs.size) s₃ := by
    rintro s₃ rfl
    refine codeAny_compLoop_tests (fun m s' => ∃ i ds, i ≤ n ∧ m = n - i ∧ ds.length = i ∧ (∀ d ∈ ds, d ≠ s₂.heap.objs.size ∧ d ≠ H2.objs.size) ∧ At P T s₁.heap s₁.gens s₁.os (compEnvC scope cl H2.objs.size env) ρc ((s₂.heap.objs.size, .acc (ds.map .ref)) :: (colsAt col 0 ds ++ ls)) s' ∧ St i s'.heap) ?_ n ⟨0, [], Nat.zero_le _, rfl, rfl, (fun _ h => by cases h), Y0, hst₁⟩
    intro m s' hinv
    refine ex2and6 hinv fun i ds hi hm hdl hds Y st => ?_
    subst hm
    clear hinv
    have h0w : ∀ b o, b ∉ P → s₁.heap.get? b = some o → b < s₁.heap.objs.size := fun b o _ e => Heap.lt_size e
    have nopin : ∀ b fp h₁, (b, HV.pin fp h₁) ∉ (colsAt col 0 ds ++ ls) := fun b fp h₁ hm => by
      rcases List.mem_append.mp hm with q | q
      · obtain ⟨_, _, q⟩ := colsAt_mem _ _ q
        cases q
      · exact hnp b fp h₁ q
    have hpn : ∀ a fp h₁, (a, HV.pin fp h₁) ∈ ((s₂.heap.objs.size, HV.acc (ds.map .ref)) :: (colsAt col 0 ds ++ ls)) → ∀ b ∈ fp, ∀ o, h₁.get? b = some o → b < s₁.heap.objs.size := fun a fp h₁ hm => by
      rcases List.mem_cons.mp hm with q | q
      · cases q
      · exact absurd q (nopin a fp h₁)
    have notD : ∀ b l', (b, l') ∈ (colsAt col 0 ds ++ ls) → b ≠ s₂.heap.objs.size := fun b l' hm => by
      rcases List.mem_append.mp hm with q | q
      · exact (hds b (colsAt_mem _ _ q).1).1
      · have : ∃ o, s₁.heap.get? b = some o := by
          have hh := X.lists b l' q
          cases l' with
          | list l => obtain ⟨_, ⟨o, ho, _⟩, _⟩ := hh; exact ⟨o, ho⟩
          | acc l => obtain ⟨_, ⟨o, _, ho, _⟩, _⟩ := hh; exact ⟨o, ho⟩
          | pin fp h => exact absurd q (hnp _ _ _)
        obtain ⟨o, ho⟩ := this
        exact Nat.ne_of_lt (Nat.lt_of_lt_of_le (Heap.lt_size ho) big)
    rcases Nat.lt_or_ge i n with hlt | hge
    · refine IO.walks.item i s' _ _ hlt st fun v h' tk hv st' hk => ?_
      have Y' := Y.iter (tk := tk) IO.fresh X.lt451 (IO.fields i _ st) h0w hpn hk
      refine wpAny_assign_Name (Y'.store hv (.inl (lookup_relabel_local hx)) fun s'' Y'' hst _ => ?_)
      have st'' : St (i + 1) s''.heap := IO.walks.frame _ _ _ st' fun b hb o e => by
        obtain ⟨o', e', hl⟩ := IO.lasts _ _ st' b hb
        rw [e] at e'; cases e'
        exact hst.2.1 b o hl e
      have pin : Holds s''.heap 0 (.pin fp s''.heap) := fun b hb o e => by
        obtain ⟨o', e', hl⟩ := IO.lasts _ _ st'' b hb
        rw [e] at e'; cases e'
        exact ⟨hl, e⟩
      have szC : H2.objs.size < s''.heap.objs.size := by
        obtain ⟨m, hn⟩ := Y''.ok.ns
        exact hn.lt
      have szD : s₂.heap.objs.size < s''.heap.objs.size := Nat.lt_trans (by rw [hC]; exact Nat.lt_succ_self _) szC
      have Y3 : At P T s₁.heap s₁.gens s₁.os (compEnvC scope cl H2.objs.size env) ((x, av i) :: ρc) ((s₂.heap.objs.size, .acc (ds.map .ref)) :: (0, .pin fp s''.heap) :: (colsAt col 0 ds ++ ls)) s'' := ⟨Y''.ok, Y''.grow, Y''.here, fun a l hm => by
        rcases List.mem_cons.mp hm with q | q
        · cases q; exact Y''.lists _ _ List.mem_cons_self
        · rcases List.mem_cons.mp q with q | q
          · cases q; exact pin
          · exact Y''.lists a l (List.mem_cons_of_mem _ q), Y''.far, Y''.big, Y''.tb, Y''.gens, Y''.os⟩
      refine wpAny_pure ?_
      rw [if_pos rfl]
      refine wpAny_mono (step s₁ H2.objs.size i s'' s₂.heap.objs.size fp s''.heap ds _ X hlt hdl (IO.apart X X₂.tb) szC szD Y3) (fun y s₄ h₄ => ?_) fun _ _ e => e
      obtain ⟨d, rfl, hd, Y₄, hcol⟩ := h₄
      have sub : ∀ y a, ρc.lookup y = some a → ((x, av i) :: ρc).lookup y = some a := fun y a hy => by
        have hne : y ≠ x := by
          intro q
          subst q
          rw [(hρc' y a hy).2.2.1] at hx
          cases hx
        rw [List.lookup_cons, beq_eq_false_iff_ne.mpr hne]
        exact hy
      have lowfp : ∀ b ∈ fp, b ≠ s₂.heap.objs.size := fun b hb => by
        obtain ⟨o, ho, _⟩ := IO.lasts 0 _ IO.st0 b hb
        exact Nat.ne_of_lt (Heap.lt_size ho)
      have hdD : d ≠ s₂.heap.objs.size := Nat.ne_of_gt (Nat.lt_of_lt_of_le szD hd)
      refine Y₄.append_call (.ref d) big (by rw [List.length_map, hdl]; exact Nat.le_trans hi hsz) (fun b l' hm => ?_) (fun b l' hm => ?_) (fun b fp' h₂ hm => ?_) fun h₅ Y₅ hs₅ => ⟨n - (i + 1), by omega, i + 1, ds ++ [d], hlt, rfl, by rw [List.length_append, hdl]; rfl, fun e he => ?_, ?_, ?_⟩
      · rcases List.mem_cons.mp hm with q | q
        · cases q
        · exact notD b _ q
      · rcases List.mem_cons.mp hm with q | q
        · cases q
        · exact notD b _ q
      · rcases List.mem_cons.mp hm with q | q
        · cases q; exact lowfp
        · exact absurd q (nopin _ _ _)
      · rcases List.mem_append.mp he with q | q
        · exact hds e q
        · rw [List.mem_singleton.mp q]
          exact ⟨hdD, Nat.ne_of_gt (Nat.lt_of_lt_of_le szC hd)⟩
      · rw [List.map_append]
        have W := Y₅.weak (ρ' := ρc) (ls' := (s₂.heap.objs.size, .acc (ds.map .ref ++ [.ref d])) :: (colsAt col 0 ds ++ ls)) sub fun p hp => by
          rcases List.mem_cons.mp hp with q | q
          · rw [q]; exact List.mem_cons_self
          · exact List.mem_cons_of_mem _ (List.mem_cons_of_mem _ q)
        refine ⟨W.ok, W.grow, W.here, fun b l hm => ?_, W.far, W.big, W.tb, W.gens, W.os⟩
        rcases List.mem_cons.mp hm with q | q
        · cases q; exact W.lists _ _ List.mem_cons_self
        · rcases List.mem_append.mp q with q | q
          · rw [colsAt_snoc] at q
            rcases List.mem_append.mp q with q | q
            · exact W.lists b l (List.mem_cons_of_mem _ (List.mem_append_left _ q))
            · cases List.mem_singleton.mp q
              rw [Nat.zero_add, hdl]
              obtain ⟨vals, ⟨o, ho, hc, nn, hdt⟩, hr⟩ := hcol
              exact ⟨vals, ⟨o, (hs₅.2 d hdD).trans ho, hc, nn, hdt⟩, hr⟩
          · exact W.lists b l (List.mem_cons_of_mem _ (List.mem_append_right _ q))
      · exact IO.walks.frame _ _ _ st'' fun b hb o e => (hs₅.2 b (lowfp b hb)).trans (Y₄.lists 0 _ (List.mem_cons_of_mem _ List.mem_cons_self) b hb o e).2
    · obtain rfl : i = n := Nat.le_antisymm hi hge
      refine IO.walks.done s' _ _ st fun h' tk hk => ?_
      have Y' := Y.iter (tk := tk) IO.fresh X.lt451 (IO.fields _ _ st) h0w hpn hk
      obtain ⟨m, hn⟩ := Y'.ok.ns
      refine ⟨m, hn, fun h'' hs' => k _ ds _ hdl ?_⟩
      have Z := comp_out X hnp (Y'.weak (ρ' := ρc) (ls' := (s₂.heap.objs.size, .acc (ds.map .ref)) :: ls) (fun _ _ h => h) fun p hp => by
        rcases List.mem_cons.mp hp with q | q
        · rw [q]; exact List.mem_cons_self
        · exact List.mem_cons_of_mem _ (List.mem_append_right _ q)) (by rw [hC]; exact Nat.le_succ_of_le big) hDC hs'
      refine ⟨Z.ok, Z.grow, Z.here, fun b l hm => ?_, Z.far, Z.big, Z.tb, Z.gens, Z.os⟩
      rcases List.mem_cons.mp hm with q | q
      · cases q; exact Z.lists _ _ List.mem_cons_self
      · rcases List.mem_append.mp q with q | q
        · have hh := Y'.lists b l (List.mem_cons_of_mem _ (List.mem_append_left _ q))
          obtain ⟨hb', l', rfl⟩ := colsAt_mem _ _ q
          obtain ⟨vals, ⟨o, ho, r⟩, hr⟩ := hh
          exact ⟨vals, ⟨o, (hs'.2 b (hds b hb').2).trans ho, r⟩, hr⟩
        · exact Z.lists b l (List.mem_cons_of_mem _ q)
  exact codeAny_compStart_list (loop _ rfl) (IO.walks.self 0 _ _ _ hst₁ (loop _ rfl))
end
end Mine
end
section
set_option maxRecDepth 100000
set_option exponentiation.threshold 3000
namespace Mine
open PySem PySem.Float64 PySem.W PySem.Calls PyProof.Rows
section
variable {prog : Program} {w : World} {A : Around} {E : Value → Shared → Prop} {s : Shared} {env : Env} {h0 : Heap} {g0 : Array GenState} {o0 : OsState} {ρ ρc : List (Str × AV)} {ls : List (Addr × HV)} {rest : List Stmt} {P : List Addr} {T : Heap → Prop} {mg mb : Str → Option Value} {cs : List (Addr × Addr)} {K : Frag} {Q : Flow → Shared → Prop}

theorem sumOf_map (sc : List Int) (n m : Nat) : (sc.map AV.int).take n ++ (sc.map AV.int).drop m = (sc.take n ++ sc.drop m).map AV.int := by
  rw [List.map_append, List.map_take, List.map_drop]

theorem from_nm [TabKeep T] {x : Str} {px : Pos} {a : Addr} {i : Int} {kk : Nat} {cp p pos : Pos} {l : List AV} {Q : Value → Shared → Prop} (X : At P T h0 g0 o0 env ρ ls s) (hx : ρ.lookup x = some (.ref a)) (hd : (x == ("__debug__" : Str)) = false) (hl : (a, HV.list l) ∈ ls) (hi : 0 ≤ i) (hsz : l.length ≤ sizeLine)
    (k : ∀ D s', h0.objs.size ≤ D → At P T h0 g0 o0 env ρ ((D, .acc (l.drop i.toNat)) :: ls) s' → Q (.ref D) s') :
    wpAny (model prog w) A (eval (.Subscript (.Name x px) (.Slice (some (.Constant (.int i) kk cp)) none none p) pos) env) Q E s :=
  eval_from (P := P) (T := T) (h0 := h0) (g0 := g0) (o0 := o0) (ρ := ρ) (ls := ls) (l := l) (Pur.nm hx hd s _ _ X fun v tk hv _ => by apply hv.e0 rfl; exact ⟨a, rfl, X.toks, X.lists a _ hl⟩) hi hsz k
theorem upto_nm [TabKeep T] {x : Str} {px : Pos} {a : Addr} {i : Int} {kk : Nat} {cp p pos : Pos} {l : List AV} {Q : Value → Shared → Prop} (X : At P T h0 g0 o0 env ρ ls s) (hx : ρ.lookup x = some (.ref a)) (hd : (x == ("__debug__" : Str)) = false) (hl : (a, HV.list l) ∈ ls) (hi : 0 ≤ i) (hsz : l.length ≤ sizeLine)
    (k : ∀ D s', h0.objs.size ≤ D → At P T h0 g0 o0 env ρ ((D, .acc (l.take i.toNat)) :: ls) s' → Q (.ref D) s') :
    wpAny (model prog w) A (eval (.Subscript (.Name x px) (.Slice none (some (.Constant (.int i) kk cp)) none p) pos) env) Q E s :=
  eval_upto (P := P) (T := T) (h0 := h0) (g0 := g0) (o0 := o0) (ρ := ρ) (ls := ls) (l := l) (Pur.nm hx hd s _ _ X fun v tk hv _ => by apply hv.e0 rfl; exact ⟨a, rfl, X.toks, X.lists a _ hl⟩) hi hsz k

theorem law_1 {a c : Addr} {sc : List Int} (S : Static K cs mg mb) (L : LawEnv env) (G : Gl (tabs cs) env h0 mg mb) (hA : A.handled = none) (hsz : sc.length ≤ 63)
    (X : At (tabs cs) (TT cs) h0 g0 o0 env [("cells", .ref c), ("script", .ref a)] [(c, .list ((cellsOf sc).map .int)), (a, .list (sc.map .int))] s)
    (k : ∀ s', At (tabs cs) (TT cs) h0 g0 o0 env [("head", .int (headOf sc)), ("cells", .ref c)] [(c, .list ((cellsOf sc).map .int))] s' → wpAny (model prog w) A (execs (dLaw.body.drop 2) env) Q E s') :
    wpAny (model prog w) A (execs (dLaw.body.drop 1) env) Q E s := by
  have line : sizeLine = 2 ^ 24 := rfl
  refine s_assignE (P := tabs cs) (T := TT cs) (h0 := h0) (g0 := g0) (o0 := o0) (L.st rfl) (eval_sum (ρ := [("cells", .ref c), ("script", .ref a)]) (ls := [(c, .list ((cellsOf sc).map .int)), (a, .list (sc.map .int))]) (l := sc.take 1 ++ sc.drop 6) hA G ((L.kind _).trans rfl) S.sum.1 S.sum.2 X (fun s₁ X₁ => ?_) fun t s₁ X₁ => ?_)
  · have m2 : (a, HV.list (sc.map AV.int)) ∈ [(c, HV.list ((cellsOf sc).map .int)), (a, .list (sc.map .int))] := List.mem_cons_of_mem _ List.mem_cons_self
    refine wpAny_BinOp (upto_nm X₁ rfl (by decide) m2 (by decide) (by rw [List.length_map]; omega) fun D s₂ hD X₂ => ?_)
    · refine from_nm X₂ rfl (by decide) (List.mem_cons_of_mem _ m2) (by decide) (by rw [List.length_map]; omega) fun D' s₃ hD' X₃ => ?_
      · refine op_add_lists X₃ (X₃.lists D _ (List.mem_cons_of_mem _ List.mem_cons_self)).av (X₃.lists D' _ List.mem_cons_self).av ?_ fun D₃ s₄ _ X₄ => ?_
        · rw [List.length_drop, List.length_take, List.length_map]
          omega
        · refine ⟨D₃, rfl, X₄.weak (fun _ _ h => h) fun p hp => ?_, ?_⟩
          · exact List.mem_cons_of_mem _ (List.mem_cons_of_mem _ (List.mem_cons_of_mem _ hp))
          · have := (X₄.lists D₃ _ List.mem_cons_self).av
            rw [← sumOf_map]
            exact this
  · refine ⟨.int (headOf sc), [("cells", .ref c)], [(c, .list ((cellsOf sc).map .int))], .int _ t, X₁.weak (sub_cons sub_nil rfl) (fun p hp => ?_), fun s₂ X₂ => k s₂ X₂⟩
    rw [List.mem_singleton.mp hp]
    exact List.mem_cons_self

theorem law_2 {c : Addr} {cells : List Int} {h : Int} (S : Static K cs mg mb) (L : LawEnv env) (G : Gl (tabs cs) env h0 mg mb) (hA : A.handled = none)
    (X : At (tabs cs) (TT cs) h0 g0 o0 env [("head", .int h), ("cells", .ref c)] [(c, .list (cells.map .int))] s)
    (k : ∀ s', At (tabs cs) (TT cs) h0 g0 o0 env [("rest", .int (digit h 5)), ("two", .int (digit h 4)), ("one", .int (digit h 3)), ("tilt", .int (digit h 2)), ("middle", .int (digit h 1)), ("base", .int (digit h 0)), ("head", .int h), ("cells", .ref c)] [(c, .list (cells.map .int))] s' → wpAny (model prog w) A (execs (dLaw.body.drop 3) env) Q E s') :
    wpAny (model prog w) A (execs (dLaw.body.drop 2) env) Q E s := by
  have line : sizeLine = 2 ^ 24 := rfl
  refine s_unpack (P := tabs cs) (T := TT cs) (h0 := h0) (g0 := g0) (o0 := o0) (ρ' := [("head", .int h), ("cells", .ref c)]) (ls' := [(c, .list (cells.map .int))]) (xs := ["base", "middle", "tilt", "one", "two", "rest"]) (avs := [.int (digit h 0), .int (digit h 1), .int (digit h 2), .int (digit h 3), .int (digit h 4), .int (digit h 5)]) hA rfl
    (.cons (L.st rfl) (.cons (L.st rfl) (.cons (L.st rfl) (.cons (L.st rfl) (.cons (L.st rfl) (.cons (L.st rfl) .nil)))))) rfl ?_ (fun s' X' => k s' X') rfl rfl
  refine eval_compE (P := tabs cs) (T := TT cs) (h0 := h0) (g0 := g0) (o0 := o0) (ρ := [("head", .int h), ("cells", .ref c)]) (ls := [(c, .list (cells.map .int))]) (ρc := [("head", .int h)]) (keep := fun _ => true) (n := 6) (av := fun i => .int i) (bv := fun i => .int (digit h i))
    no_pins1 (by omega) (fun x hx => ?_) (by decide) rfl rfl (by decide) (fun p hp => ?_) (iterE_of (iter_range hA G X .int (by decide) ((L.kind _).trans rfl) S.gf.range.1 S.gf.range.2)) (fun s₁ X₁ => step_pur fun C i a' fp hp l hi => ?_) fun D s' hD X' => ?_
  · replace hx : (x, NameKind.free) ∈ [((".0" : Str), NameKind.local), ("k", .local), ("head", .free)] := hx
    simp at hx
    subst hx
    exact L.cell _ rfl
  · rw [List.mem_singleton.mp hp]
    exact ⟨rfl, (L.kind _).trans rfl, rfl⟩
  · refine .bin (.bin (.bin (.nm rfl) (.bin .int (.nm rfl) (op_pow (by omega) ?_)) (op_fdiv ?_ ?_)) .int (op_mod (by decide))) .int op_sub
    · show ((Builtin.Int.intBits 20 : Nat) : Int) * i ≤ _
      have : Builtin.Int.intBits 20 = 5 := by decide
      rw [this]; omega
    · rw [Int.toNat_natCast]
      have := Int.pow_pos (n := 20) (m := i) (by decide)
      omega
    · rw [Int.toNat_natCast, Int.natAbs_pow]
      exact Nat.lt_of_le_of_lt (Nat.pow_le_pow_right (by decide) (Nat.le_of_lt hi)) (by decide)
  · exact ⟨D, rfl, X'.weak (fun _ _ h => h) fun p hp => List.mem_cons_of_mem _ hp, (X'.lists D _ List.mem_cons_self).av⟩
end
end Mine
end
section
set_option maxRecDepth 100000
set_option exponentiation.threshold 3000
namespace Mine
open PySem PySem.Float64 PySem.W PySem.Calls PyProof.Rows
section
variable {prog : Program} {w : World} {A : Around} {E : Value → Shared → Prop} {s : Shared} {env : Env} {h0 : Heap} {g0 : Array GenState} {o0 : OsState} {ρ ρc : List (Str × AV)} {ls : List (Addr × HV)} {rest : List Stmt} {P : List Addr} {T : Heap → Prop} {mg mb : Str → Option Value} {cs : List (Addr × Addr)} {K : Frag} {Q : Flow → Shared → Prop}

/-- a, b, .. = value, a list -/
theorem s_unpackE [TabKeep T] {elts : List Expr} {ek : Nat} {tp pos : Pos} {value : Expr} {xs : List Str} {ts : List (Value → Sem Unit)} (hA : A.handled = none)
    (he : assignEach elts env = ts.map fun t => (false, t)) (ht : Tgts env xs ts)
    (hv : wpAny (model prog w) A (eval value env) (fun v s₁ => ∃ a avs ρ' ls', v = .ref a ∧ avs.length = xs.length ∧ At P T h0 g0 o0 env ρ' ls' s₁ ∧ IsAV s₁.heap a avs ∧ ∀ s', At P T h0 g0 o0 env (bound xs avs ρ') ls' s' → wpAny (model prog w) A (execs rest env) Q E s') E s)
    (hs : swapsWithSole [.Tuple elts ek tp] value pos.line env = pure false := by rfl) (hw : swappedStores [.Tuple elts ek tp] value env = pure none := by rfl) :
    wpAny (model prog w) A (execs (.Assign [.Tuple elts ek tp] value pos :: rest) env) Q E s := by
  refine wpAny_execs_cons (Assign_Tuple (wpAny_mono hv (fun v s₁ h₁ => ?_) fun _ _ e => e) hs hw)
  obtain ⟨a, avs, ρ', ls', rfl, hn, X, ⟨vals, hL, hR⟩, k⟩ := h₁
  have htl : ∀ {xs ts}, Tgts env xs ts → ts.length = xs.length := fun {xs ts} h => by
    induction h with
    | nil => rfl
    | cons _ _ ih => rw [List.length_cons, List.length_cons, ih]
  have len : (assignEach elts env).length = vals.toArray.size := by rw [he, List.length_map, htl ht, List.size_toArray, hR.length, hn]
  rw [assign_Tuple]
  refine wpAny_bind (wpAny_standAt ?_)
  unfold unpack
  rw [len]
  have hf : (assignEach elts env).findIdx? (·.1) = none := by
    rw [he]
    rw [List.findIdx?_eq_none_iff]
    intro x hx
    obtain ⟨t, _, rfl⟩ := List.mem_map.mp hx
    rfl
  rw [hf]
  refine wpAny_bind (wpAny_holding (kun_itemsOf hA hL fun h' he' => ?_))
  rw [he, List.map_map, show ((fun x : Bool × (Value → Sem Unit) => x.2) ∘ fun t => (false, t)) = id from rfl, List.map_id]
  exact At.bindAll (s := { s₁ with heap := h' }) ht hR hn (X.keeps (ext_new he') rfl rfl) fun s' X' _ => k s' X'

theorem relabel_gi {env : Env} : ∀ {names : List (Str × NameKind)} {x : Str}, names.lookup x = some .globalImplicit →
    (names.map fun (n, k) => if (k == NameKind.free && env.scope.kind == .function && env.kindOf n == some .cell) then (n, NameKind.cell) else (n, k)).lookup x = some .globalImplicit
  | [], _, h => by simp at h
  | (n, k) :: r, x, h => by
    show List.lookup x ((if (k == NameKind.free && env.scope.kind == .function && env.kindOf n == some .cell) = true then (n, NameKind.cell) else (n, k)) :: _) = _
    by_cases hx : x = n
    · subst hx
      rw [List.lookup_cons, beq_self_eq_true] at h
      cases h
      rw [if_neg (by intro q; simp at q), List.lookup_cons, beq_self_eq_true]
    · have hb := beq_eq_false_iff_ne.mpr hx
      rw [List.lookup_cons, hb] at h
      have ih := relabel_gi (env := env) h
      split <;> (rw [List.lookup_cons, hb]; exact ih)
theorem kind_gi {scope : Scope} {cl : List (Str × Addr)} {C : Addr} {x : Str} (h : scope.names.lookup x = some .globalImplicit) : (compEnvC scope cl C env).kindOf x = some .globalImplicit := relabel_gi h

/-- the names bound so far -/
noncomputable abbrev nums6 (h : Int) (c : Addr) : List (Str × AV) := [("rest", .int (digit h 5)), ("two", .int (digit h 4)), ("one", .int (digit h 3)), ("tilt", .int (digit h 2)), ("middle", .int (digit h 1)), ("base", .int (digit h 0)), ("head", .int h), ("cells", .ref c)]

theorem law_3 {c : Addr} {cells : List Int} {h : Int} (S : Static K cs mg mb) (W : Wd K cs mg mb h0) (L : LawEnv env) (G : Gl (tabs cs) env h0 mg mb) (hA : A.handled = none) (hroom : A.depth + 6 < recursionLimit) (hlen : cells.length ≤ 100) (hb : ∀ x ∈ cells, 0 ≤ x ∧ x < 15)
    (X : At (tabs cs) (TT cs) h0 g0 o0 env (nums6 h c) [(c, .list (cells.map .int))] s)
    (k : ∀ d0 d1 d2 s', At (tabs cs) (TT cs) h0 g0 o0 env (("noise", .ref d2) :: ("second", .ref d1) :: ("first", .ref d0) :: nums6 h c) [(d0, .list ((columnN cells 0 (h.fmod (cells.length + 1))).map .int)), (d1, .list ((columnN cells 1 (h.fmod (cells.length + 1))).map .int)), (d2, .list ((columnN cells 2 (h.fmod (cells.length + 1))).map .int)), (c, .list (cells.map .int))] s' → wpAny (model prog w) A (execs (dLaw.body.drop 4) env) Q E s') :
    wpAny (model prog w) A (execs (dLaw.body.drop 3) env) Q E s := by
  have line : sizeLine = 2 ^ 24 := rfl
  refine s_unpackE (P := tabs cs) (T := TT cs) (h0 := h0) (g0 := g0) (o0 := o0) (xs := ["first", "second", "noise"]) hA rfl (.cons (L.lo rfl) (.cons (L.lo rfl) (.cons (L.lo rfl) .nil))) ?_ rfl rfl
  refine eval_compR (P := tabs cs) (T := TT cs) (h0 := h0) (g0 := g0) (o0 := o0) (ρ := nums6 h c) (ls := [(c, .list (cells.map .int))]) (ρc := [("cells", .ref c), ("head", .int h)]) (n := 3) (av := fun i => .int i) (col := fun i => (columnN cells i (h.fmod (cells.length + 1))).map .int)
    no_pins1 (by omega) (fun x hx => ?_) (by decide) rfl rfl (by decide) (fun p hp => ?_) (iterE_of (iter_range hA G X .int (by decide) ((L.kind _).trans rfl) S.gf.range.1 S.gf.range.2)) (fun s₁ C i s' a fp hp ds E' X₁ hi hdl hfp hC ha Y => ?_) fun D ds s' hdl X' => ?_
  · replace hx : (x, NameKind.free) ∈ [((".0" : Str), NameKind.local), ("owner", .local), ("_law_column", .globalImplicit), ("len", .globalImplicit), ("cells", .free), ("head", .free)] := hx
    simp at hx
    rcases hx with rfl | rfl <;> exact L.cell _ rfl
  · rcases List.mem_cons.mp hp with q | q
    · rw [q]; exact ⟨rfl, (L.kind _).trans rfl, rfl⟩
    · rw [List.mem_singleton.mp q]; exact ⟨rfl, (L.kind _).trans rfl, rfl⟩
  · have W' := W.at S X₁
    have mem : ∀ z : Addr × HV, (c, HV.list (cells.map .int)) ∈ z :: (0, HV.pin fp hp) :: (colsAt (fun i => (columnN cells i (h.fmod (cells.length + 1))).map .int) 0 ds ++ [(c, HV.list (cells.map .int))]) := fun z => List.mem_cons_of_mem _ (List.mem_cons_of_mem _ (List.mem_append_right _ List.mem_cons_self))
    have Wk := W'.at S Y
    refine (S.col.2.at Wk.k).elim fun o pm cd doc ho hd hcd => ?_
    refine eval_call (G.comp X₁) ?_ S.col.1 (by decide) Y ho hd (.cons (.nm rfl) (.cons (.nm rfl) (.cons (.bin (.nm rfl) (.bin (Pur.len (G.comp X₁) ?_ S.gf.len.1 S.gf.len.2 (.nm rfl) (mem _) (by rw [List.length_map]) (by omega)) .int op_add) (op_mod (by omega))) .nil rfl) rfl) rfl) fun vs tk hvs => ?_
    · exact kind_gi rfl
    · exact kind_gi rfl
    · have Y' := Y.toks (tk := tk)
      have Wt := W'.at S Y'
      refine call_column (cs := cells) (ow := i) (turn := h.fmod (cells.length + 1)) (c := c) Wt.w (S.col.2.at Wt.k) S.gf hA (by omega) hlen hb (Y'.lists c _ (mem _)) hvs fun d s₂ hl hd af => ⟨d, rfl, hd, Y'.call af fun b fp' h' hm => ?_, hl⟩
      rcases List.mem_cons.mp hm with q | q
      · cases q
      · rcases List.mem_cons.mp q with q | q
        · cases q; exact hfp
        · rcases List.mem_append.mp q with q | q
          · obtain ⟨_, _, q⟩ := colsAt_mem _ _ q
            cases q
          · cases List.mem_singleton.mp q
  · match ds, hdl with
    | [d0, d1, d2], _ =>
      refine ⟨D, [.ref d0, .ref d1, .ref d2], nums6 h c, [(d0, .list ((columnN cells 0 (h.fmod (cells.length + 1))).map .int)), (d1, .list ((columnN cells 1 (h.fmod (cells.length + 1))).map .int)), (d2, .list ((columnN cells 2 (h.fmod (cells.length + 1))).map .int)), (c, .list (cells.map .int))], rfl, rfl, X'.weak (fun _ _ h => h) (fun p hp => List.mem_cons_of_mem _ hp), (X'.lists D _ List.mem_cons_self).av, fun s'' X'' => k d0 d1 d2 s'' X''⟩
end
end Mine
end
section
set_option maxRecDepth 100000
set_option exponentiation.threshold 3000
namespace Mine
open PySem PySem.Float64 PySem.W PySem.Calls PyProof.Rows
section
variable {prog : Program} {w : World} {A : Around} {E : Value → Shared → Prop} {s : Shared} {env : Env} {h0 : Heap} {g0 : Array GenState} {o0 : OsState} {ρ ρc : List (Str × AV)} {ls : List (Addr × HV)} {rest : List Stmt} {P : List Addr} {T : Heap → Prop} {mg mb : Str → Option Value} {cs : List (Addr × Addr)} {K : Frag} {Q : Flow → Shared → Prop}
theorem step_one {s₁ : Shared} {scope : Scope} {cl : List (Str × Addr)} {x : Str} {elt : Expr} {n : Nat} {av bv : Nat → AV}
    (h : ∀ C i s' a fp hp l (E' : Value → Shared → Prop), i < n → (∀ b ∈ fp, b ∉ P) → At P T s₁.heap s₁.gens s₁.os (compEnvC scope cl C env) ((x, av i) :: ρc) ((a, .acc l) :: (0, .pin fp hp) :: ls) s' →
      wpAny (model prog w) A (eval elt (compEnvC scope cl C env)) (fun y s₄ => Rep (bv i) y ∧ At P T s₁.heap s₁.gens s₁.os (compEnvC scope cl C env) ((x, av i) :: ρc) ((a, .acc l) :: (0, .pin fp hp) :: ls) s₄) E' s') :
    CompStep prog w A P T s₁ env scope cl x [] elt n av bv (fun _ => true) ρc ls := by
  intro C i s' a fp hp l E' hi hfp Y
  exact wpAny_pure ⟨rfl, Y, fun _ => h C i s' a fp hp l E' hi hfp Y⟩
theorem pins_one {fp : List Addr} {hp : Heap} {a : Addr} {l : List AV} {ls : List (Addr × HV)} (hfp : ∀ b ∈ fp, b ∉ P) (hnp : ∀ a fp h, (a, HV.pin fp h) ∉ ls) :
    ∀ b fp' h', (b, HV.pin fp' h') ∈ (a, HV.acc l) :: (0, HV.pin fp hp) :: ls → ∀ d ∈ fp', d ∉ P := fun b fp' h' hm => by
  rcases List.mem_cons.mp hm with q | q
  · cases q
  · rcases List.mem_cons.mp q with q | q
    · cases q; exact hfp
    · exact absurd q (hnp _ _ _)

noncomputable abbrev names9 (h : Int) (c d0 d1 d2 : Addr) : List (Str × AV) := ("noise", .ref d2) :: ("second", .ref d1) :: ("first", .ref d0) :: nums6 h c
noncomputable abbrev lists4 (c0 c1 c2 cells : List Int) (c d0 d1 d2 : Addr) : List (Addr × HV) := [(d0, .list (c0.map .int)), (d1, .list (c1.map .int)), (d2, .list (c2.map .int)), (c, .list (cells.map .int))]
theorem lists4_np {c0 c1 c2 cells : List Int} {c d0 d1 d2 : Addr} : ∀ a fp h, (a, HV.pin fp h) ∉ lists4 c0 c1 c2 cells c d0 d1 d2 := np_of rfl

theorem law_4 {c d0 d1 d2 : Addr} {cells c0 c1 c2 : List Int} {h : Int} (S : Static K cs mg mb) (W : Wd K cs mg mb h0) (L : LawEnv env) (G : Gl (tabs cs) env h0 mg mb) (hA : A.handled = none) (hroom : A.depth + 6 < recursionLimit) (hlen : cells.length ≤ 100) (hb : ∀ x ∈ cells, 0 ≤ x ∧ x < 15)
    (X : At (tabs cs) (TT cs) h0 g0 o0 env (names9 h c d0 d1 d2) (lists4 c0 c1 c2 cells c d0 d1 d2) s)
    (k : ∀ s', At (tabs cs) (TT cs) h0 g0 o0 env (("stray", .int (sizeN cells 2 cells.length)) :: ("other", .int (sizeN cells 1 cells.length)) :: ("size", .int (sizeN cells 0 cells.length)) :: names9 h c d0 d1 d2) (lists4 c0 c1 c2 cells c d0 d1 d2) s' → wpAny (model prog w) A (execs (dLaw.body.drop 5) env) Q E s') :
    wpAny (model prog w) A (execs (dLaw.body.drop 4) env) Q E s := by
  have line : sizeLine = 2 ^ 24 := rfl
  refine s_unpack (P := tabs cs) (T := TT cs) (h0 := h0) (g0 := g0) (o0 := o0) (ρ' := names9 h c d0 d1 d2) (ls' := lists4 c0 c1 c2 cells c d0 d1 d2) (xs := ["size", "other", "stray"]) (avs := [.int (sizeN cells 0 cells.length), .int (sizeN cells 1 cells.length), .int (sizeN cells 2 cells.length)]) hA rfl
    (.cons (L.lo rfl) (.cons (L.lo rfl) (.cons (L.lo rfl) .nil))) rfl ?_ (fun s' X' => k s' X') rfl rfl
  refine eval_compE (P := tabs cs) (T := TT cs) (h0 := h0) (g0 := g0) (o0 := o0) (ρ := names9 h c d0 d1 d2) (ls := lists4 c0 c1 c2 cells c d0 d1 d2) (ρc := [("cells", .ref c)]) (keep := fun _ => true) (n := 3) (av := fun i => .int i) (bv := fun i => .int (sizeN cells i cells.length))
    lists4_np (by omega) (fun x hx => ?_) (by decide) rfl rfl (by decide) (fun p hp => ?_) (iterE_of (iter_range hA G X .int (by decide) ((L.kind _).trans rfl) S.gf.range.1 S.gf.range.2)) (fun s₁ X₁ => step_one fun C i s' a' fp hp l E' hi hfp Y => ?_) fun D s' hD X' => ?_
  · replace hx : (x, NameKind.free) ∈ [((".0" : Str), NameKind.local), ("owner", .local), ("_law_size", .globalImplicit), ("cells", .free)] := hx
    simp at hx
    subst hx
    exact L.cell _ rfl
  · rw [List.mem_singleton.mp hp]
    exact ⟨rfl, (L.kind _).trans rfl, rfl⟩
  · have W' := W.at S X₁
    have Wk := W'.at S Y
    have mem : (c, HV.list (cells.map .int)) ∈ ((a', HV.acc l) :: (0, HV.pin fp hp) :: lists4 c0 c1 c2 cells c d0 d1 d2) := by first | exact mi 0 rfl | exact mi 1 rfl | exact mi 2 rfl | exact mi 3 rfl | exact mi 4 rfl | exact mi 5 rfl | exact mi 6 rfl | exact mi 7 rfl | exact mi 8 rfl | exact mi 9 rfl | exact mi 10 rfl | exact mi 11 rfl | exact mi 12 rfl | exact mi 13 rfl | exact mi 14 rfl | exact mi 15 rfl | exact mi 16 rfl | exact mi 17 rfl | exact mi 18 rfl | exact mi 19 rfl | exact mi 20 rfl | exact mi 21 rfl | exact mi 22 rfl
    refine (S.size.2.at Wk.k).elim fun o pm cd doc ho hd hcd => ?_
    refine eval_call (G.comp X₁) (kind_gi rfl) S.size.1 (by decide) Y ho hd (.cons (.nm rfl) (.cons (.nm rfl) .nil rfl) rfl) fun vs tk hvs => ?_
    have Y' := Y.toks (tk := tk)
    have Wt := W'.at S Y'
    exact call_size (cs := cells) (ow := i) (c := c) Wt.w (S.size.2.at Wt.k) S.gf hA (by omega) hlen hb (Y'.lists c _ mem) hvs fun v s₂ hv af => ⟨hv, Y'.call af (pins_one hfp lists4_np)⟩
  · exact ⟨D, rfl, X'.weak (fun _ _ h => h) fun p hp => List.mem_cons_of_mem _ hp, (X'.lists D _ List.mem_cons_self).av⟩
end
end Mine
end
section
set_option maxRecDepth 100000
namespace Mine
open PySem
/-- an owner's weight at place k -/
noncomputable def mk (cs : List Int) (ow : Int) (k : Nat) : Int := if (cs.getD k 0).fmod 3 = ow then (cs.getD k 0).fdiv 3 - 2 else 0
/-- Helmert's contrasts -/
noncomputable def hel (k : Nat) (pt : Int) : Int := if pt ≤ k + 1 then (if pt = k + 1 then -(k : Int) - 1 else 1) else 0
theorem colTerm_eq (cs : List Int) (ow pt : Int) (k : Nat) : colTerm cs ow pt k = mk cs ow k * hel k pt := by
  unfold colTerm mk hel
  by_cases h1 : (cs.getD k 0).fmod 3 = ow
  · by_cases h2 : pt ≤ k + 1
    · rw [if_pos ⟨h1, h2⟩, if_pos h1, if_pos h2]
    · rw [if_neg (fun h => h2 h.2), if_pos h1, if_neg h2, Int.mul_zero]
  · rw [if_neg (fun h => h1 h.1), if_neg h1, Int.zero_mul]
noncomputable def dot (as bs : List Int) : Int := (List.zipWith (· * ·) as bs).sum
/-- the columns' product: the weights' products, each with its contrast's size -/
noncomputable def wdot (a b : Nat → Int) : Nat → Int
  | 0 => 0
  | k + 1 => wdot a b k + a k * b k * (((k : Int) + 1) * (k + 2))
noncomputable def colM (m : Nat → Int) (n : Nat) (turn : Int) : List Int := (List.range (n + 1)).map fun (place : Nat) => ((List.range n).map fun (k : Nat) => m k * hel k (((place : Int) + turn).fmod (n + 1))).sum
noncomputable def row (a : Nat → Int) (n : Nat) (j : Int) : Int := ((List.range n).map fun (k : Nat) => a k * hel k j).sum
theorem rows3 (a b : Nat → Int) : row a 3 0 * row b 3 0 + row a 3 1 * row b 3 1 + row a 3 2 * row b 3 2 + row a 3 3 * row b 3 3 = wdot a b 3 := by
  simp [row, wdot, hel, List.range, List.range.loop]; grind
theorem rowsum3 (a : Nat → Int) : row a 3 0 + row a 3 1 + row a 3 2 + row a 3 3 = 0 := by
  simp [row, hel, List.range, List.range.loop]; omega
theorem turn3_0 (p0 p1 p2 p3 : Int) : p0 + (p1 + (p2 + (p3 + (0)))) = p0 + p1 + p2 + p3 := by omega
theorem turn3_1 (p0 p1 p2 p3 : Int) : p1 + (p2 + (p3 + (p0 + (0)))) = p0 + p1 + p2 + p3 := by omega
theorem turn3_2 (p0 p1 p2 p3 : Int) : p2 + (p3 + (p0 + (p1 + (0)))) = p0 + p1 + p2 + p3 := by omega
theorem turn3_3 (p0 p1 p2 p3 : Int) : p3 + (p0 + (p1 + (p2 + (0)))) = p0 + p1 + p2 + p3 := by omega
theorem rows4 (a b : Nat → Int) : row a 4 0 * row b 4 0 + row a 4 1 * row b 4 1 + row a 4 2 * row b 4 2 + row a 4 3 * row b 4 3 + row a 4 4 * row b 4 4 = wdot a b 4 := by
  simp [row, wdot, hel, List.range, List.range.loop]; grind
theorem rowsum4 (a : Nat → Int) : row a 4 0 + row a 4 1 + row a 4 2 + row a 4 3 + row a 4 4 = 0 := by
  simp [row, hel, List.range, List.range.loop]; omega
theorem turn4_0 (p0 p1 p2 p3 p4 : Int) : p0 + (p1 + (p2 + (p3 + (p4 + (0))))) = p0 + p1 + p2 + p3 + p4 := by omega
theorem turn4_1 (p0 p1 p2 p3 p4 : Int) : p1 + (p2 + (p3 + (p4 + (p0 + (0))))) = p0 + p1 + p2 + p3 + p4 := by omega
theorem turn4_2 (p0 p1 p2 p3 p4 : Int) : p2 + (p3 + (p4 + (p0 + (p1 + (0))))) = p0 + p1 + p2 + p3 + p4 := by omega
theorem turn4_3 (p0 p1 p2 p3 p4 : Int) : p3 + (p4 + (p0 + (p1 + (p2 + (0))))) = p0 + p1 + p2 + p3 + p4 := by omega
theorem turn4_4 (p0 p1 p2 p3 p4 : Int) : p4 + (p0 + (p1 + (p2 + (p3 + (0))))) = p0 + p1 + p2 + p3 + p4 := by omega
theorem rows5 (a b : Nat → Int) : row a 5 0 * row b 5 0 + row a 5 1 * row b 5 1 + row a 5 2 * row b 5 2 + row a 5 3 * row b 5 3 + row a 5 4 * row b 5 4 + row a 5 5 * row b 5 5 = wdot a b 5 := by
  simp [row, wdot, hel, List.range, List.range.loop]; grind
theorem rowsum5 (a : Nat → Int) : row a 5 0 + row a 5 1 + row a 5 2 + row a 5 3 + row a 5 4 + row a 5 5 = 0 := by
  simp [row, hel, List.range, List.range.loop]; omega
theorem turn5_0 (p0 p1 p2 p3 p4 p5 : Int) : p0 + (p1 + (p2 + (p3 + (p4 + (p5 + (0)))))) = p0 + p1 + p2 + p3 + p4 + p5 := by omega
theorem turn5_1 (p0 p1 p2 p3 p4 p5 : Int) : p1 + (p2 + (p3 + (p4 + (p5 + (p0 + (0)))))) = p0 + p1 + p2 + p3 + p4 + p5 := by omega
theorem turn5_2 (p0 p1 p2 p3 p4 p5 : Int) : p2 + (p3 + (p4 + (p5 + (p0 + (p1 + (0)))))) = p0 + p1 + p2 + p3 + p4 + p5 := by omega
theorem turn5_3 (p0 p1 p2 p3 p4 p5 : Int) : p3 + (p4 + (p5 + (p0 + (p1 + (p2 + (0)))))) = p0 + p1 + p2 + p3 + p4 + p5 := by omega
theorem turn5_4 (p0 p1 p2 p3 p4 p5 : Int) : p4 + (p5 + (p0 + (p1 + (p2 + (p3 + (0)))))) = p0 + p1 + p2 + p3 + p4 + p5 := by omega
theorem turn5_5 (p0 p1 p2 p3 p4 p5 : Int) : p5 + (p0 + (p1 + (p2 + (p3 + (p4 + (0)))))) = p0 + p1 + p2 + p3 + p4 + p5 := by omega
theorem colM_dot (a b : Nat → Int) (n : Nat) (hn : n = 3 ∨ n = 4 ∨ n = 5) (turn : Int) (h0 : 0 ≤ turn) (h1 : turn < n + 1) : dot (colM a n turn) (colM b n turn) = wdot a b n := by
  rcases hn with rfl | rfl | rfl
  · have ht : turn = 0 ∨ turn = 1 ∨ turn = 2 ∨ turn = 3 := by omega
    rcases ht with rfl | rfl | rfl | rfl
    · exact (turn3_0 (row a 3 0 * row b 3 0) (row a 3 1 * row b 3 1) (row a 3 2 * row b 3 2) (row a 3 3 * row b 3 3)).trans (rows3 a b)
    · exact (turn3_1 (row a 3 0 * row b 3 0) (row a 3 1 * row b 3 1) (row a 3 2 * row b 3 2) (row a 3 3 * row b 3 3)).trans (rows3 a b)
    · exact (turn3_2 (row a 3 0 * row b 3 0) (row a 3 1 * row b 3 1) (row a 3 2 * row b 3 2) (row a 3 3 * row b 3 3)).trans (rows3 a b)
    · exact (turn3_3 (row a 3 0 * row b 3 0) (row a 3 1 * row b 3 1) (row a 3 2 * row b 3 2) (row a 3 3 * row b 3 3)).trans (rows3 a b)
  · have ht : turn = 0 ∨ turn = 1 ∨ turn = 2 ∨ turn = 3 ∨ turn = 4 := by omega
    rcases ht with rfl | rfl | rfl | rfl | rfl
    · exact (turn4_0 (row a 4 0 * row b 4 0) (row a 4 1 * row b 4 1) (row a 4 2 * row b 4 2) (row a 4 3 * row b 4 3) (row a 4 4 * row b 4 4)).trans (rows4 a b)
    · exact (turn4_1 (row a 4 0 * row b 4 0) (row a 4 1 * row b 4 1) (row a 4 2 * row b 4 2) (row a 4 3 * row b 4 3) (row a 4 4 * row b 4 4)).trans (rows4 a b)
    · exact (turn4_2 (row a 4 0 * row b 4 0) (row a 4 1 * row b 4 1) (row a 4 2 * row b 4 2) (row a 4 3 * row b 4 3) (row a 4 4 * row b 4 4)).trans (rows4 a b)
    · exact (turn4_3 (row a 4 0 * row b 4 0) (row a 4 1 * row b 4 1) (row a 4 2 * row b 4 2) (row a 4 3 * row b 4 3) (row a 4 4 * row b 4 4)).trans (rows4 a b)
    · exact (turn4_4 (row a 4 0 * row b 4 0) (row a 4 1 * row b 4 1) (row a 4 2 * row b 4 2) (row a 4 3 * row b 4 3) (row a 4 4 * row b 4 4)).trans (rows4 a b)
  · have ht : turn = 0 ∨ turn = 1 ∨ turn = 2 ∨ turn = 3 ∨ turn = 4 ∨ turn = 5 := by omega
    rcases ht with rfl | rfl | rfl | rfl | rfl | rfl
    · exact (turn5_0 (row a 5 0 * row b 5 0) (row a 5 1 * row b 5 1) (row a 5 2 * row b 5 2) (row a 5 3 * row b 5 3) (row a 5 4 * row b 5 4) (row a 5 5 * row b 5 5)).trans (rows5 a b)
    · exact (turn5_1 (row a 5 0 * row b 5 0) (row a 5 1 * row b 5 1) (row a 5 2 * row b 5 2) (row a 5 3 * row b 5 3) (row a 5 4 * row b 5 4) (row a 5 5 * row b 5 5)).trans (rows5 a b)
    · exact (turn5_2 (row a 5 0 * row b 5 0) (row a 5 1 * row b 5 1) (row a 5 2 * row b 5 2) (row a 5 3 * row b 5 3) (row a 5 4 * row b 5 4) (row a 5 5 * row b 5 5)).trans (rows5 a b)
    · exact (turn5_3 (row a 5 0 * row b 5 0) (row a 5 1 * row b 5 1) (row a 5 2 * row b 5 2) (row a 5 3 * row b 5 3) (row a 5 4 * row b 5 4) (row a 5 5 * row b 5 5)).trans (rows5 a b)
    · exact (turn5_4 (row a 5 0 * row b 5 0) (row a 5 1 * row b 5 1) (row a 5 2 * row b 5 2) (row a 5 3 * row b 5 3) (row a 5 4 * row b 5 4) (row a 5 5 * row b 5 5)).trans (rows5 a b)
    · exact (turn5_5 (row a 5 0 * row b 5 0) (row a 5 1 * row b 5 1) (row a 5 2 * row b 5 2) (row a 5 3 * row b 5 3) (row a 5 4 * row b 5 4) (row a 5 5 * row b 5 5)).trans (rows5 a b)
theorem colM_sum (a : Nat → Int) (n : Nat) (hn : n = 3 ∨ n = 4 ∨ n = 5) (turn : Int) (h0 : 0 ≤ turn) (h1 : turn < n + 1) : (colM a n turn).sum = 0 := by
  rcases hn with rfl | rfl | rfl
  · have ht : turn = 0 ∨ turn = 1 ∨ turn = 2 ∨ turn = 3 := by omega
    rcases ht with rfl | rfl | rfl | rfl
    · exact (turn3_0 (row a 3 0) (row a 3 1) (row a 3 2) (row a 3 3)).trans (rowsum3 a)
    · exact (turn3_1 (row a 3 0) (row a 3 1) (row a 3 2) (row a 3 3)).trans (rowsum3 a)
    · exact (turn3_2 (row a 3 0) (row a 3 1) (row a 3 2) (row a 3 3)).trans (rowsum3 a)
    · exact (turn3_3 (row a 3 0) (row a 3 1) (row a 3 2) (row a 3 3)).trans (rowsum3 a)
  · have ht : turn = 0 ∨ turn = 1 ∨ turn = 2 ∨ turn = 3 ∨ turn = 4 := by omega
    rcases ht with rfl | rfl | rfl | rfl | rfl
    · exact (turn4_0 (row a 4 0) (row a 4 1) (row a 4 2) (row a 4 3) (row a 4 4)).trans (rowsum4 a)
    · exact (turn4_1 (row a 4 0) (row a 4 1) (row a 4 2) (row a 4 3) (row a 4 4)).trans (rowsum4 a)
    · exact (turn4_2 (row a 4 0) (row a 4 1) (row a 4 2) (row a 4 3) (row a 4 4)).trans (rowsum4 a)
    · exact (turn4_3 (row a 4 0) (row a 4 1) (row a 4 2) (row a 4 3) (row a 4 4)).trans (rowsum4 a)
    · exact (turn4_4 (row a 4 0) (row a 4 1) (row a 4 2) (row a 4 3) (row a 4 4)).trans (rowsum4 a)
  · have ht : turn = 0 ∨ turn = 1 ∨ turn = 2 ∨ turn = 3 ∨ turn = 4 ∨ turn = 5 := by omega
    rcases ht with rfl | rfl | rfl | rfl | rfl | rfl
    · exact (turn5_0 (row a 5 0) (row a 5 1) (row a 5 2) (row a 5 3) (row a 5 4) (row a 5 5)).trans (rowsum5 a)
    · exact (turn5_1 (row a 5 0) (row a 5 1) (row a 5 2) (row a 5 3) (row a 5 4) (row a 5 5)).trans (rowsum5 a)
    · exact (turn5_2 (row a 5 0) (row a 5 1) (row a 5 2) (row a 5 3) (row a 5 4) (row a 5 5)).trans (rowsum5 a)
    · exact (turn5_3 (row a 5 0) (row a 5 1) (row a 5 2) (row a 5 3) (row a 5 4) (row a 5 5)).trans (rowsum5 a)
    · exact (turn5_4 (row a 5 0) (row a 5 1) (row a 5 2) (row a 5 3) (row a 5 4) (row a 5 5)).trans (rowsum5 a)
    · exact (turn5_5 (row a 5 0) (row a 5 1) (row a 5 2) (row a 5 3) (row a 5 4) (row a 5 5)).trans (rowsum5 a)
end Mine
end
section
set_option maxRecDepth 100000
namespace Mine
open PySem
theorem heightN_eq (cs : List Int) (ow pt : Int) : ∀ i, heightN cs ow pt i = ((List.range i).map fun (k : Nat) => mk cs ow k * hel k pt).sum
  | 0 => rfl
  | i + 1 => by
    show heightN cs ow pt i + colTerm cs ow pt i = _
    rw [heightN_eq cs ow pt i, colTerm_eq, List.range_succ, List.map_append, List.sum_append]
    simp
theorem columnN_eq (cs : List Int) (ow turn : Int) : columnN cs ow turn = colM (mk cs ow) cs.length turn := by
  unfold columnN colM
  apply List.map_congr_left
  intro p _
  unfold colN
  exact heightN_eq ..
theorem sizeN_eq (cs : List Int) (ow : Int) : ∀ i, sizeN cs ow i = wdot (mk cs ow) (mk cs ow) i
  | 0 => rfl
  | i + 1 => by
    show sizeN cs ow i + sizeTerm cs ow i = wdot _ _ i + _
    rw [sizeN_eq cs ow i]
    unfold sizeTerm mk
    by_cases h : (cs.getD i 0).fmod 3 = ow
    · rw [if_pos h, if_pos h]; grind
    · rw [if_neg h, if_neg h]; simp
theorem wdot_apart (cs : List Int) {a b : Int} (hab : a ≠ b) : ∀ i, wdot (mk cs a) (mk cs b) i = 0
  | 0 => rfl
  | i + 1 => by
    show wdot _ _ i + _ = 0
    rw [wdot_apart cs hab i]
    unfold mk
    by_cases h : (cs.getD i 0).fmod 3 = a
    · rw [if_pos h, if_neg (fun h' => hab (h.symm.trans h'))]; simp
    · rw [if_neg h]; simp
theorem mk_small (cs : List Int) (hb : ∀ x ∈ cs, 0 ≤ x ∧ x < 15) (ow : Int) (k : Nat) : -2 ≤ mk cs ow k ∧ mk cs ow k ≤ 2 := by
  unfold mk
  split
  · by_cases hk : k < cs.length
    · have hm : cs.getD k 0 ∈ cs := by
        rw [List.getD_eq_getElem?_getD, List.getElem?_eq_getElem hk]
        exact List.getElem_mem hk
      obtain ⟨h1, h2⟩ := hb _ hm
      rw [Int.fdiv_eq_ediv_of_nonneg _ (by decide)]
      omega
    · rw [List.getD_eq_getElem?_getD, List.getElem?_eq_none (by omega)]
      decide
  · omega
theorem hel_small (k : Nat) (pt : Int) (hk : k < 5) : -5 ≤ hel k pt ∧ hel k pt ≤ 1 := by
  unfold hel
  split
  · split <;> omega
  · omega
theorem columnN_len (cs : List Int) (ow turn : Int) : (columnN cs ow turn).length = cs.length + 1 := by
  unfold columnN
  rw [List.length_map, List.length_range]
end Mine
end
section
set_option maxRecDepth 100000
namespace Mine
open PySem
noncomputable def vadd (a b : List Int) : List Int := List.zipWith (· + ·) a b
noncomputable def smul (k : Int) (a : List Int) : List Int := a.map (k * ·)
theorem vadd_len {a b : List Int} (h : b.length = a.length) : (vadd a b).length = a.length := by unfold vadd; rw [List.length_zipWith, h, Nat.min_self]
theorem smul_len (k : Int) (a : List Int) : (smul k a).length = a.length := by unfold smul; rw [List.length_map]
theorem dot_cons (x y : Int) (a b : List Int) : dot (x :: a) (y :: b) = x * y + dot a b := by simp [dot]
theorem dot_comm : ∀ (a b : List Int), dot a b = dot b a
  | [], [] => rfl
  | [], _ :: _ => rfl
  | _ :: _, [] => rfl
  | x :: a, y :: b => by rw [dot_cons, dot_cons, dot_comm a b, Int.mul_comm]
theorem dot_vadd : ∀ (a b c : List Int), b.length = a.length → c.length = a.length → dot (vadd a b) c = dot a c + dot b c
  | [], [], [], _, _ => rfl
  | x :: a, y :: b, z :: c, h1, h2 => by
    show dot ((x + y) :: vadd a b) (z :: c) = _
    rw [dot_cons, dot_cons, dot_cons, dot_vadd a b c (by simpa using h1) (by simpa using h2)]
    grind
  | [], [], _ :: _, _, h => by simp at h
  | [], _ :: _, _, h, _ => by simp at h
  | _ :: _, [], _, h, _ => by simp at h
  | _ :: _, _ :: _, [], _, h => by simp at h
theorem dot_smul (k : Int) : ∀ (a c : List Int), dot (smul k a) c = k * dot a c
  | [], c => by cases c <;> simp [smul, dot]
  | _ :: _, [] => by simp [smul, dot]
  | x :: a, z :: c => by
    show dot ((k * x) :: smul k a) (z :: c) = _
    rw [dot_cons, dot_cons, dot_smul k a c]
    grind
theorem dot_vadd_r (a b c : List Int) (h1 : b.length = a.length) (h2 : c.length = a.length) : dot c (vadd a b) = dot c a + dot c b := by
  rw [dot_comm, dot_vadd a b c h1 h2, dot_comm a c, dot_comm b c]
theorem dot_smul_r (k : Int) (a c : List Int) : dot c (smul k a) = k * dot c a := by rw [dot_comm, dot_smul, dot_comm]
theorem sum_vadd : ∀ (a b : List Int), b.length = a.length → (vadd a b).sum = a.sum + b.sum
  | [], [], _ => rfl
  | x :: a, y :: b, h => by
    show ((x + y) :: vadd a b).sum = _
    rw [List.sum_cons, List.sum_cons, List.sum_cons, sum_vadd a b (by simpa using h)]
    omega
  | [], _ :: _, h => by simp at h
  | _ :: _, [], h => by simp at h
theorem sum_smul (k : Int) : ∀ (a : List Int), (smul k a).sum = k * a.sum
  | [] => by simp [smul]
  | x :: a => by
    show ((k * x) :: smul k a).sum = _
    rw [List.sum_cons, List.sum_cons, sum_smul k a]
    grind
theorem sum_shift (m : Int) : ∀ (a : List Int), (a.map (· + m)).sum = a.sum + m * a.length
  | [] => by simp
  | x :: a => by
    rw [List.map_cons, List.sum_cons, List.sum_cons, sum_shift m a, List.length_cons]
    push_cast
    grind
theorem unshift (m : Int) (a : List Int) : (a.map (· + m)).map (· - m) = a := by
  rw [List.map_map]
  exact (List.map_congr_left fun x _ => by show x + m - m = x; omega).trans (List.map_id _)
theorem dotN_dot (as bs : List Int) : dotN as bs as.length = dot as bs := by
  unfold dotN dot
  rw [List.take_of_length_le (by rw [List.length_zipWith]; exact Nat.min_le_left ..)]
/-- three contrasts: sums none, pairwise apart -/
structure Tri (f g e : List Int) (size other stray : Int) : Prop where
  lg : g.length = f.length
  le : e.length = f.length
  sf : f.sum = 0
  sg : g.sum = 0
  se : e.sum = 0
  ff : dot f f = size
  gg : dot g g = other
  ee : dot e e = stray
  fg : dot f g = 0
  fe : dot f e = 0
  ge : dot g e = 0
theorem tri_of (cs : List Int) (hn : cs.length = 3 ∨ cs.length = 4 ∨ cs.length = 5) (turn : Int) (h0 : 0 ≤ turn) (h1 : turn < cs.length + 1) :
    Tri (columnN cs 0 turn) (columnN cs 1 turn) (columnN cs 2 turn) (sizeN cs 0 cs.length) (sizeN cs 1 cs.length) (sizeN cs 2 cs.length) := by
  have d : ∀ a b, dot (columnN cs a turn) (columnN cs b turn) = wdot (mk cs a) (mk cs b) cs.length := fun a b => by rw [columnN_eq, columnN_eq]; exact colM_dot _ _ _ hn turn h0 h1
  have sm : ∀ a, (columnN cs a turn).sum = 0 := fun a => by rw [columnN_eq]; exact colM_sum _ _ hn turn h0 h1
  refine ⟨by rw [columnN_len, columnN_len], by rw [columnN_len, columnN_len], sm 0, sm 1, sm 2, ?_, ?_, ?_, ?_, ?_, ?_⟩
  · rw [d, sizeN_eq]
  · rw [d, sizeN_eq]
  · rw [d, sizeN_eq]
  · rw [d]; exact wdot_apart cs (by decide) _
  · rw [d]; exact wdot_apart cs (by decide) _
  · rw [d]; exact wdot_apart cs (by decide) _
end Mine
end
section
set_option maxRecDepth 100000
namespace Mine
open PySem
/-- z less its mean -/
noncomputable def zc (f g : List Int) (tilt : Int) : List Int := vadd g (smul tilt f)
/-- y less its mean -/
noncomputable def yc (f g e : List Int) (tilt one two : Int) : List Int := vadd (vadd (smul one f) (smul two (zc f g tilt))) e
section
variable {f g e : List Int} {size other stray tilt one two : Int}
theorem zc_len (t : Tri f g e size other stray) : (zc f g tilt).length = f.length := by unfold zc; rw [vadd_len (by rw [smul_len, t.lg]), t.lg]
theorem yc_len (t : Tri f g e size other stray) : (yc f g e tilt one two).length = f.length := by
  unfold yc
  rw [vadd_len (by rw [vadd_len (by rw [smul_len, smul_len, zc_len t]), smul_len, t.le]), vadd_len (by rw [smul_len, smul_len, zc_len t]), smul_len]
/-- a product with z -/
theorem dot_zc (t : Tri f g e size other stray) (v : List Int) (hv : v.length = f.length) : dot (zc f g tilt) v = dot g v + tilt * dot f v := by
  unfold zc
  rw [dot_vadd _ _ _ (by rw [smul_len, t.lg]) (by rw [hv, t.lg]), dot_smul]
theorem dot_yc (t : Tri f g e size other stray) (v : List Int) (hv : v.length = f.length) : dot (yc f g e tilt one two) v = one * dot f v + two * (dot g v + tilt * dot f v) + dot e v := by
  unfold yc
  have l1 : (vadd (smul one f) (smul two (zc f g tilt))).length = f.length := by rw [vadd_len (by rw [smul_len, smul_len, zc_len t]), smul_len]
  rw [dot_vadd _ _ _ (by rw [l1, t.le]) (by rw [l1, hv]), dot_vadd _ _ _ (by rw [smul_len, smul_len, zc_len t]) (by rw [smul_len, hv]), dot_smul, dot_smul, dot_zc t v hv]
theorem f_zc (t : Tri f g e size other stray) : dot f (zc f g tilt) = tilt * size := by
  rw [dot_comm, dot_zc t f rfl, t.ff, dot_comm g f, t.fg, Int.zero_add]
theorem yc_f (t : Tri f g e size other stray) : dot (yc f g e tilt one two) f = (one + two * tilt) * size := by
  rw [dot_yc t f rfl, t.ff, dot_comm g f, t.fg, dot_comm e f, t.fe]; grind
theorem g_zc (t : Tri f g e size other stray) : dot g (zc f g tilt) = other := by
  rw [dot_comm, dot_zc t g t.lg, t.gg, t.fg]; grind
theorem e_zc (t : Tri f g e size other stray) : dot e (zc f g tilt) = 0 := by
  rw [dot_comm, dot_zc t e t.le, t.ge, t.fe]; grind
theorem zc_yc (t : Tri f g e size other stray) : dot (zc f g tilt) (yc f g e tilt one two) = tilt * (one + two * tilt) * size + two * other := by
  rw [dot_comm, dot_yc t _ (zc_len t), f_zc t, g_zc t, e_zc t]; grind
theorem g_yc (t : Tri f g e size other stray) : dot g (yc f g e tilt one two) = two * other := by
  rw [dot_comm, dot_yc t g t.lg, t.fg, t.gg, dot_comm e g, t.ge]; grind
theorem e_yc (t : Tri f g e size other stray) : dot e (yc f g e tilt one two) = stray := by
  rw [dot_comm, dot_yc t e t.le, t.fe, t.ge, t.ee]; grind
theorem yc_yc (t : Tri f g e size other stray) : dot (yc f g e tilt one two) (yc f g e tilt one two) = (one + two * tilt) ^ 2 * size + two ^ 2 * other + stray := by
  have h1 : dot f (yc f g e tilt one two) = (one + two * tilt) * size := by rw [dot_comm, yc_f t]
  rw [dot_yc t _ (yc_len t), h1, g_yc t, e_yc t]; grind
theorem zc_sum (t : Tri f g e size other stray) : (zc f g tilt).sum = 0 := by
  unfold zc
  rw [sum_vadd _ _ (by rw [smul_len, t.lg]), sum_smul, t.sf, t.sg]; simp
theorem yc_sum (t : Tri f g e size other stray) : (yc f g e tilt one two).sum = 0 := by
  have l1 : (vadd (smul one f) (smul two (zc f g tilt))).length = f.length := by rw [vadd_len (by rw [smul_len, smul_len, zc_len t]), smul_len]
  unfold yc
  rw [sum_vadd _ _ (by rw [l1, t.le]), sum_vadd _ _ (by rw [smul_len, smul_len, zc_len t]), sum_smul, sum_smul, t.sf, zc_sum t, t.se]; simp
end
end Mine
end
section
set_option maxRecDepth 100000
namespace Mine
open PySem
/-- a product of shifted lists -/
theorem dot_shift (m l : Int) : ∀ (a b : List Int), b.length = a.length → dot (a.map (· + m)) (b.map (· + l)) = dot a b + m * b.sum + l * a.sum + m * l * a.length
  | [], [], _ => by simp [dot]
  | x :: a, y :: b, h => by
    rw [List.map_cons, List.map_cons, dot_cons, dot_cons, dot_shift m l a b (by simpa using h), List.sum_cons, List.sum_cons, List.length_cons]
    push_cast
    grind
  | [], _ :: _, h => by simp at h
  | _ :: _, [], h => by simp at h
theorem dot_append : ∀ (a b c d : List Int), a.length = c.length → dot (a ++ b) (c ++ d) = dot a c + dot b d
  | [], b, [], d, _ => by simp [dot]
  | x :: a, b, z :: c, d, h => by
    rw [List.cons_append, List.cons_append, dot_cons, dot_cons, dot_append a b c d (by simpa using h)]
    grind
  | [], _, _ :: _, _, h => by simp at h
  | _ :: _, _, [], _, h => by simp at h
theorem dot_zeros : ∀ (n : Nat) (c : List Int), dot (List.replicate n 0) c = 0
  | 0, c => by cases c <;> simp [dot]
  | n + 1, [] => by simp [dot]
  | n + 1, z :: c => by rw [List.replicate_succ, dot_cons, dot_zeros n c]; simp
section
variable {f g e : List Int} {size other stray tilt one two : Int}
/-- the line through the origin: square and product -/
theorem square_eq (t : Tri f g e size other stray) (m : Int) : dot (f.map (· + m)) (f.map (· + m)) = size + f.length * m * m := by
  rw [dot_shift m m f f rfl, t.ff, t.sf]; grind
theorem product_eq (t : Tri f g e size other stray) (m l : Int) : dot (f.map (· + m)) ((yc f g e tilt one two).map (· + l)) = (one + two * tilt) * size + f.length * m * l := by
  rw [dot_shift m l f _ (yc_len t), dot_comm f, yc_f t, t.sf, yc_sum t]; grind
/-- what is left of z and y -/
theorem left_g (t : Tri f g e size other stray) : dot g (vadd (smul two g) e) = two * other := by
  rw [dot_vadd_r _ _ _ (by rw [smul_len, t.le, t.lg]) (by rw [smul_len]), dot_smul_r, t.gg, t.ge, Int.add_zero]
/-- the last tie: both halves -/
theorem legs_xy (t : Tri f g e size other stray) (p q : Int) : dot (f ++ List.replicate f.length 0) (smul p f ++ smul q f) = p * size := by
  rw [dot_append _ _ _ _ (by rw [smul_len]), dot_smul_r, t.ff, dot_zeros]; simp
theorem legs_xx (t : Tri f g e size other stray) : dot (f ++ List.replicate f.length 0) (f ++ List.replicate f.length 0) = size := by
  rw [dot_append _ _ _ _ rfl, t.ff, dot_zeros]; simp
theorem legs_yy (t : Tri f g e size other stray) (p q : Int) : dot (smul p f ++ smul q f) (smul p f ++ smul q f) = (p * p + q * q) * size := by
  rw [dot_append _ _ _ _ rfl, dot_smul, dot_smul, dot_smul_r, dot_smul_r, t.ff]; grind
end
end Mine
end
section
set_option maxRecDepth 100000
namespace Mine
open PySem
theorem column_small (cs : List Int) (hb : ∀ x ∈ cs, 0 ≤ x ∧ x < 15) (hn : cs.length ≤ 5) (ow turn : Int) : ∀ v ∈ columnN cs ow turn, v.natAbs ≤ 50 := by
  intro v hv
  rw [columnN_eq] at hv
  obtain ⟨p, _, rfl⟩ := List.mem_map.mp hv
  have h := sum_le (B := 10) ((List.range cs.length).map fun (k : Nat) => mk cs ow k * hel k (((p : Int) + turn).fmod (cs.length + 1))) fun n hn' => by
    obtain ⟨k, hk, rfl⟩ := List.mem_map.mp hn'
    have hk5 : k < 5 := Nat.lt_of_lt_of_le (List.mem_range.mp hk) hn
    have h1 := mk_small cs hb ow k
    have h2 := hel_small k (((p : Int) + turn).fmod (cs.length + 1)) hk5
    rw [Int.natAbs_mul]
    exact Nat.le_trans (Nat.mul_le_mul (show (mk cs ow k).natAbs ≤ 2 by omega) (show (hel k (((p : Int) + turn).fmod (cs.length + 1))).natAbs ≤ 5 by omega)) (by decide)
  rw [List.length_map, List.length_range] at h
  have := Nat.mul_le_mul_right 10 hn
  omega
theorem wdot_nonneg (a : Nat → Int) : ∀ n, 0 ≤ wdot a a n
  | 0 => Int.le_refl _
  | n + 1 => by
    show 0 ≤ wdot a a n + a n * a n * (((n : Int) + 1) * (n + 2))
    have h1 := wdot_nonneg a n
    have h2 : 0 ≤ a n * a n := by
      rcases Int.le_total 0 (a n) with h | h
      · exact Int.mul_nonneg h h
      · exact Int.mul_nonneg_of_nonpos_of_nonpos h h
    have h3 : 0 ≤ ((n : Int) + 1) * (n + 2) := Int.mul_nonneg (by omega) (by omega)
    have := Int.mul_nonneg h2 h3
    omega
theorem size_small (cs : List Int) (hb : ∀ x ∈ cs, 0 ≤ x ∧ x < 15) (hn : cs.length ≤ 5) (ow : Int) : 0 ≤ sizeN cs ow cs.length ∧ sizeN cs ow cs.length ≤ 280 := by
  rw [sizeN_eq]
  refine ⟨wdot_nonneg _ _, ?_⟩
  have sq : ∀ k, mk cs ow k * mk cs ow k ≤ 4 := fun k => by
    have h := mk_small cs hb ow k
    have : mk cs ow k = -2 ∨ mk cs ow k = -1 ∨ mk cs ow k = 0 ∨ mk cs ow k = 1 ∨ mk cs ow k = 2 := by omega
    rcases this with h | h | h | h | h <;> rw [h] <;> decide
  have s0 := sq 0; have s1 := sq 1; have s2 := sq 2; have s3 := sq 3; have s4 := sq 4
  have mono : ∀ n, wdot (mk cs ow) (mk cs ow) n ≤ wdot (mk cs ow) (mk cs ow) (n + 1) := fun n => by
    show _ ≤ wdot _ _ n + mk cs ow n * mk cs ow n * (((n : Int) + 1) * (n + 2))
    have h2 : 0 ≤ mk cs ow n * mk cs ow n := by
      rcases Int.le_total 0 (mk cs ow n) with h | h
      · exact Int.mul_nonneg h h
      · exact Int.mul_nonneg_of_nonpos_of_nonpos h h
    have := Int.mul_nonneg h2 (Int.mul_nonneg (show (0 : Int) ≤ (n : Int) + 1 by omega) (show (0 : Int) ≤ (n : Int) + 2 by omega))
    omega
  have h5 : wdot (mk cs ow) (mk cs ow) 5 ≤ 280 := by
    simp only [wdot]
    omega
  have m0 : wdot (mk cs ow) (mk cs ow) 0 ≤ wdot (mk cs ow) (mk cs ow) 1 := mono 0
  have m1 : wdot (mk cs ow) (mk cs ow) 1 ≤ wdot (mk cs ow) (mk cs ow) 2 := mono 1
  have m2 : wdot (mk cs ow) (mk cs ow) 2 ≤ wdot (mk cs ow) (mk cs ow) 3 := mono 2
  have m3 : wdot (mk cs ow) (mk cs ow) 3 ≤ wdot (mk cs ow) (mk cs ow) 4 := mono 3
  have m4 : wdot (mk cs ow) (mk cs ow) 4 ≤ wdot (mk cs ow) (mk cs ow) 5 := mono 4
  have : cs.length = 0 ∨ cs.length = 1 ∨ cs.length = 2 ∨ cs.length = 3 ∨ cs.length = 4 ∨ cs.length = 5 := by omega
  rcases this with h | h | h | h | h | h <;> rw [h] <;> omega
end Mine
end
section
set_option maxRecDepth 100000
set_option exponentiation.threshold 3000
namespace Mine
open PySem PySem.Float64 PySem.W PySem.Calls PyProof.Rows
section
variable {prog : Program} {w : World} {A : Around} {E : Value → Shared → Prop} {s : Shared} {env : Env} {h0 : Heap} {g0 : Array GenState} {o0 : OsState} {ρ ρc : List (Str × AV)} {ls : List (Addr × HV)} {rest : List Stmt} {P : List Addr} {T : Heap → Prop} {mg mb : Str → Option Value} {cs : List (Addr × Addr)} {K : Frag} {Q : Flow → Shared → Prop}

/-- y = [.. for x in xs], nothing but names and numbers -/
theorem s_compF [TabKeep T] [TabFields P T] {elt iter : Expr} {x y : Str} {px py : Pos} {scope : Scope} {pos spos : Pos} {a : Addr} {l : List AV} {bv : Nat → AV} (hA : A.handled = none)
    (hb : env.scope.kind = .function) (hy : env.kindOf y = some .local) (hln : (py.line == (Expr.ListComp elt [⟨.Name x px, iter, [], 0⟩] scope pos).pos.line) = true) (hnn : (scope.names.any fun (n, k) => n == y && (k == .local || k == .cell)) = false)
    (hnp : ∀ a fp h, (a, HV.pin fp h) ∉ ls) (hsz : l.length ≤ sizeLine) (hfr : ∀ x, (x, NameKind.free) ∈ scope.names → ∃ c, env.cells.lookup x = some c)
    (hcell : ∀ y ∈ scope.names, y.2 ≠ .cell) (hkind : scope.kind = .function) (hx : scope.names.lookup x = some .local) (hnames : ∀ z ∈ scope.names, z.2 = .local → scope.names.lookup z.1 = some .local)
    (hρc : ∀ p ∈ ρc, ρ.lookup p.1 = some p.2 ∧ env.kindOf p.1 = some .cell ∧ scope.names.lookup p.1 = some .free)
    (X : At P T h0 g0 o0 env ρ ls s) (hit : Pur prog w A (At P T h0 g0 o0 env ρ ls) env iter (.ref a)) (hl : (a, HV.list l) ∈ ls)
    (step : ∀ (h₁ : Heap) (g₁ : Array GenState) (o₁ : OsState) C i ls', i < l.length → Pur prog w A (At P T h₁ g₁ o₁ (compEnvC scope (frees env scope.names []) C env) ((x, l.getD i .none) :: ρc) ls') (compEnvC scope (frees env scope.names []) C env) elt (bv i))
    (k : ∀ D s', h0.objs.size ≤ D → At P T h0 g0 o0 env ((y, .ref D) :: ρ) ((D, .list ((List.range l.length).map bv)) :: ls) s' → wpAny (model prog w) A (execs rest env) Q E s')
    (hs : ∀ x, foldedSetIterable iter env x = pure x := by intro _; rfl) :
    wpAny (model prog w) A (execs (.Assign [.Name y py] (.ListComp elt [⟨.Name x px, iter, [], 0⟩] scope pos) spos :: rest) env) Q E s :=
  s_comp (P := P) (T := T) (keep := fun _ => true) (swaps_true hb hy hln hnn) hy hnp hsz hcell hkind hx hnames (closure_all hfr) (comp_cells hfr) (comp_names hρc) (iter_list hA X hit hl)
    (fun s₁ X₁ => step_pur fun C i a' fp hp l' hi => step _ _ _ C i _ hi) (fun D s' hD X' => k D s' hD (by rw [← accOf_all]; exact X'.unacc)) hs

/-- y = [.. for u, v in zip(..)], nothing but names and numbers -/
theorem s_compTF [TabKeep T] [TabFields P T] {elt iter : Expr} {y : Str} {py : Pos} {xs : List Str} {elts : List Expr} {ek : Nat} {tp : Pos} {scope : Scope} {pos spos : Pos} {n : Nat} {av : Nat → List AV} {bv : Nat → AV} (hA : A.handled = none)
    (hb : env.scope.kind = .function) (hy : env.kindOf y = some .local) (hln : (py.line == (Expr.ListComp elt [⟨.Tuple elts ek tp, iter, [], 0⟩] scope pos).pos.line) = true) (hnn : (scope.names.any fun (n, k) => n == y && (k == .local || k == .cell)) = false)
    (hnp : ∀ a fp h, (a, HV.pin fp h) ∉ ls) (hsz : n ≤ sizeLine) (hfr : ∀ x, (x, NameKind.free) ∈ scope.names → ∃ c, env.cells.lookup x = some c)
    (hcell : ∀ y ∈ scope.names, y.2 ≠ .cell) (hkind : scope.kind = .function) (hx : ∀ x ∈ xs, scope.names.lookup x = some .local) (hnames : ∀ z ∈ scope.names, z.2 = .local → scope.names.lookup z.1 = some .local)
    (htg : ∀ C, ∃ ts, assignEach elts (compEnvC scope (frees env scope.names []) C env) = ts.map (fun t => (false, t)) ∧ Tgts (compEnvC scope (frees env scope.names []) C env) xs ts) (hav : ∀ i, i < n → (av i).length = xs.length)
    (hρc : ∀ p ∈ ρc, ρ.lookup p.1 = some p.2 ∧ env.kindOf p.1 = some .cell ∧ scope.names.lookup p.1 = some .free)
    (hiter : IterT prog w A E P T h0 g0 o0 env ρ ls iter n av s)
    (step : ∀ (h₁ : Heap) (g₁ : Array GenState) (o₁ : OsState) C i a l, i < n → Pur prog w A (At P T h₁ g₁ o₁ (compEnvC scope (frees env scope.names []) C env) (bound xs (av i) ρc) ((a, .acc l) :: ls)) (compEnvC scope (frees env scope.names []) C env) elt (bv i))
    (k : ∀ D s', h0.objs.size ≤ D → At P T h0 g0 o0 env ((y, .ref D) :: ρ) ((D, .list ((List.range n).map bv)) :: ls) s' → wpAny (model prog w) A (execs rest env) Q E s')
    (hs : ∀ x, foldedSetIterable iter env x = pure x := by intro _; rfl) :
    wpAny (model prog w) A (execs (.Assign [.Name y py] (.ListComp elt [⟨.Tuple elts ek tp, iter, [], 0⟩] scope pos) spos :: rest) env) Q E s :=
  s_compT (P := P) (T := T) hA (swaps_true hb hy hln hnn) hy hnp hsz hcell hkind hx hnames htg hav (closure_all hfr) (comp_cells hfr) (comp_names hρc) hiter step (fun D s' hD X' => k D s' hD X'.unacc) hs
theorem int_getD {l : List Int} {i : Nat} (h : i < l.length) : (l.map AV.int).getD i .none = .int (l.getD i 0) := by
  rw [List.getD_eq_getElem?_getD, List.getD_eq_getElem?_getD, List.getElem?_map, List.getElem?_eq_getElem h]; rfl

noncomputable abbrev names12 (h : Int) (c d0 d1 d2 : Addr) (size other stray : Int) : List (Str × AV) := ("stray", .int stray) :: ("other", .int other) :: ("size", .int size) :: names9 h c d0 d1 d2

theorem law_5 {c d0 d1 d2 : Addr} {cells f g e : List Int} {h size other stray : Int} (L : LawEnv env) (hA : A.handled = none) (hf : f.length ≤ 100)
    (X : At (tabs cs) (TT cs) h0 g0 o0 env (names12 h c d0 d1 d2 size other stray) (lists4 f g e cells c d0 d1 d2) s)
    (k : ∀ dx s', At (tabs cs) (TT cs) h0 g0 o0 env (("x", .ref dx) :: names12 h c d0 d1 d2 size other stray) ((dx, .list ((f.map (· + digit h 1)).map .int)) :: lists4 f g e cells c d0 d1 d2) s' → wpAny (model prog w) A (execs (dLaw.body.drop 6) env) Q E s') :
    wpAny (model prog w) A (execs (dLaw.body.drop 5) env) Q E s := by
  have line : sizeLine = 2 ^ 24 := rfl
  refine s_compF (P := tabs cs) (T := TT cs) (ρc := [("middle", .int (digit h 1))]) (bv := fun i => .int (f.getD i 0 + digit h 1)) hA (by rw [L.sc]; rfl) ((L.kind _).trans rfl) rfl rfl lists4_np (l := f.map .int) (by rw [List.length_map]; omega) (fun x hx => ?_) (by decide) rfl rfl (by decide) (fun p hp => ?_) X (.nm rfl) List.mem_cons_self (fun h₁ g₁ o₁ C i ls' hi => ?_) fun D s' hD X' => ?_
  · replace hx : (x, NameKind.free) ∈ [((".0" : Str), NameKind.local), ("v", .local), ("middle", .free)] := hx
    simp at hx
    subst hx
    exact L.cell _ rfl
  · rw [List.mem_singleton.mp hp]
    exact ⟨rfl, (L.kind _).trans rfl, rfl⟩
  · rw [List.length_map] at hi
    rw [int_getD hi]
    exact .bin (.nm rfl) (.nm rfl) op_add
  · refine k D s' ?_
    have q : (List.range (f.map AV.int).length).map (fun i => AV.int (f.getD i 0 + digit h 1)) = (f.map (· + digit h 1)).map .int := by
      rw [List.length_map, List.map_map]
      exact range_getD f 0 (fun n : Int => AV.int (n + digit h 1))
    rw [q] at X'
    exact X'
theorem zip_getD (f g : List Int) (hl : g.length = f.length) (F : Int → Int → Int) : (List.range f.length).map (fun i => F (f.getD i 0) (g.getD i 0)) = List.zipWith F f g := by
  apply List.ext_getElem
  · rw [List.length_map, List.length_range, List.length_zipWith, hl, Nat.min_self]
  · intro i h1 h2
    have hi : i < f.length := by simpa using h1
    have hi' : i < g.length := hl ▸ hi
    rw [List.getElem_map, List.getElem_range, List.getElem_zipWith, List.getD_eq_getElem?_getD, List.getD_eq_getElem?_getD, List.getElem?_eq_getElem hi, List.getElem?_eq_getElem hi']
    rfl
theorem z_eq (f g : List Int) (hl : g.length = f.length) (t b : Int) : List.zipWith (fun v w => w + t * v + b) f g = (zc f g t).map (· + b) := by
  unfold zc vadd smul
  apply List.ext_getElem
  · simp; omega
  · intro i h1 h2
    simp

theorem law_6 {c d0 d1 d2 dx : Addr} {cells f g e : List Int} {l : List AV} {h size other stray : Int} (S : Static K cs mg mb) (L : LawEnv env) (G : Gl (tabs cs) env h0 mg mb) (hA : A.handled = none) (hf : f.length ≤ 100) (hl : g.length = f.length)
    (X : At (tabs cs) (TT cs) h0 g0 o0 env (("x", .ref dx) :: names12 h c d0 d1 d2 size other stray) ((dx, .list l) :: lists4 f g e cells c d0 d1 d2) s)
    (k : ∀ dz s', At (tabs cs) (TT cs) h0 g0 o0 env (("z", .ref dz) :: ("x", .ref dx) :: names12 h c d0 d1 d2 size other stray) ((dz, .list (((zc f g (digit h 2)).map (· + digit h 0)).map .int)) :: (dx, .list l) :: lists4 f g e cells c d0 d1 d2) s' → wpAny (model prog w) A (execs (dLaw.body.drop 7) env) Q E s') :
    wpAny (model prog w) A (execs (dLaw.body.drop 6) env) Q E s := by
  have line : sizeLine = 2 ^ 24 := rfl
  refine s_compTF (P := tabs cs) (T := TT cs) (h0 := h0) (g0 := g0) (o0 := o0) (ρ := ("x", .ref dx) :: names12 h c d0 d1 d2 size other stray) (ls := (dx, .list l) :: lists4 f g e cells c d0 d1 d2) (ρc := [("base", .int (digit h 0)), ("tilt", .int (digit h 2))]) (xs := ["v", "w"]) (n := (f.map AV.int).length) (av := fun i => [(f.map AV.int).getD i .none, (g.map AV.int).getD i .none]) (bv := fun i => .int (g.getD i 0 + digit h 2 * f.getD i 0 + digit h 0)) hA (by rw [L.sc]; rfl) ((L.kind _).trans rfl) rfl rfl ?_ (by rw [List.length_map]; omega) (fun x hx => ?_) (by decide) rfl (by decide) (by decide)
    (fun C => ⟨_, rfl, .cons (.inl (lookup_relabel_local rfl)) (.cons (.inl (lookup_relabel_local rfl)) .nil)⟩) (fun _ _ => rfl) (fun p hp => ?_) (iter_zip2 hA G ((L.kind _).trans rfl) S.zip.1 S.zip.2 X rfl (by decide) rfl (by decide) (by first | exact mi 0 rfl | exact mi 1 rfl | exact mi 2 rfl | exact mi 3 rfl | exact mi 4 rfl | exact mi 5 rfl | exact mi 6 rfl | exact mi 7 rfl | exact mi 8 rfl | exact mi 9 rfl | exact mi 10 rfl | exact mi 11 rfl | exact mi 12 rfl | exact mi 13 rfl | exact mi 14 rfl | exact mi 15 rfl | exact mi 16 rfl | exact mi 17 rfl | exact mi 18 rfl | exact mi 19 rfl | exact mi 20 rfl | exact mi 21 rfl | exact mi 22 rfl) (by first | exact mi 0 rfl | exact mi 1 rfl | exact mi 2 rfl | exact mi 3 rfl | exact mi 4 rfl | exact mi 5 rfl | exact mi 6 rfl | exact mi 7 rfl | exact mi 8 rfl | exact mi 9 rfl | exact mi 10 rfl | exact mi 11 rfl | exact mi 12 rfl | exact mi 13 rfl | exact mi 14 rfl | exact mi 15 rfl | exact mi 16 rfl | exact mi 17 rfl | exact mi 18 rfl | exact mi 19 rfl | exact mi 20 rfl | exact mi 21 rfl | exact mi 22 rfl) (by rw [List.length_map, List.length_map, hl])) (fun h₁ g₁ o₁ C i a l' hi => ?_) fun D s' hD X' => ?_
  · intro a fp h hm
    simp at hm
  · replace hx : (x, NameKind.free) ∈ [((".0" : Str), NameKind.local), ("v", .local), ("w", .local), ("base", .free), ("tilt", .free)] := hx
    simp at hx
    rcases hx with rfl | rfl <;> exact L.cell _ rfl
  · rcases List.mem_cons.mp hp with q | q
    · rw [q]; exact ⟨rfl, (L.kind _).trans rfl, rfl⟩
    · rw [List.mem_singleton.mp q]; exact ⟨rfl, (L.kind _).trans rfl, rfl⟩
  · rw [List.length_map] at hi
    have hi' : i < g.length := hl ▸ hi
    rw [int_getD hi, int_getD hi']
    have hd : (digit h 2).natAbs ≤ 10 := by
      unfold digit
      have := Int.fmod_nonneg_of_pos (h.fdiv (20 ^ 2)) (show (0 : Int) < 20 by decide)
      have := Int.fmod_lt_of_pos (h.fdiv (20 ^ 2)) (show (0 : Int) < 20 by decide)
      omega
    refine .bin (.bin (.nm rfl) (.bin (.nm rfl) (.nm rfl) (op_mul (mulOk_l (Nat.lt_of_le_of_lt hd (by decide))))) op_add) (.nm rfl) op_add
  · refine k D s' ?_
    have q : (List.range (f.map AV.int).length).map (fun i => AV.int (g.getD i 0 + digit h 2 * f.getD i 0 + digit h 0)) = ((zc f g (digit h 2)).map (· + digit h 0)).map .int := by
      rw [List.length_map, ← z_eq f g hl, ← zip_getD f g hl, List.map_map]
      rfl
    rw [q] at X'
    exact X'
end
end Mine
end
section
set_option maxRecDepth 100000
set_option exponentiation.threshold 3000
namespace Mine
open PySem PySem.Float64 PySem.W PySem.Calls PyProof.Rows
theorem dig_small (h : Int) (k : Nat) : -10 ≤ digit h k ∧ digit h k ≤ 9 := by
  unfold digit
  have h1 := Int.fmod_nonneg_of_pos (h.fdiv (20 ^ k)) (show (0 : Int) < 20 by decide)
  have h2 := Int.fmod_lt_of_pos (h.fdiv (20 ^ k)) (show (0 : Int) < 20 by decide)
  omega
theorem mul_dig (h : Int) (k : Nat) (b : Int) : IntMulOk (digit h k) b := mulOk_l (Nat.lt_of_le_of_lt (show (digit h k).natAbs ≤ 10 by have := dig_small h k; omega) (by decide))
theorem y_eq (f g e : List Int) (hl : g.length = f.length) (he : e.length = f.length) (t m b o w r : Int) :
    (List.range f.length).map (fun i => o * (f.map (· + m)).getD i 0 + w * ((zc f g t).map (· + b)).getD i 0 + e.getD i 0 + r) = (yc f g e t o w).map (· + (o * m + w * b + r)) := by
  apply List.ext_getElem
  · unfold yc zc vadd smul
    simp; omega
  · intro i h1 h2
    have hi : i < f.length := by simpa using h1
    have hi' : i < g.length := hl ▸ hi
    have hi'' : i < e.length := he ▸ hi
    unfold yc zc vadd smul
    simp [hi, hi', hi'']
    grind
section
variable {prog : Program} {w : World} {A : Around} {E : Value → Shared → Prop} {s : Shared} {env : Env} {h0 : Heap} {g0 : Array GenState} {o0 : OsState} {ρ ρc : List (Str × AV)} {ls : List (Addr × HV)} {rest : List Stmt} {P : List Addr} {T : Heap → Prop} {mg mb : Str → Option Value} {cs : List (Addr × Addr)} {K : Frag} {Q : Flow → Shared → Prop}

noncomputable def levelN (h : Int) : Int := digit h 3 * digit h 1 + digit h 4 * digit h 0 + digit h 5
noncomputable def steepN (h : Int) : Int := digit h 3 + digit h 4 * digit h 2
noncomputable abbrev xL (h : Int) (f : List Int) : List Int := f.map (· + digit h 1)
noncomputable abbrev zL (h : Int) (f g : List Int) : List Int := (zc f g (digit h 2)).map (· + digit h 0)
noncomputable abbrev yL (h : Int) (f g e : List Int) : List Int := (yc f g e (digit h 2) (digit h 3) (digit h 4)).map (· + levelN h)
noncomputable abbrev lists7 (h : Int) (f g e cells : List Int) (c d0 d1 d2 dx dz dy : Addr) : List (Addr × HV) := (dy, .list ((yL h f g e).map .int)) :: (dz, .list ((zL h f g).map .int)) :: (dx, .list ((xL h f).map .int)) :: lists4 f g e cells c d0 d1 d2
noncomputable abbrev names15 (h : Int) (c d0 d1 d2 dx dz dy : Addr) (size other stray : Int) : List (Str × AV) := ("y", .ref dy) :: ("z", .ref dz) :: ("x", .ref dx) :: names12 h c d0 d1 d2 size other stray

theorem law_7 {c d0 d1 d2 dx dz : Addr} {cells f g e : List Int} {h size other stray : Int} (S : Static K cs mg mb) (L : LawEnv env) (G : Gl (tabs cs) env h0 mg mb) (hA : A.handled = none) (hf : f.length ≤ 100) (hl : g.length = f.length) (he : e.length = f.length)
    (X : At (tabs cs) (TT cs) h0 g0 o0 env (("z", .ref dz) :: ("x", .ref dx) :: names12 h c d0 d1 d2 size other stray) ((dz, .list ((zL h f g).map .int)) :: (dx, .list ((xL h f).map .int)) :: lists4 f g e cells c d0 d1 d2) s)
    (k : ∀ dy s', At (tabs cs) (TT cs) h0 g0 o0 env (names15 h c d0 d1 d2 dx dz dy size other stray) (lists7 h f g e cells c d0 d1 d2 dx dz dy) s' → wpAny (model prog w) A (execs (dLaw.body.drop 8) env) Q E s') :
    wpAny (model prog w) A (execs (dLaw.body.drop 7) env) Q E s := by
  have line : sizeLine = 2 ^ 24 := rfl
  have lx : (xL h f).length = f.length := List.length_map _
  have lz : (zL h f g).length = f.length := by
    rw [List.length_map]; unfold zc vadd smul; rw [List.length_zipWith, List.length_map, hl, Nat.min_self]
  refine s_compTF (P := tabs cs) (T := TT cs) (h0 := h0) (g0 := g0) (o0 := o0) (ρ := ("z", .ref dz) :: ("x", .ref dx) :: names12 h c d0 d1 d2 size other stray) (ls := (dz, .list ((zL h f g).map .int)) :: (dx, .list ((xL h f).map .int)) :: lists4 f g e cells c d0 d1 d2) (ρc := [("one", .int (digit h 3)), ("rest", .int (digit h 5)), ("two", .int (digit h 4))]) (xs := ["p", "q", "e"]) (n := ((xL h f).map AV.int).length) (av := fun i => [((xL h f).map AV.int).getD i .none, ((zL h f g).map AV.int).getD i .none, (e.map AV.int).getD i .none]) (bv := fun i => .int (digit h 3 * (xL h f).getD i 0 + digit h 4 * (zL h f g).getD i 0 + e.getD i 0 + digit h 5)) hA (by rw [L.sc]; rfl) ((L.kind _).trans rfl) rfl rfl ?_ (by rw [List.length_map, lx]; omega) (fun x hx => ?_) (by decide) rfl (by decide) (by decide)
    (fun C => ⟨_, rfl, .cons (.inl (lookup_relabel_local rfl)) (.cons (.inl (lookup_relabel_local rfl)) (.cons (.inl (lookup_relabel_local rfl)) .nil))⟩) (fun _ _ => rfl) (fun p hp => ?_) (iter_zip3 hA G ((L.kind _).trans rfl) S.zip.1 S.zip.2 X rfl (by decide) rfl (by decide) rfl (by decide) (List.mem_cons_of_mem _ List.mem_cons_self) List.mem_cons_self (by simp) (by rw [show ((zL h f g).map AV.int).length = (zL h f g).length from List.length_map _, lz, show ((xL h f).map AV.int).length = (xL h f).length from List.length_map _, lx]) (by rw [List.length_map, he, show ((xL h f).map AV.int).length = (xL h f).length from List.length_map _, lx])) (fun h₁ g₁ o₁ C i a l' hi => ?_) fun D s' hD X' => ?_
  · intro a fp h hm
    simp at hm
  · replace hx : (x, NameKind.free) ∈ [((".0" : Str), NameKind.local), ("p", .local), ("q", .local), ("e", .local), ("one", .free), ("rest", .free), ("two", .free)] := hx
    simp at hx
    rcases hx with rfl | rfl | rfl <;> exact L.cell _ rfl
  · rcases List.mem_cons.mp hp with q | q
    · rw [q]; exact ⟨rfl, (L.kind _).trans rfl, rfl⟩
    · rcases List.mem_cons.mp q with q | q
      · rw [q]; exact ⟨rfl, (L.kind _).trans rfl, rfl⟩
      · rw [List.mem_singleton.mp q]; exact ⟨rfl, (L.kind _).trans rfl, rfl⟩
  · rw [List.length_map] at hi
    have hi0 : i < f.length := lx ▸ hi
    rw [int_getD hi, int_getD (show i < (zL h f g).length by rw [lz]; exact hi0), int_getD (show i < e.length by rw [he]; exact hi0)]
    exact .bin (.bin (.bin (.bin (.nm rfl) (.nm rfl) (op_mul (mul_dig _ _ _))) (.bin (.nm rfl) (.nm rfl) (op_mul (mul_dig _ _ _))) op_add) (.nm rfl) op_add) (.nm rfl) op_add
  · refine k D s' ?_
    have q : (List.range ((xL h f).map AV.int).length).map (fun i => AV.int (digit h 3 * (xL h f).getD i 0 + digit h 4 * (zL h f g).getD i 0 + e.getD i 0 + digit h 5)) = (yL h f g e).map .int := by
      have := y_eq f g e hl he (digit h 2) (digit h 1) (digit h 0) (digit h 3) (digit h 4) (digit h 5)
      unfold yL levelN
      rw [← this, List.length_map, lx, List.map_map]
      rfl
    rw [q] at X'
    exact X'

noncomputable abbrev names17 (h : Int) (c d0 d1 d2 dx dz dy : Addr) (size other stray : Int) : List (Str × AV) := ("steep", .int (steepN h)) :: ("level", .int (levelN h)) :: names15 h c d0 d1 d2 dx dz dy size other stray
theorem law_8 {c d0 d1 d2 dx dz dy : Addr} {h size other stray : Int} (L : LawEnv env)
    (X : At (tabs cs) (TT cs) h0 g0 o0 env (names15 h c d0 d1 d2 dx dz dy size other stray) ls s)
    (k : ∀ s', At (tabs cs) (TT cs) h0 g0 o0 env (names17 h c d0 d1 d2 dx dz dy size other stray) ls s' → wpAny (model prog w) A (execs (dLaw.body.drop 10) env) Q E s') :
    wpAny (model prog w) A (execs (dLaw.body.drop 8) env) Q E s := by
  refine s_assign X (.bin (.bin (.bin (.nm rfl) (.nm rfl) (op_mul (mul_dig _ _ _))) (.bin (.nm rfl) (.nm rfl) (op_mul (mul_dig _ _ _))) op_add) (.nm rfl) op_add) (L.lo rfl) fun s₁ X₁ => ?_
  exact s_assign X₁ (.bin (.nm rfl) (.bin (.nm rfl) (.nm rfl) (op_mul (mul_dig _ _ _))) op_add) (L.lo rfl) fun s₂ X₂ => k s₂ X₂
end
end Mine
end
section
set_option maxRecDepth 100000
namespace Mine
open PySem
/-- the three columns and their sizes -/
structure Cols (f g e : List Int) (size other stray : Int) : Prop where
  tri : Tri f g e size other stray
  lo : 4 ≤ f.length
  hi : f.length ≤ 6
  bf : ∀ v ∈ f, v.natAbs ≤ 50
  bg : ∀ v ∈ g, v.natAbs ≤ 50
  be : ∀ v ∈ e, v.natAbs ≤ 50
  s0 : 0 ≤ size ∧ size ≤ 280
  o0 : 0 ≤ other ∧ other ≤ 280
  t0 : 0 ≤ stray ∧ stray ≤ 280
/-- a column with a whole mean -/
structure ColOk (n : Nat) (l : List Int) (m : Int) : Prop where
  sm : Sm l
  len : l.length = n
  sum : l.sum = m * l.length
  mean : m.natAbs ≤ 2 ^ 20
theorem ColOk.line {n : Nat} {l l' : List Int} {m m' : Int} (a : ColOk n l m) (b : ColOk n l' m') (h : 2 ≤ n) : LineOk l l' m m' :=
  ⟨a.sm, b.sm, by rw [b.len, a.len], by rw [a.len]; exact h, by rw [a.sum], by rw [b.sum, b.len, a.len], a.mean, b.mean⟩
theorem sm_of {l : List Int} {B : Nat} (h1 : l.length ≤ 64) (h2 : ∀ v ∈ l, v.natAbs ≤ B) (hB : B ≤ 2 ^ 20) : Sm l := ⟨h1, fun v hv => Nat.le_trans (h2 v hv) hB⟩
theorem vadd_small {a b : List Int} {A B : Nat} (ha : ∀ v ∈ a, v.natAbs ≤ A) (hb : ∀ v ∈ b, v.natAbs ≤ B) : ∀ v ∈ vadd a b, v.natAbs ≤ A + B := by
  intro v hv
  unfold vadd at hv
  obtain ⟨i, hi, rfl⟩ := List.getElem_of_mem hv
  rw [List.getElem_zipWith]
  have h1 : i < a.length := by rw [List.length_zipWith] at hi; omega
  have h2 : i < b.length := by rw [List.length_zipWith] at hi; omega
  have := ha a[i] (List.getElem_mem h1)
  have := hb b[i] (List.getElem_mem h2)
  omega
theorem smul_small {a : List Int} {A K : Nat} {k : Int} (hk : k.natAbs ≤ K) (ha : ∀ v ∈ a, v.natAbs ≤ A) : ∀ v ∈ smul k a, v.natAbs ≤ K * A := by
  intro v hv
  obtain ⟨u, hu, rfl⟩ := List.mem_map.mp hv
  rw [Int.natAbs_mul]
  exact Nat.mul_le_mul hk (ha u hu)
theorem shift_small {a : List Int} {A M : Nat} {m : Int} (hm : m.natAbs ≤ M) (ha : ∀ v ∈ a, v.natAbs ≤ A) : ∀ v ∈ a.map (· + m), v.natAbs ≤ A + M := by
  intro v hv
  obtain ⟨u, hu, rfl⟩ := List.mem_map.mp hv
  have := ha u hu
  show (u + m).natAbs ≤ _
  omega
theorem shift_sum {a : List Int} {m : Int} (h : a.sum = 0) : (a.map (· + m)).sum = m * ((a.map (· + m)).length : Int) := by rw [sum_shift, h, List.length_map, Int.zero_add]
theorem dig_abs (h : Int) (k : Nat) : (digit h k).natAbs ≤ 10 := by have := dig_small h k; omega
theorem level_small (h : Int) : (levelN h).natAbs ≤ 210 := by
  have h1 := dig_abs h 0; have h2 := dig_abs h 1; have h3 := dig_abs h 3; have h4 := dig_abs h 4; have h5 := dig_abs h 5
  have a : (digit h 3 * digit h 1).natAbs ≤ 10 * 10 := by rw [Int.natAbs_mul]; exact Nat.mul_le_mul h3 h2
  have b : (digit h 4 * digit h 0).natAbs ≤ 10 * 10 := by rw [Int.natAbs_mul]; exact Nat.mul_le_mul h4 h1
  unfold levelN
  omega
theorem steep_small (h : Int) : (steepN h).natAbs ≤ 110 := by
  have h2 := dig_abs h 2; have h3 := dig_abs h 3; have h4 := dig_abs h 4
  have a : (digit h 4 * digit h 2).natAbs ≤ 10 * 10 := by rw [Int.natAbs_mul]; exact Nat.mul_le_mul h4 h2
  unfold steepN
  omega
section
variable {f g e : List Int} {size other stray : Int}
theorem Cols.zc_small (c : Cols f g e size other stray) (h : Int) : ∀ v ∈ zc f g (digit h 2), v.natAbs ≤ 50 + 10 * 50 :=
  vadd_small c.bg (smul_small (dig_abs h 2) c.bf)
theorem Cols.yc_small (c : Cols f g e size other stray) (h : Int) : ∀ v ∈ yc f g e (digit h 2) (digit h 3) (digit h 4), v.natAbs ≤ 10 * 50 + 10 * (50 + 10 * 50) + 50 :=
  vadd_small (vadd_small (smul_small (dig_abs h 3) c.bf) (smul_small (dig_abs h 4) (c.zc_small h))) c.be
theorem Cols.x (c : Cols f g e size other stray) (h : Int) : ColOk f.length (xL h f) (digit h 1) :=
  ⟨sm_of (B := 50 + 10) (by have := c.hi; show (f.map _).length ≤ 64; rw [List.length_map]; omega) (shift_small (dig_abs h 1) c.bf) (by decide), List.length_map _, shift_sum c.tri.sf, Nat.le_trans (dig_abs h 1) (by decide)⟩
theorem Cols.z (c : Cols f g e size other stray) (h : Int) : ColOk f.length (zL h f g) (digit h 0) :=
  ⟨sm_of (B := 50 + 10 * 50 + 10) (by have := c.hi; show ((zc f g _).map _).length ≤ 64; rw [List.length_map, zc_len c.tri]; omega) (shift_small (dig_abs h 0) (c.zc_small h)) (by decide), by show ((zc f g _).map _).length = _; rw [List.length_map, zc_len c.tri], shift_sum (zc_sum c.tri), Nat.le_trans (dig_abs h 0) (by decide)⟩
theorem Cols.y (c : Cols f g e size other stray) (h : Int) : ColOk f.length (yL h f g e) (levelN h) :=
  ⟨sm_of (B := 10 * 50 + 10 * (50 + 10 * 50) + 50 + 210) (by have := c.hi; show ((yc f g e _ _ _).map _).length ≤ 64; rw [List.length_map, yc_len c.tri]; omega) (shift_small (level_small h) (c.yc_small h)) (by decide), by show ((yc f g e _ _ _).map _).length = _; rw [List.length_map, yc_len c.tri], shift_sum (yc_sum c.tri), Nat.le_trans (level_small h) (by decide)⟩
theorem Cols.g0 (c : Cols f g e size other stray) : ColOk f.length g 0 :=
  ⟨sm_of (by have := c.hi; rw [c.tri.lg]; omega) c.bg (by decide), c.tri.lg, by rw [c.tri.sg, Int.zero_mul], by decide⟩
theorem Cols.e0 (c : Cols f g e size other stray) : ColOk f.length e 0 :=
  ⟨sm_of (by have := c.hi; rw [c.tri.le]; omega) c.be (by decide), c.tri.le, by rw [c.tri.se, Int.zero_mul], by decide⟩
theorem Cols.left (c : Cols f g e size other stray) (h : Int) : ColOk f.length (vadd (smul (digit h 4) g) e) 0 := by
  have l : (vadd (smul (digit h 4) g) e).length = f.length := by rw [vadd_len (by rw [smul_len, c.tri.le, c.tri.lg]), smul_len, c.tri.lg]
  refine ⟨sm_of (B := 10 * 50 + 50) (by have := c.hi; rw [l]; omega) (vadd_small (smul_small (dig_abs h 4) c.bg) c.be) (by decide), l, ?_, by decide⟩
  rw [sum_vadd _ _ (by rw [smul_len, c.tri.le, c.tri.lg]), sum_smul, c.tri.sg, c.tri.se]; simp
theorem Cols.two (c : Cols f g e size other stray) : 2 ≤ f.length := by have := c.lo; omega
theorem cen_x (h : Int) : (xL h f).map (· - digit h 1) = f := unshift _ _
theorem cen_z (h : Int) : (zL h f g).map (· - digit h 0) = zc f g (digit h 2) := unshift _ _
theorem cen_y (h : Int) : (yL h f g e).map (· - levelN h) = yc f g e (digit h 2) (digit h 3) (digit h 4) := unshift _ _
theorem cen_0 (l : List Int) : l.map (· - 0) = l := (List.map_congr_left fun x _ => by show x - 0 = x; omega).trans (List.map_id _)
theorem dotN_dot' {as bs : List Int} {n : Nat} (h : as.length = n) : dotN as bs n = dot as bs := h ▸ dotN_dot as bs
end
theorem cells_len (sc : List Int) : (cellsOf sc).length = 3 ∨ (cellsOf sc).length = 4 ∨ (cellsOf sc).length = 5 := by
  unfold cellsOf
  rw [List.length_map, List.length_take, List.length_append]
  have : ([3, 4, 11] : List Int).length = 3 := rfl
  rw [this]
  omega
theorem cells_small (sc : List Int) : ∀ x ∈ cellsOf sc, 0 ≤ x ∧ x < 15 := by
  intro x hx
  obtain ⟨y, _, rfl⟩ := List.mem_map.mp hx
  exact ⟨Int.fmod_nonneg_of_pos y (by decide), Int.fmod_lt_of_pos y (by decide)⟩
theorem cols_of (sc : List Int) (t : Int) (h0 : 0 ≤ t) (h1 : t < (cellsOf sc).length + 1) :
    Cols (columnN (cellsOf sc) 0 t) (columnN (cellsOf sc) 1 t) (columnN (cellsOf sc) 2 t) (sizeN (cellsOf sc) 0 (cellsOf sc).length) (sizeN (cellsOf sc) 1 (cellsOf sc).length) (sizeN (cellsOf sc) 2 (cellsOf sc).length) := by
  have hl := cells_len sc
  have hb := cells_small sc
  have h5 : (cellsOf sc).length ≤ 5 := by omega
  exact ⟨tri_of _ hl t h0 h1, by rw [columnN_len]; omega, by rw [columnN_len]; omega, column_small _ hb h5 0 t, column_small _ hb h5 1 t, column_small _ hb h5 2 t, size_small _ hb h5 0, size_small _ hb h5 1, size_small _ hb h5 2⟩
end Mine
end
section
set_option maxRecDepth 100000
set_option exponentiation.threshold 3000
namespace Mine
open PySem PySem.Float64 PySem.Builtin.Math
@[irreducible] noncomputable def Un : Nat := 2 ^ 1054
theorem Un_def : Un = 2 ^ 1054 := by unfold Un; rfl
/-- a float whose value lies between two multiples of 2 ^ -20 -/
noncomputable def IV (x : UInt64) (a b : Int) : Prop := ∃ s m e, decode x = .fin s m e ∧ a * Un ≤ val x ∧ val x ≤ b * Un
theorem repc (c N : Nat) (hc1 : 52 ≤ c) (hc2 : c ≤ 1074) (h : N ≤ 2 ^ 53) : ∃ t, t < infMag ∧ V t = N * 2 ^ c := by
  by_cases h0 : N = 0
  · subst h0; exact ⟨0, by decide, by rw [V_zero, Nat.zero_mul]⟩
  by_cases hT : N = 2 ^ 53
  · subst hT
    exact ⟨c * 2 ^ 52 + 2 ^ 53, by unfold infMag; omega, V_at (by omega) (by omega)⟩
  have hl : N.log2 ≤ 52 := by
    have : N < 2 ^ 53 := by omega
    have := (Nat.log2_lt h0).mpr this
    omega
  have h1 := Nat.log2_self_le h0
  have h2 : N < 2 ^ (N.log2 + 1) := Nat.lt_log2_self
  generalize N.log2 = l at *
  refine ⟨(c - (52 - l)) * 2 ^ 52 + N * 2 ^ (52 - l), ?_, ?_⟩
  · have : N * 2 ^ (52 - l) < 2 ^ (l + 1) * 2 ^ (52 - l) := Nat.mul_lt_mul_of_pos_right h2 (Nat.two_pow_pos _)
    rw [← Nat.pow_add, show l + 1 + (52 - l) = 53 by omega] at this
    unfold infMag; omega
  · have lo : 2 ^ l * 2 ^ (52 - l) ≤ N * 2 ^ (52 - l) := Nat.mul_le_mul_right _ h1
    have hi : N * 2 ^ (52 - l) < 2 ^ (l + 1) * 2 ^ (52 - l) := Nat.mul_lt_mul_of_pos_right h2 (Nat.two_pow_pos _)
    rw [← Nat.pow_add, show l + (52 - l) = 52 by omega] at lo
    rw [← Nat.pow_add, show l + 1 + (52 - l) = 53 by omega] at hi
    rw [V_at (by omega) (.inl lo), Nat.mul_assoc, ← Nat.pow_add, show 52 - l + (c - (52 - l)) = c by omega]
theorem not_over2 {W D j u T : Nat} (z : 2 ^ 54 * u < T) (hW : W ≤ D * (j * u)) (hD : 0 < D) (h : j ≤ 2 ^ 53) : ¬ D * T ≤ 2 * W := by
  intro q
  have q2 : D * T ≤ D * (2 * (j * u)) := Nat.le_trans q (by rw [← Nat.mul_assoc, Nat.mul_comm D 2, Nat.mul_assoc]; exact Nat.mul_le_mul_left 2 hW)
  have q3 := Nat.le_of_mul_le_mul_left q2 hD
  have : 2 * (j * u) ≤ 2 ^ 54 * u := by
    rw [← Nat.mul_assoc]
    exact Nat.mul_le_mul_right _ (by omega)
  omega
/-- rounding keeps what is told by representable bounds -/
theorem round_le {r : UInt64} {neg : Bool} {W D j : Nat} (R : Right r neg W D) (hD : 0 < D) (hj : j ≤ 2 ^ 53) (hW : W ≤ D * (j * Un)) :
    ∃ t, r = pack neg t ∧ t < infMag ∧ V t ≤ j * Un ∧ ∀ i, i ≤ 2 ^ 53 → D * (i * Un) ≤ W → i * Un ≤ V t := by
  obtain ⟨t, e, ht, hov, hn⟩ := R
  have hlt : t < infMag := by
    rcases Nat.lt_or_ge t infMag with q | q
    · exact q
    · exact absurd (hov.mp (Nat.le_antisymm ht q)) (not_over2 (by rw [Un_def]; decide +kernel) hW hD hj)
  refine ⟨t, e, hlt, ?_, fun i hi hl => ?_⟩
  · obtain ⟨t₀, _, hV⟩ := repc 1054 j (by decide) (by decide) hj
    rw [← Un_def] at hV
    refine Nat.not_lt.mp fun q => ?_
    have h1 := (hn hlt t₀).1
    rw [hV] at h1
    have h2 : D * (j * Un) < D * V t := Nat.mul_lt_mul_of_pos_left q hD
    generalize D * (j * Un) = X at *
    generalize D * V t = Y at *
    unfold dist at h1
    omega
  · obtain ⟨t₀, _, hV⟩ := repc 1054 i (by decide) (by decide) hi
    rw [← Un_def] at hV
    refine Nat.not_lt.mp fun q => ?_
    have h1 := (hn hlt t₀).1
    rw [hV] at h1
    have h2 : D * V t < D * (i * Un) := Nat.mul_lt_mul_of_pos_left q hD
    generalize D * (i * Un) = X at *
    generalize D * V t = Y at *
    unfold dist at h1
    omega
theorem U_pos : (0 : Int) < (Un : Int) := by
  rw [Un_def]; exact Int.ofNat_lt.mpr (Nat.two_pow_pos _)
theorem iv_pack {neg : Bool} {t : Nat} {a b : Int} (ht : t < infMag) (h1 : a * Un ≤ sgn neg (V t)) (h2 : sgn neg (V t) ≤ b * Un) : IV (pack neg t) a b := by
  obtain ⟨m, e, hd, _⟩ := decode_pack neg ht
  exact ⟨neg, m, e, hd, by rw [val_pack neg ht]; exact h1, by rw [val_pack neg ht]; exact h2⟩
theorem iv_zero {s : Bool} {a b : Int} (ha : a ≤ 0) (hb : 0 ≤ b) : IV (zero s) a b := by
  have := isF_zero s
  obtain ⟨s', m, e, hd, hv⟩ := this
  refine ⟨s', m, e, hd, ?_, ?_⟩
  · rw [hv, Int.zero_mul]
    exact Int.mul_nonpos_of_nonpos_of_nonneg ha (Int.le_of_lt U_pos)
  · rw [hv, Int.zero_mul]
    exact Int.mul_nonneg hb (Int.le_of_lt U_pos)
/-- a rounded result, its sign by its value -/
theorem iv_of_right {r : UInt64} {P : Int} {D : Nat} {a b : Int} (R : Right r (decide (P < 0)) P.natAbs D) (hD : 0 < D) (ha : a.natAbs ≤ 2 ^ 53) (hb : b.natAbs ≤ 2 ^ 53) (h1 : (D : Int) * (a * Un) ≤ P) (h2 : P ≤ (D : Int) * (b * Un)) : IV r a b := by
  have hDi : (0 : Int) < D := by omega
  have cast : ∀ j : Nat, ((D * (j * Un) : Nat) : Int) = (D : Int) * ((j : Int) * Un) := fun j => by push_cast; rfl
  have castV : ∀ j : Nat, ((j * Un : Nat) : Int) = (j : Int) * Un := fun j => by push_cast; rfl
  have sg : ∀ z : Int, z < 0 → (D : Int) * (z * Un) < 0 := fun z hz => Int.mul_neg_of_pos_of_neg hDi (Int.mul_neg_of_neg_of_pos hz U_pos)
  have sp : ∀ z : Int, 0 ≤ z → 0 ≤ (D : Int) * (z * Un) := fun z hz => Int.mul_nonneg (Int.le_of_lt hDi) (Int.mul_nonneg hz (Int.le_of_lt U_pos))
  have up : ∀ z : Int, 0 ≤ z → 0 ≤ z * Un := fun z hz => Int.mul_nonneg hz (Int.le_of_lt U_pos)
  have ng : ∀ z : Int, (D : Int) * (-z * Un) = -((D : Int) * (z * Un)) := fun z => by rw [Int.neg_mul, Int.mul_neg]
  by_cases hP : P < 0
  · rw [decide_eq_true hP] at R
    have ha0 : a < 0 := by
      refine Int.not_le.mp fun q => ?_
      have := sp a q
      omega
    have hj := cast a.natAbs
    rw [show ((a.natAbs : Nat) : Int) = -a by omega, ng] at hj
    obtain ⟨t, rfl, ht, hle, hge⟩ := round_le (j := a.natAbs) R hD ha (by omega)
    have cV := castV a.natAbs
    rw [show ((a.natAbs : Nat) : Int) = -a by omega, Int.neg_mul] at cV
    refine iv_pack ht ?_ ?_
    · show a * Un ≤ -(V t : Int)
      omega
    · show -(V t : Int) ≤ b * Un
      by_cases hb0 : 0 ≤ b
      · have := up b hb0
        omega
      · have hj' := cast b.natAbs
        rw [show ((b.natAbs : Nat) : Int) = -b by omega, ng] at hj'
        have := hge b.natAbs hb (by omega)
        have cV := castV b.natAbs
        rw [show ((b.natAbs : Nat) : Int) = -b by omega, Int.neg_mul] at cV
        omega
  · rw [decide_eq_false hP] at R
    have hb0 : 0 ≤ b := by
      refine Int.not_lt.mp fun q => ?_
      have := sg b q
      omega
    have hj := cast b.natAbs
    rw [show ((b.natAbs : Nat) : Int) = b by omega] at hj
    obtain ⟨t, rfl, ht, hle, hge⟩ := round_le (j := b.natAbs) R hD hb (by omega)
    have cV := castV b.natAbs
    rw [show ((b.natAbs : Nat) : Int) = b by omega] at cV
    refine iv_pack ht ?_ ?_
    · show a * Un ≤ (V t : Int)
      by_cases ha0 : a < 0
      · have := Int.mul_neg_of_neg_of_pos ha0 U_pos
        omega
      · have hj' := cast a.natAbs
        rw [show ((a.natAbs : Nat) : Int) = a by omega] at hj'
        have := hge a.natAbs ha (by omega)
        have cV := castV a.natAbs
        rw [show ((a.natAbs : Nat) : Int) = a by omega] at cV
        omega
    · show (V t : Int) ≤ b * Un
      omega
theorem iv_add {x y : UInt64} {a b c d : Int} (hx : IV x a b) (hy : IV y c d) (h1 : (a + c).natAbs ≤ 2 ^ 53) (h2 : (b + d).natAbs ≤ 2 ^ 53) : IV (add x y) (a + c) (b + d) := by
  obtain ⟨s, m, e, hd, l1, l2⟩ := hx
  obtain ⟨s', m', e', hd', l3, l4⟩ := hy
  have b1 : (a + c) * Un ≤ val x + val y := by rw [Int.add_mul]; omega
  have b2 : val x + val y ≤ (b + d) * Un := by rw [Int.add_mul]; omega
  obtain ⟨k0, k1⟩ := add_right hd hd'
  by_cases z : val x + val y = 0
  · rw [k0 z]
    rw [z] at b1 b2
    refine iv_zero ?_ ?_
    · refine Int.not_lt.mp fun q => ?_
      have := Int.mul_pos q U_pos
      omega
    · refine Int.not_lt.mp fun q => ?_
      have := Int.mul_neg_of_neg_of_pos q U_pos
      omega
  · exact iv_of_right (k1 z) (by decide) h1 h2 (by rw [Int.natCast_one, Int.one_mul]; exact b1) (by rw [Int.natCast_one, Int.one_mul]; exact b2)
theorem iv_neg {x : UInt64} {a b : Int} (hx : IV x a b) : IV (neg x) (-b) (-a) := by
  obtain ⟨s, m, e, hd, l1, l2⟩ := hx
  exact ⟨_, _, _, neg_decode hd, by rw [neg_val hd, Int.neg_mul]; omega, by rw [neg_val hd, Int.neg_mul]; omega⟩
theorem iv_sub {x y : UInt64} {a b c d : Int} (hx : IV x a b) (hy : IV y c d) (h1 : (a - d).natAbs ≤ 2 ^ 53) (h2 : (b - c).natAbs ≤ 2 ^ 53) : IV (sub x y) (a - d) (b - c) := by
  have := iv_add hx (iv_neg hy) h1 h2
  unfold Float64.sub
  rw [← Int.sub_eq_add_neg, ← Int.sub_eq_add_neg] at this
  exact this
theorem iv_wide {x : UInt64} {a b c d : Int} (hx : IV x a b) (h1 : c ≤ a) (h2 : b ≤ d) : IV x c d := by
  obtain ⟨s, m, e, hd, l1, l2⟩ := hx
  exact ⟨s, m, e, hd, Int.le_trans (Int.mul_le_mul_of_nonneg_right h1 (Int.le_of_lt U_pos)) l1, Int.le_trans l2 (Int.mul_le_mul_of_nonneg_right h2 (Int.le_of_lt U_pos))⟩
theorem iv_dlSum {x y : UInt64} {a A c C : Int} (hx : IV x a (a + A)) (hy : IV y c (c + C)) (hA : 0 ≤ A) (hC : 0 ≤ C) (ba : a.natAbs ≤ 2 ^ 40) (bA : A ≤ 2 ^ 40) (bc : c.natAbs ≤ 2 ^ 40) (bC : C ≤ 2 ^ 40) :
    IV (dlSum x y).1 (a + c) (a + A + (c + C)) ∧ IV (dlSum x y).2 (-(3 * A + 2 * C)) (3 * A + 2 * C) := by
  have h1 := iv_add hx hy (by omega) (by omega)
  have hz := iv_sub h1 hx (by omega) (by omega)
  have hu := iv_sub h1 hz (by omega) (by omega)
  have hv := iv_sub hx hu (by omega) (by omega)
  have ht := iv_sub hy hz (by omega) (by omega)
  exact ⟨h1, iv_wide (iv_add hv ht (by omega) (by omega)) (by omega) (by omega)⟩
theorem iv_isF {x : UInt64} {n : Int} (h : IsF x n) : IV x (n * 2 ^ 20) (n * 2 ^ 20) := by
  obtain ⟨s, m, e, hd, hv⟩ := h
  have : n * 2 ^ 20 * (Un : Int) = val x := by rw [hv, Int.mul_assoc, Un_def, Int.natCast_pow]; congr 1
  exact ⟨s, m, e, hd, by rw [this]; exact Int.le_refl _, by rw [this]; exact Int.le_refl _⟩
end Mine
end
section
set_option maxRecDepth 100000
set_option exponentiation.threshold 3000
namespace Mine
open PySem PySem.Float64 PySem.Builtin.Math
@[irreducible] noncomputable def Kn : Nat := 2 ^ 1074
theorem Kn_def : Kn = 2 ^ 1074 := by unfold Kn; rfl
theorem Kn_pos : 0 < Kn := by rw [Kn_def]; exact Nat.two_pow_pos _
theorem KU : Kn = 1048576 * Un := by rw [Kn_def, Un_def]
theorem fma_right {x y z : UInt64} {s s' s'' : Bool} {m k n : Nat} {e f g : Int} (hd : decode x = .fin s m e) (hd' : decode y = .fin s' k f) (hd'' : decode z = .fin s'' n g) :
    (val x * val y + val z * Kn = 0 → ∃ b, fma x y z = zero b) ∧ (val x * val y + val z * Kn ≠ 0 → Right (fma x y z) (decide (val x * val y + val z * Kn < 0)) (val x * val y + val z * Kn).natAbs Kn) := by
  have he := decode_ge hd
  have hf := decode_ge hd'
  have hg := decode_ge hd''
  have hp : (sgn (s != s') (m * k * 2 ^ (e + f - min (e + f) g).toNat) + sgn s'' (n * 2 ^ (g - min (e + f) g).toNat)) * ((2 ^ (min (e + f) g + 2148).toNat : Nat) : Int) = val x * val y + val z * Kn := by
    have p1 := fma_p1 hd hd' hg
    have p2 : sgn s'' (n * 2 ^ (g - min (e + f) g).toNat) * ((2 ^ (min (e + f) g + 2148).toNat : Nat) : Int) = val z * Kn := by
      rw [Kn_def]
      exact fma_p2 hd'' he hf
    rw [Int.add_mul, p1, p2]
  have hfma : fma x y z = (if sgn (s != s') (m * k * 2 ^ (e + f - min (e + f) g).toNat) + sgn s'' (n * 2 ^ (g - min (e + f) g).toNat) == 0 then zero (if m * k == 0 && n == 0 then (s != s') && s'' else false) else ofBin (decide (sgn (s != s') (m * k * 2 ^ (e + f - min (e + f) g).toNat) + sgn s'' (n * 2 ^ (g - min (e + f) g).toNat) < 0)) (sgn (s != s') (m * k * 2 ^ (e + f - min (e + f) g).toNat) + sgn s'' (n * 2 ^ (g - min (e + f) g).toNat)).natAbs (min (e + f) g)) := by
    unfold fma
    rw [hd, hd', hd'']
    rfl
  generalize sgn (s != s') (m * k * 2 ^ (e + f - min (e + f) g).toNat) + sgn s'' (n * 2 ^ (g - min (e + f) g).toNat) = q at *
  have hpos : (0 : Int) < ((2 ^ (min (e + f) g + 2148).toNat : Nat) : Int) := Int.ofNat_lt.mpr (Nat.two_pow_pos _)
  constructor
  · intro h0
    have hs : q = 0 := by
      rw [h0] at hp
      rcases Int.mul_eq_zero.mp hp with h | h
      · exact h
      · omega
    exact ⟨_, by rw [hfma, hs]; rfl⟩
  · intro h0
    have hs : q ≠ 0 := by
      intro h
      rw [h, Int.zero_mul] at hp
      exact h0 hp.symm
    have hneg : decide (val x * val y + val z * Kn < 0) = decide (q < 0) := by
      rw [← hp]
      apply decide_eq_decide.mpr
      constructor
      · intro h
        by_cases h2 : q < 0
        · exact h2
        · have := Int.mul_nonneg (show 0 ≤ q by omega) (Int.le_of_lt hpos)
          omega
      · intro h
        exact Int.mul_neg_of_neg_of_pos h hpos
    rw [hfma, if_neg (by simpa using hs), hneg]
    unfold ofBin
    have hW : (val x * val y + val z * Kn).natAbs = q.natAbs * 2 ^ (min (e + f) g + 2148).toNat := by rw [← hp, Int.natAbs_mul, Int.natAbs_natCast]
    refine ofFrac_right (shift_pos _ _ _ (by decide)) ?_ Kn_pos
    have := shift_one q.natAbs (min (e + f) g) 2148 (by omega)
    rw [hW, Kn_def, Nat.mul_assoc, ← Nat.pow_add]
    exact this
/-- the root, squared, lies close to its radicand -/
theorem sqrt_near {x : UInt64} {n : Nat} (hx : IsF x n) (h1 : 1 ≤ n) (h2 : n ≤ 80000) : ∃ t, Float64.sqrt x = pack false t ∧ t < infMag ∧ V t * V t ≤ n * Kn * Kn + Un * Kn ∧ n * Kn * Kn ≤ V t * V t + Un * Kn ∧ Kn ≤ 2 * V t ∧ V t ≤ 300 * Kn := by
  obtain ⟨s, m, e, hd, hv⟩ := hx
  have hs : s = false := by
    have := sgn_flag (sgn_val_n hd hv) (by omega)
    rw [this]; simp
  subst hs
  have hm : m ≠ 0 := fun q => by have := (isF_nonzero hd hv).mp q; omega
  obtain ⟨t, ht, hlt, up, lo⟩ := sqrt_right hd hm
  rw [hv, natAbs_K, Int.natAbs_natCast, ← Kn_def] at up lo
  refine ⟨t, ht, hlt, ?_⟩
  obtain ⟨u, hu, hUu, hKu⟩ : ∃ u, u = 2 ^ 1044 ∧ Un = 1024 * u ∧ Kn = 1073741824 * u := ⟨2 ^ 1044, rfl, by rw [Un_def], by rw [Kn_def]⟩
  have hu0 : 0 < u := by rw [hu]; exact Nat.two_pow_pos _
  generalize hv' : V t = v at *
  have vb : v ≤ 300 * Kn := by
    refine Nat.not_lt.mp fun q => ?_
    obtain ⟨t', _, hV⟩ := repc 1074 300 (by decide) (by decide) (by decide)
    rw [← Kn_def] at hV
    have hlt' : t' < t := Nat.not_le.mp fun z => by
      have := V_mono z
      omega
    have h := lo t' hlt'
    rw [hV] at h
    have h3 : (600 * Kn) * (600 * Kn) ≤ (v + 300 * Kn) * (v + 300 * Kn) := Nat.mul_le_mul (by omega) (by omega)
    have h4 : (600 * Kn) * (600 * Kn) = 360000 * (Kn * Kn) := by
      rw [Nat.mul_mul_mul_comm]
    have h5 : 4 * (n * Kn * Kn) ≤ 320000 * (Kn * Kn) := by
      rw [Nat.mul_assoc, ← Nat.mul_assoc]
      exact Nat.mul_le_mul_right _ (by omega)
    have := Nat.mul_pos Kn_pos Kn_pos
    omega
  have hj1 : v / u * u ≤ v := Nat.div_mul_le_self v u
  have hj2 : v < v / u * u + u := by
    have h1 := Nat.div_add_mod v u
    have h2 := Nat.mod_lt v hu0
    have h3 := Nat.mul_comm u (v / u)
    omega
  have hj3 : v / u ≤ 2 ^ 40 := by
    refine Nat.div_le_of_le_mul ?_
    rw [hKu] at vb
    omega
  obtain ⟨t1, _, hV1⟩ := repc 1044 (v / u + 1) (by decide) (by decide) (by omega)
  rw [← hu] at hV1
  have up1 := up t1 (Nat.not_le.mp fun z => by
    have := V_mono z
    rw [hV1, Nat.add_mul, Nat.one_mul] at this
    omega)
  have e1 : (v / u + 1) * u = v / u * u + u := by rw [Nat.add_mul, Nat.one_mul]
  rw [hV1, e1] at up1
  have up2 : 4 * (n * Kn * Kn) ≤ (2 * v + u) * (2 * v + u) := Nat.le_trans up1 (Nat.mul_le_mul (by omega) (by omega))
  have low : 2 * Kn ≤ 2 * v + u := by
    refine Nat.mul_self_le_mul_self_iff.mp (Nat.le_trans ?_ up2)
    have : (2 * Kn) * (2 * Kn) = 4 * (1 * Kn * Kn) := by rw [Nat.mul_mul_mul_comm, Nat.one_mul]
    rw [this]
    exact Nat.mul_le_mul_left _ (Nat.mul_le_mul_right _ (Nat.mul_le_mul_right _ h1))
  have vlow : Kn ≤ 2 * v := by omega
  have huv : u ≤ v := by omega
  have hjp : 1 ≤ v / u := (Nat.one_le_div_iff hu0).mpr huv
  obtain ⟨t2, _, hV2⟩ := repc 1044 (v / u - 1) (by decide) (by decide) (by omega)
  rw [← hu] at hV2
  have e2 : (v / u - 1) * u = v / u * u - u := by rw [Nat.sub_mul, Nat.one_mul]
  have lo1 := lo t2 (Nat.not_le.mp fun z => by
    have := V_mono z
    rw [hV2, e2] at this
    omega)
  rw [hV2, e2] at lo1
  have lo2 : (2 * (v - u)) * (2 * (v - u)) ≤ 4 * (n * Kn * Kn) := Nat.le_trans (Nat.mul_le_mul (by omega) (by omega)) lo1
  have q1 : (2 * v + u) * (2 * v + u) = 4 * (v * v) + 4 * (u * v) + u * u := by grind
  have q2 : u * v ≤ 300 * (u * Kn) := by
    rw [Nat.mul_left_comm]; exact Nat.mul_le_mul_left u vb
  have q3 : u * u ≤ u * Kn := Nat.mul_le_mul_left u (by omega)
  have q4 : Un * Kn = 1024 * (u * Kn) := by rw [hUu, Nat.mul_assoc]
  obtain ⟨d, rfl⟩ : ∃ d, v = u + d := ⟨v - u, by omega⟩
  have q5 : (2 * (u + d - u)) * (2 * (u + d - u)) = 4 * (d * d) := by
    rw [Nat.add_sub_cancel_left, Nat.mul_mul_mul_comm]
  have q6 : (u + d) * (u + d) = u * u + 2 * (u * d) + d * d := by grind
  have q7 : u * d ≤ u * (u + d) := Nat.mul_le_mul_left u (Nat.le_add_left _ _)
  rw [q1] at up2
  rw [q5] at lo2
  refine ⟨by omega, by omega, vlow, vb⟩
end Mine
end
section
set_option maxRecDepth 100000
set_option exponentiation.threshold 3000
namespace Mine
open PySem PySem.Float64 PySem.Builtin.Math
theorem iv_fin {x : UInt64} {a b : Int} (h : IV x a b) : isFinite x = true := by
  obtain ⟨s, m, e, hd, _, _⟩ := h
  unfold isFinite; rw [hd]
theorem iv_pos {x : UInt64} {a b : Int} (h : IV x a b) (ha : 0 < a) : isZero x = false ∧ isNaN x = false := by
  obtain ⟨s, m, e, hd, h1, _⟩ := h
  refine ⟨?_, by unfold isNaN; rw [hd]⟩
  have hm : m ≠ 0 := fun q => by
    rw [val_eq hd, q, Nat.zero_mul] at h1
    have : sgn s 0 = 0 := by unfold sgn; cases s <;> rfl
    rw [this] at h1
    have := Int.mul_pos ha U_pos
    omega
  unfold isZero; rw [hd]
  cases m with
  | zero => exact absurd rfl hm
  | succ m => rfl
theorem pack_pos {neg : Bool} {t : Nat} (ht : t < infMag) (h : 0 < V t) : isZero (pack neg t) = false := by
  obtain ⟨m, e, hd, hv⟩ := decode_pack neg ht
  have hm : m ≠ 0 := fun q => by rw [q, Nat.zero_mul] at hv; omega
  unfold isZero; rw [hd]
  cases m with
  | zero => exact absurd rfl hm
  | succ m => rfl
/-- a product that is no square, or is one: the root stands, and is not zero -/
theorem nonsq {x y : UInt64} {a b : Int} (hx : IsF x a) (hy : IsF y b) (h1 : 1 ≤ a * b) (h2 : a * b ≤ 80000) : SqOk x y ∧ IV (sqp x y) 1 (2 ^ 40) := by
  obtain ⟨n, hn⟩ : ∃ n : Nat, a * b = n := ⟨(a * b).toNat, by omega⟩
  have n1 : 1 ≤ n := by omega
  have n2 : n ≤ 80000 := by omega
  have hp : IsF (Float64.mul x y) n := by rw [← hn]; exact isF_mul hx hy (by omega)
  have t1 := tlFma_exact hx hy T3.zero (by decide) (by omega) (by omega)
  rw [Int.zero_add, hn] at t1
  obtain ⟨t, ht, hlt, b1, b2, b3, b4⟩ := sqrt_near hp n1 n2
  -- the root and its negative
  obtain ⟨m, e, hd, hvt⟩ := decode_pack false hlt
  have hvh : val (pack false t) = (V t : Int) := val_pack false hlt
  generalize hh : pack false t = h at *
  have hdn := neg_decode hd
  have hvn : val (Float64.neg h) = -(V t : Int) := by rw [neg_val hd, hvh]
  have hKi : (0 : Int) < (Kn : Int) := by have := Kn_pos; omega
  obtain ⟨N, hN⟩ : ∃ N : Nat, N = n * 1048576 := ⟨_, rfl⟩
  have hNb : N ≤ 2 ^ 40 := by omega
  have c1 : ((n * Kn * Kn : Nat) : Int) = (Kn : Int) * ((N : Int) * Un) := by
    have h : n * Kn * Kn = Kn * (N * Un) := by
      have h2 : n * Kn = N * Un := by rw [KU, hN, Nat.mul_assoc]
      rw [h2, Nat.mul_comm]
    rw [h, Int.natCast_mul, Int.natCast_mul]
  have c2 : ((Un * Kn : Nat) : Int) = (Kn : Int) * Un := by rw [Nat.mul_comm, Int.natCast_mul]
  have c3 : ((V t * V t : Nat) : Int) = (V t : Int) * V t := Int.natCast_mul _ _
  have vpos : 0 < V t := by have := Kn_pos; omega
  have vv : (0 : Int) < (V t : Int) * V t := by rw [← c3]; have := Nat.mul_pos vpos vpos; omega
  -- -(h * h), rounded
  have ivm : IV (Float64.mul h (Float64.neg h)) (-(N : Int) - 1) (-(N : Int) + 1) := by
    have R := mul_right hd hdn
    rw [hvh, hvn, Int.natAbs_neg, Int.natAbs_natCast, ← Kn_def] at R
    have f : (false != !false) = decide (-((V t : Int) * V t) < 0) := by
      rw [decide_eq_true (by omega)]; rfl
    rw [f, show V t * V t = (-((V t : Int) * V t)).natAbs by rw [Int.natAbs_neg, ← c3, Int.natAbs_natCast]] at R
    refine iv_of_right R Kn_pos (by omega) (by omega) ?_ ?_
    · rw [Int.sub_mul, Int.neg_mul, Int.mul_sub, Int.mul_neg, Int.one_mul]
      omega
    · rw [Int.add_mul, Int.neg_mul, Int.mul_add, Int.mul_neg, Int.one_mul]
      omega
  generalize hm : Float64.mul h (Float64.neg h) = mm at ivm
  -- the error of it
  have ive : IV (fma h (Float64.neg h) (Float64.neg mm)) (-2) 2 := by
    obtain ⟨s', m', e', hdm, l1, l2⟩ := ivm
    have hdnm := neg_decode hdm
    have hvnm : val (Float64.neg mm) = -(val mm) := neg_val hdm
    obtain ⟨z0, z1⟩ := fma_right hd hdn hdnm
    rw [hvh, hvn, hvnm] at z0 z1
    have k1 := Int.mul_le_mul_of_nonneg_left l1 (Int.le_of_lt hKi)
    have k2 := Int.mul_le_mul_of_nonneg_left l2 (Int.le_of_lt hKi)
    rw [Int.sub_mul, Int.neg_mul, Int.mul_sub, Int.mul_neg, Int.one_mul] at k1
    rw [Int.add_mul, Int.neg_mul, Int.mul_add, Int.mul_neg, Int.one_mul] at k2
    have e1 : (V t : Int) * -(V t : Int) + -val mm * Kn = -((V t : Int) * V t) - Kn * val mm := by rw [Int.mul_neg, Int.neg_mul, Int.mul_comm (val mm)]; omega
    rw [e1] at z0 z1
    by_cases z : -((V t : Int) * V t) - Kn * val mm = 0
    · obtain ⟨b', hb'⟩ := z0 z
      rw [hb']
      exact iv_zero (by decide) (by decide)
    · refine iv_of_right (z1 z) Kn_pos (by decide) (by decide) ?_ ?_
      · rw [Int.neg_mul, Int.mul_neg, Int.mul_left_comm]
        omega
      · rw [Int.mul_left_comm]
        omega
  -- the sums
  have i1 := iv_isF t1.1
  have i2 := iv_isF t1.2.1
  have i3 := iv_isF t1.2.2
  have e20 : (n : Int) * 2 ^ 20 = N := by rw [hN, Int.natCast_mul]; rfl
  rw [e20] at i1
  rw [Int.zero_mul] at i2 i3
  obtain ⟨T, hT⟩ : ∃ T, tlFma x y Z3 = T := ⟨_, rfl⟩
  rw [show tlFma x y (zero false, zero false, zero false) = T from hT] at i1 i2 i3 t1
  have s1 := iv_dlSum (a := N) (A := 0) (c := -(N : Int) - 1) (C := 2) (x := T.1) (y := mm) (iv_wide i1 (by omega) (by omega)) (iv_wide ivm (by omega) (by omega)) (by decide) (by decide) (by omega) (by decide) (by omega) (by decide)
  have r1 := iv_dlSum (a := 0) (A := 0) (c := -2) (C := 4) (x := T.2.1) (y := fma h (Float64.neg h) (Float64.neg mm)) (iv_wide i2 (by omega) (by omega)) (iv_wide ive (by omega) (by omega)) (by decide) (by decide) (by decide) (by decide) (by decide) (by decide)
  have r2 := iv_dlSum (a := -2) (A := 4) (c := -4) (C := 8) (iv_wide r1.1 (by omega) (by omega)) (iv_wide s1.2 (by omega) (by omega)) (by decide) (by decide) (by decide) (by decide) (by decide) (by decide)
  have ti := iv_add (iv_add i3 r1.2 (by decide) (by decide)) r2.2 (by decide) (by decide)
  have la := iv_dlSum (a := -6) (A := 12) (c := -1) (C := 2) (iv_wide r2.1 (by omega) (by omega)) (iv_wide s1.1 (by omega) (by omega)) (by decide) (by decide) (by decide) (by decide) (by decide) (by decide)
  have tf := iv_add (iv_add ti la.2 (by decide) (by decide)) la.1 (by decide) (by decide)
  have i0 := iv_isF (isF_ofInt (n := 0) (by decide))
  rw [Int.zero_mul] at i0
  have dd := iv_add i0 tf (by decide) (by decide)
  subst hm
  have hdd : IV (add (ofInt 0) (tlToFloat (tlFma h (Float64.neg h) T))) (-83) 83 := iv_wide dd (by decide) (by decide)
  have hs1 : isFinite (tlFma h (Float64.neg h) T).1 = true := iv_fin s1.1
  -- twice the root
  obtain ⟨sw, mw, ew, hdw, hvw⟩ := isF_two
  have hsw : sw = false := by
    have := sgn_flag (sgn_val_n hdw hvw) (by decide)
    rw [this]; rfl
  subst hsw
  have R2 := mul_right hdw hd
  rw [hvw, hvh, natAbs_K, Int.natAbs_natCast, ← Kn_def] at R2
  have KW : (2 : Int).natAbs * Kn * V t = Kn * (2 * V t) := by
    show 2 * Kn * V t = _
    rw [Nat.mul_comm 2 Kn, Nat.mul_assoc]
  rw [KW] at R2
  obtain ⟨t2, e2, ht2, _, ge2⟩ := round_le (j := 1048576 * 600) R2 Kn_pos (by decide) (Nat.mul_le_mul_left _ (by rw [KU] at b4; omega))
  have k2 := ge2 1048576 (by decide) (Nat.mul_le_mul_left _ (by rw [KU] at b3; omega))
  rw [← KU] at k2
  have vp2 : 0 < V t2 := by have := Kn_pos; omega
  -- the correction
  obtain ⟨sd, md, ed, hdd1, l1, l2⟩ := hdd
  obtain ⟨m2, f2, hd2, hv2⟩ := decode_pack (false != false) ht2
  have hval2 : val (pack (false != false) t2) = (V t2 : Int) := val_pack (false != false) ht2
  rw [← e2] at hd2 hval2
  have R3 := div_right hdd1 hd2 (fun q => by rw [q, Nat.zero_mul] at hv2; omega)
  rw [hval2, Int.natAbs_natCast, ← Kn_def] at R3
  have ab : (val (add (ofInt 0) (tlToFloat (tlFma h (Float64.neg h) T)))).natAbs ≤ 83 * Un := by omega
  have W3 : (val (add (ofInt 0) (tlToFloat (tlFma h (Float64.neg h) T)))).natAbs * Kn ≤ V t2 * (83 * Un) := by
    rw [Nat.mul_comm (V t2)]
    exact Nat.mul_le_mul ab k2
  obtain ⟨t3, e3, ht3, le3, _⟩ := round_le (j := 83) R3 vp2 (by decide) W3
  have ic : IV (div (add (ofInt 0) (tlToFloat (tlFma h (Float64.neg h) T))) (mul two h)) (-83) 83 := by
    rw [e3]
    refine iv_pack ht3 ?_ ?_
    · unfold sgn; split <;> omega
    · unfold sgn; split <;> omega
  have ih : IV h 524288 (300 * 1048576) := ⟨_, _, _, hd, by rw [hvh]; rw [KU] at b3; omega, by rw [hvh]; rw [KU] at b4; omega⟩
  have ir := iv_add ih ic (by decide) (by decide)
  have fin : IV (add h (div (add (ofInt 0) (tlToFloat (tlFma h (Float64.neg h) T))) (mul two h))) 1 (2 ^ 40) := iv_wide ir (by decide) (by decide)
  have hpos := iv_pos ih (by decide)
  unfold sqp
  rw [ht, hT]
  refine ⟨⟨?_, ?_, ?_, ?_, ?_, ?_⟩, fin⟩
  · rw [ht, hpos.2]; exact Bool.false_ne_true
  · rw [ht]; exact iv_fin ih
  · rw [ht]; exact hpos.1
  · rw [hT]; exact isF_finite t1.1
  · rw [ht, hT]; exact hs1
  · rw [ht, e2]; exact pack_pos ht2 vp2
/-- zero over a root -/
theorem tie_zero {a b : Int} (h1 : 1 ≤ a * b) (h2 : a * b ≤ 80000) : ∀ x y z, IsF x a → IsF y b → IsF z 0 → SqOk x y ∧ isZero (sqp x y) = false ∧ ∀ t, Rep (.fl 0) (.float (Float64.div z (sqp x y)) t) := by
  intro x y z hx hy hz
  obtain ⟨ok, iv⟩ := nonsq hx hy h1 h2
  refine ⟨ok, (iv_pos iv (by decide)).1, fun t => .fl _ _ _ ?_⟩
  obtain ⟨s, m, e, hd, l1, l2⟩ := iv
  obtain ⟨s', m', e', hd', hv'⟩ := hz
  have hpos : 0 < val (sqp x y) := by
    have := U_pos
    rw [Int.one_mul] at l1
    omega
  have hm : m ≠ 0 := fun q => by
    rw [val_eq hd, q, Nat.zero_mul] at hpos
    have : sgn s 0 = 0 := by unfold sgn; cases s <;> rfl
    rw [this] at hpos
    omega
  have R := div_right hd' hd hm
  rw [hv', Int.zero_mul] at R
  have := right_exact R (N := 0) (by simp) (by omega) (by decide)
  have e0 : sgn (s' != s) ((0 : Nat)) = 0 := by unfold sgn; split <;> rfl
  rw [e0] at this
  exact this
end Mine
end
section
set_option maxRecDepth 100000
set_option exponentiation.threshold 3000
namespace Mine
open PySem PySem.Float64 PySem.W PySem.Calls PyProof.Rows
/-- where law's body runs -/
structure LawA (A : Around) (env : Env) : Prop where
  hh : A.handled = none
  room : A.depth + 10 < recursionLimit
  frames : A.frames = some [env]
  fr : env.frame = some env.locals
  units : A.units + 1 < cLine
section
variable {prog : Program} {w : World} {A : Around} {E : Value → Shared → Prop} {s : Shared} {env : Env} {h0 : Heap} {g0 : Array GenState} {o0 : OsState} {ρ ρc : List (Str × AV)} {ls : List (Addr × HV)} {rest : List Stmt} {P : List Addr} {T : Heap → Prop} {mg mb : Str → Option Value} {cs : List (Addr × Addr)} {K : Frag} {Q : Value → Shared → Prop}
theorem At.add {D : Addr} {l : HV} (X : At P T h0 g0 o0 env ρ ls s) (h : Holds s.heap D l) : At P T h0 g0 o0 env ρ ((D, l) :: ls) s :=
  ⟨X.ok, X.grow, X.here, fun a l' hm => by
    rcases List.mem_cons.mp hm with q | q
    · cases q; exact h
    · exact X.lists a l' q, X.far, X.big, X.tb, X.gens, X.os⟩
theorem LawA.chain (LA : LawA A env) (X : At P T h0 g0 o0 env ρ ls s) : Chain P s.heap [env] := by
  obtain ⟨m, hn⟩ := X.ok.ns
  exact Chain.cons (by rw [X.ok.fn]; intro q; cases q) LA.fr (Nat.lt_of_lt_of_le X.top_lt X.ok.lo) hn (fun _ h => by cases h)
noncomputable abbrev PinsOk (cs : List (Addr × Addr)) (ls : List (Addr × HV)) : Prop := ∀ a fp h, (a, HV.pin fp h) ∈ ls → ∀ b ∈ fp, b ∉ tabs cs
theorem pinsOk_np (h : ∀ a fp h, (a, HV.pin fp h) ∉ ls) : PinsOk cs ls := fun a fp h' hm => absurd hm (h a fp h')

/-- the call's common part -/
theorem eval_line {nx ny : Str} {p px py pos : Pos} {eo : Expr} {a b : Addr} {l1 l2 : List AV} {o : Bool} (S : Static K cs mg mb) (W : Wd K cs mg mb h0) (G : Gl (tabs cs) env h0 mg mb) (LA : LawA A env) (hk : env.kindOf "_law_line" = some .globalImplicit)
    (X : At (tabs cs) (TT cs) h0 g0 o0 env ρ ls s) (hx : ρ.lookup nx = some (.ref a)) (hdx : (nx == ("__debug__" : Str)) = false) (hy : ρ.lookup ny = some (.ref b)) (hdy : (ny == ("__debug__" : Str)) = false) (ho : Pur prog w A (At (tabs cs) (TT cs) h0 g0 o0 env ρ ls) env eo (.bool o)) (h1 : (a, HV.list l1) ∈ ls) (h2 : (b, HV.list l2) ∈ ls)
    (call : ∀ s' vs, At (tabs cs) (TT cs) h0 g0 o0 env ρ ls s' → Wd K cs mg mb s'.heap → Chain (tabs cs) s'.heap [env] → IsAV s'.heap a l1 → IsAV s'.heap b l2 → Reps [.ref a, .ref b, .bool o] vs → wpAny (model prog w) A (PySem.call (.ref 439) vs) Q E s')
    (hst : starEach [.Name nx px, .Name ny py, eo] env = (false, eval (.Name nx px) env) :: starEach [.Name ny py, eo] env := by rfl) (hst' : starEach [.Name ny py, eo] env = (false, eval (.Name ny py) env) :: starEach [eo] env := by rfl) (hst'' : starEach [eo] env = (false, eval eo env) :: starEach [] env := by rfl) :
    wpAny (model prog w) A (eval (.Call (.Name "_law_line" p) [.Name nx px, .Name ny py, eo] [] pos) env) Q E s := by
  refine (S.line.2.at (W.at S X).k).elim fun o' pm cd doc ho' hd hcd => ?_
  refine eval_call G hk S.line.1 (by decide) X ho' hd (.cons (.nm hx hdx) (.cons (.nm hy hdy) (.cons ho .nil hst'') hst') hst) (fun vs tk hvs => ?_) hst
  have X' := X.toks (tk := tk)
  exact call _ vs X' (W.at S X') (LA.chain X') (X'.lists a _ h1) (X'.lists b _ h2) hvs

theorem eval_line_false {nx ny : Str} {p px py pos : Pos} {eo : Expr} {a b : Addr} {xs ys : List Int} {f f' : Bool} {m m' q : Int} (S : Static K cs mg mb) (W : Wd K cs mg mb h0) (G : Gl (tabs cs) env h0 mg mb) (LA : LawA A env) (hk : env.kindOf "_law_line" = some .globalImplicit) (hp : PinsOk cs ls)
    (X : At (tabs cs) (TT cs) h0 g0 o0 env ρ ls s) (hx : ρ.lookup nx = some (.ref a)) (hdx : (nx == ("__debug__" : Str)) = false) (hy : ρ.lookup ny = some (.ref b)) (hdy : (ny == ("__debug__" : Str)) = false) (ho : Pur prog w A (At (tabs cs) (TT cs) h0 g0 o0 env ρ ls) env eo (.bool false)) (h1 : (a, HV.list (nums f xs)) ∈ ls) (h2 : (b, HV.list (nums f' ys)) ∈ ls)
    (ok : LineOk xs ys m m') (hb : dotN (xs.map (· - m)) (xs.map (· - m)) xs.length ≠ 0) (hq : dotN (xs.map (· - m)) (ys.map (· - m')) xs.length = q * dotN (xs.map (· - m)) (xs.map (· - m)) xs.length) (hq1 : q.natAbs ≤ 2 ^ 20)
    (k : ∀ D s', At (tabs cs) (TT cs) h0 g0 o0 env ρ ((D, .list [.fl q, .fl (m' - q * m)]) :: ls) s' → Q (.ref D) s')
    (hst : starEach [.Name nx px, .Name ny py, eo] env = (false, eval (.Name nx px) env) :: starEach [.Name ny py, eo] env := by rfl) (hst' : starEach [.Name ny py, eo] env = (false, eval (.Name ny py) env) :: starEach [eo] env := by rfl) (hst'' : starEach [eo] env = (false, eval eo env) :: starEach [] env := by rfl) :
    wpAny (model prog w) A (eval (.Call (.Name "_law_line" p) [.Name nx px, .Name ny py, eo] [] pos) env) Q E s :=
  eval_line S W G LA hk X hx hdx hy hdy ho h1 h2 (fun s' vs X' W' ch l1 l2 hvs => call_line_false S W' LA.hh (by have := LA.room; omega) l1 l2 hvs ok hb hq hq1 fun D s'' hD af => k D s'' ((X'.call af hp).add hD)) hst hst' hst''
theorem eval_line_false0 {nx ny : Str} {p px py pos : Pos} {eo : Expr} {a b : Addr} {xs ys : List Int} {f f' : Bool} {m m' : Int} (S : Static K cs mg mb) (W : Wd K cs mg mb h0) (G : Gl (tabs cs) env h0 mg mb) (LA : LawA A env) (hk : env.kindOf "_law_line" = some .globalImplicit) (hp : PinsOk cs ls)
    (X : At (tabs cs) (TT cs) h0 g0 o0 env ρ ls s) (hx : ρ.lookup nx = some (.ref a)) (hdx : (nx == ("__debug__" : Str)) = false) (hy : ρ.lookup ny = some (.ref b)) (hdy : (ny == ("__debug__" : Str)) = false) (ho : Pur prog w A (At (tabs cs) (TT cs) h0 g0 o0 env ρ ls) env eo (.bool false)) (h1 : (a, HV.list (nums f xs)) ∈ ls) (h2 : (b, HV.list (nums f' ys)) ∈ ls)
    (ok : LineOk xs ys m m') (hb : dotN (xs.map (· - m)) (xs.map (· - m)) xs.length = 0)
    (k : ∀ s', At (tabs cs) (TT cs) h0 g0 o0 env ρ ls s' → Q .none s')
    (hst : starEach [.Name nx px, .Name ny py, eo] env = (false, eval (.Name nx px) env) :: starEach [.Name ny py, eo] env := by rfl) (hst' : starEach [.Name ny py, eo] env = (false, eval (.Name ny py) env) :: starEach [eo] env := by rfl) (hst'' : starEach [eo] env = (false, eval eo env) :: starEach [] env := by rfl) :
    wpAny (model prog w) A (eval (.Call (.Name "_law_line" p) [.Name nx px, .Name ny py, eo] [] pos) env) Q E s :=
  eval_line S W G LA hk X hx hdx hy hdy ho h1 h2 (fun s' vs X' W' ch l1 l2 hvs => call_line_false0 S W' LA.hh (by have := LA.room; omega) LA.frames ch l1 l2 hvs ok hb fun s'' af => k s'' (X'.call af hp)) hst hst' hst''
theorem eval_line_true {nx ny : Str} {p px py pos : Pos} {eo : Expr} {a b : Addr} {xs ys : List Int} {f : Bool} (S : Static K cs mg mb) (W : Wd K cs mg mb h0) (G : Gl (tabs cs) env h0 mg mb) (LA : LawA A env) (hk : env.kindOf "_law_line" = some .globalImplicit) (hp : PinsOk cs ls)
    (X : At (tabs cs) (TT cs) h0 g0 o0 env ρ ls s) (hx : ρ.lookup nx = some (.ref a)) (hdx : (nx == ("__debug__" : Str)) = false) (hy : ρ.lookup ny = some (.ref b)) (hdy : (ny == ("__debug__" : Str)) = false) (ho : Pur prog w A (At (tabs cs) (TT cs) h0 g0 o0 env ρ ls) env eo (.bool true)) (h1 : (a, HV.list (nums f xs)) ∈ ls) (h2 : (b, HV.list (nums f ys)) ∈ ls)
    (sx : Sm xs) (sy : Sm ys) (hlen : ys.length = xs.length) (h2' : 2 ≤ xs.length) (hb : dotN xs xs xs.length ≠ 0)
    (k : ∀ D s', At (tabs cs) (TT cs) h0 g0 o0 env ρ ((D, .list [.q (dotN xs ys xs.length) (dotN xs xs xs.length), .fl 0]) :: ls) s' → Q (.ref D) s')
    (hst : starEach [.Name nx px, .Name ny py, eo] env = (false, eval (.Name nx px) env) :: starEach [.Name ny py, eo] env := by rfl) (hst' : starEach [.Name ny py, eo] env = (false, eval (.Name ny py) env) :: starEach [eo] env := by rfl) (hst'' : starEach [eo] env = (false, eval eo env) :: starEach [] env := by rfl) :
    wpAny (model prog w) A (eval (.Call (.Name "_law_line" p) [.Name nx px, .Name ny py, eo] [] pos) env) Q E s :=
  eval_line S W G LA hk X hx hdx hy hdy ho h1 h2 (fun s' vs X' W' ch l1 l2 hvs => call_line_true S W' LA.hh (by have := LA.room; omega) l1 l2 hvs sx sy hlen h2' hb fun D s'' hD af => k D s'' ((X'.call af hp).add hD)) hst hst' hst''
theorem eval_line_true0 {nx ny : Str} {p px py pos : Pos} {eo : Expr} {a b : Addr} {xs ys : List Int} {f : Bool} (S : Static K cs mg mb) (W : Wd K cs mg mb h0) (G : Gl (tabs cs) env h0 mg mb) (LA : LawA A env) (hk : env.kindOf "_law_line" = some .globalImplicit) (hp : PinsOk cs ls)
    (X : At (tabs cs) (TT cs) h0 g0 o0 env ρ ls s) (hx : ρ.lookup nx = some (.ref a)) (hdx : (nx == ("__debug__" : Str)) = false) (hy : ρ.lookup ny = some (.ref b)) (hdy : (ny == ("__debug__" : Str)) = false) (ho : Pur prog w A (At (tabs cs) (TT cs) h0 g0 o0 env ρ ls) env eo (.bool true)) (h1 : (a, HV.list (nums f xs)) ∈ ls) (h2 : (b, HV.list (nums f ys)) ∈ ls)
    (sx : Sm xs) (sy : Sm ys) (hlen : ys.length = xs.length) (h2' : 2 ≤ xs.length) (hb : dotN xs xs xs.length = 0)
    (k : ∀ s', At (tabs cs) (TT cs) h0 g0 o0 env ρ ls s' → Q .none s')
    (hst : starEach [.Name nx px, .Name ny py, eo] env = (false, eval (.Name nx px) env) :: starEach [.Name ny py, eo] env := by rfl) (hst' : starEach [.Name ny py, eo] env = (false, eval (.Name ny py) env) :: starEach [eo] env := by rfl) (hst'' : starEach [eo] env = (false, eval eo env) :: starEach [] env := by rfl) :
    wpAny (model prog w) A (eval (.Call (.Name "_law_line" p) [.Name nx px, .Name ny py, eo] [] pos) env) Q E s :=
  eval_line S W G LA hk X hx hdx hy hdy ho h1 h2 (fun s' vs X' W' ch l1 l2 hvs => call_line_true0 S W' LA.hh (by have := LA.room; omega) LA.frames ch l1 l2 hvs sx sy hlen h2' hb fun s'' af => k s'' (X'.call af hp)) hst hst' hst''
end
end Mine
end
section
set_option maxRecDepth 100000
set_option exponentiation.threshold 3000
namespace Mine
open PySem PySem.Float64 PySem.W PySem.Calls PyProof.Rows
section
variable {prog : Program} {w : World} {A : Around} {E : Value → Shared → Prop} {s : Shared} {env : Env} {h0 : Heap} {g0 : Array GenState} {o0 : OsState} {ρ ρc : List (Str × AV)} {ls : List (Addr × HV)} {rest : List Stmt} {P : List Addr} {T : Heap → Prop} {mg mb : Str → Option Value} {cs : List (Addr × Addr)} {K : Frag} {Q : Flow → Shared → Prop}
noncomputable abbrev names18 (h : Int) (c d0 d1 d2 dx dz dy dl : Addr) (size other stray : Int) : List (Str × AV) := ("lines", .ref dl) :: names17 h c d0 d1 d2 dx dz dy size other stray
noncomputable abbrev linesA (h : Int) (dl a1 a2 : Addr) : List (Addr × HV) := [(dl, .list [.ref a1, .ref a2]), (a1, .list [.fl (digit h 2), .fl (digit h 0 - digit h 2 * digit h 1)]), (a2, .list [.fl (steepN h), .fl (levelN h - steepN h * digit h 1)])]
theorem lists7_np {h : Int} {f g e cells : List Int} {c d0 d1 d2 dx dz dy : Addr} : ∀ a fp h', (a, HV.pin fp h') ∉ lists7 h f g e cells c d0 d1 d2 dx dz dy := fun a fp h' hm => by
  simp at hm

theorem law_9 {c d0 d1 d2 dx dz dy : Addr} {cells f g e : List Int} {h size other stray : Int} (S : Static K cs mg mb) (W : Wd K cs mg mb h0) (L : LawEnv env) (LA : LawA A env) (G : Gl (tabs cs) env h0 mg mb) (C : Cols f g e size other stray) (hs : size ≠ 0)
    (X : At (tabs cs) (TT cs) h0 g0 o0 env (names17 h c d0 d1 d2 dx dz dy size other stray) (lists7 h f g e cells c d0 d1 d2 dx dz dy) s)
    (k : ∀ dl a1 a2 s', At (tabs cs) (TT cs) h0 g0 o0 env (names18 h c d0 d1 d2 dx dz dy dl size other stray) (linesA h dl a1 a2 ++ lists7 h f g e cells c d0 d1 d2 dx dz dy) s' → wpAny (model prog w) A (execs (dLaw.body.drop 11) env) Q E s') :
    wpAny (model prog w) A (execs (dLaw.body.drop 10) env) Q E s := by
  have ff : dotN ((xL h f).map (· - digit h 1)) ((xL h f).map (· - digit h 1)) (xL h f).length = size := by
    rw [cen_x, (C.x h).len, dotN_dot' rfl, C.tri.ff]
  have fz : dotN ((xL h f).map (· - digit h 1)) ((zL h f g).map (· - digit h 0)) (xL h f).length = digit h 2 * size := by
    rw [cen_x, cen_z, (C.x h).len, dotN_dot' rfl, f_zc C.tri]
  have fy : dotN ((xL h f).map (· - digit h 1)) ((yL h f g e).map (· - levelN h)) (xL h f).length = steepN h * size := by
    rw [cen_x, cen_y, (C.x h).len, dotN_dot' rfl, dot_comm, yc_f C.tri]; rfl
  refine s_assignE (P := tabs cs) (T := TT cs) (h0 := h0) (g0 := g0) (o0 := o0) (L.st rfl) (wpAny_List (spliced_more ?_ rfl))
  refine eval_line_false (f := false) (f' := false) S W G LA ((L.kind _).trans rfl) (pinsOk_np lists7_np) X rfl (by decide) rfl (by decide) .bool (List.mem_cons_of_mem _ (List.mem_cons_of_mem _ List.mem_cons_self)) (List.mem_cons_of_mem _ List.mem_cons_self) ((C.x h).line (C.z h) C.two) (by rw [ff]; exact hs) (by rw [ff, fz]) (Nat.le_trans (dig_abs h 2) (by decide)) fun a1 s₁ X₁ => spliced_more ?_ rfl
  refine eval_line_false (f := false) (f' := false) S W G LA ((L.kind _).trans rfl) (pinsOk_np (by intro a fp h' hm; simp at hm)) X₁ rfl (by decide) rfl (by decide) .bool (List.mem_cons_of_mem _ (List.mem_cons_of_mem _ (List.mem_cons_of_mem _ List.mem_cons_self))) (List.mem_cons_of_mem _ List.mem_cons_self) ((C.x h).line (C.y h) C.two) (by rw [ff]; exact hs) (by rw [ff, fy]) (Nat.le_trans (steep_small h) (by decide)) fun a2 s₂ X₂ => spliced_nil ⟨(show 2 ≤ sizeLine by decide), ?_⟩
  have X₃ := (X₂.push (tk := s₂.toks) (.cons (.ref a1) (.cons (.ref a2) .nil))).unacc
  refine ⟨_, _, _, .ref s₂.heap.objs.size, X₃, fun s' X' => k s₂.heap.objs.size a1 a2 s' (X'.weak (fun _ _ h => h) fun p hp => ?_)⟩
  simp only [linesA, List.cons_append, List.nil_append, List.mem_cons] at hp ⊢
  rcases hp with q | q | q | q
  · exact .inl q
  · exact .inr (.inr (.inl q))
  · exact .inr (.inl q)
  · exact .inr (.inr (.inr q))

theorem law_9z {c d0 d1 d2 dx dz dy : Addr} {cells f g e : List Int} {h size other stray : Int} (S : Static K cs mg mb) (W : Wd K cs mg mb h0) (L : LawEnv env) (LA : LawA A env) (G : Gl (tabs cs) env h0 mg mb) (C : Cols f g e size other stray) (hs : size = 0)
    (X : At (tabs cs) (TT cs) h0 g0 o0 env (names17 h c d0 d1 d2 dx dz dy size other stray) (lists7 h f g e cells c d0 d1 d2 dx dz dy) s)
    (k : ∀ dl s', At (tabs cs) (TT cs) h0 g0 o0 env (names18 h c d0 d1 d2 dx dz dy dl size other stray) ((dl, .list [.none, .none]) :: lists7 h f g e cells c d0 d1 d2 dx dz dy) s' → wpAny (model prog w) A (execs (dLaw.body.drop 11) env) Q E s') :
    wpAny (model prog w) A (execs (dLaw.body.drop 10) env) Q E s := by
  have ff : dotN ((xL h f).map (· - digit h 1)) ((xL h f).map (· - digit h 1)) (xL h f).length = 0 := by
    rw [cen_x, (C.x h).len, dotN_dot' rfl, C.tri.ff, hs]
  refine s_assignE (P := tabs cs) (T := TT cs) (h0 := h0) (g0 := g0) (o0 := o0) (L.st rfl) (wpAny_List (spliced_more ?_ rfl))
  refine eval_line_false0 (f := false) (f' := false) S W G LA ((L.kind _).trans rfl) (pinsOk_np lists7_np) X rfl (by decide) rfl (by decide) .bool (List.mem_cons_of_mem _ (List.mem_cons_of_mem _ List.mem_cons_self)) (List.mem_cons_of_mem _ List.mem_cons_self) ((C.x h).line (C.z h) C.two) ff fun s₁ X₁ => spliced_more ?_ rfl
  refine eval_line_false0 (f := false) (f' := false) S W G LA ((L.kind _).trans rfl) (pinsOk_np lists7_np) X₁ rfl (by decide) rfl (by decide) .bool (List.mem_cons_of_mem _ (List.mem_cons_of_mem _ List.mem_cons_self)) List.mem_cons_self ((C.x h).line (C.y h) C.two) ff fun s₂ X₂ => spliced_nil ⟨(show 2 ≤ sizeLine by decide), ?_⟩
  have X₃ := (X₂.push (tk := s₂.toks) (.cons .none (.cons .none .nil))).unacc
  exact ⟨_, _, _, .ref s₂.heap.objs.size, X₃, fun s' X' => k s₂.heap.objs.size s' X'⟩
end
end Mine
end
section
set_option maxRecDepth 100000
set_option exponentiation.threshold 3000
namespace Mine
open PySem PySem.Float64 PySem.W PySem.Calls PyProof.Rows PySem.SeqAt
section
variable {A : Around} {s : Shared}
theorem ea_fi {b : UInt64} {t : Tok} {n : Int} {u : Tok} (h : IsF b n) : EqAt A s (.float b t) (.int n u) true := fun prog w E Q hq => by
  unfold eqBool
  refine wpAny_holding ?_
  refine wpAny_ite_split (fun hab => absurd (eq_of_beq hab) nofun) (fun _ => ?_)
  refine wpAny_bind (eq_fi (prog := prog) (w := w) ?_)
  rw [isF_cmpInt h, show compare n n = .eq by rw [Int.compare_eq_eq]]
  exact wpAny_truthy_bool hq
theorem isSame_float {prog : Program} {w : World} {E : Value → Shared → Prop} {x y : UInt64} {u v : Tok} {Q : Bool → Shared → Prop}
    (h1 : 0 < u) (h2 : 0 < v) (hb : NoneBooked s.heap) (hq : ∀ b, Q b s) : wpAny (model prog w) A (isSame (.float x u) (.float y v)) Q E s := by
  have h0 : (u == 0 || v == 0) = false := by
    rw [beq_eq_false_iff_ne.mpr (Nat.ne_of_gt h1), beq_eq_false_iff_ne.mpr (Nat.ne_of_gt h2)]; rfl
  show wpAny _ A (isSame.created (x == y && !Float64.isNaN x) u v) Q E s
  unfold isSame.created
  refine wpAny_ite ?_
  split
  · rename_i h; rw [h0] at h; exact absurd h Bool.false_ne_true
  refine wpAny_ite ?_
  split
  · exact wpAny_pure (hq _)
  refine wpAny_ite ?_
  split
  · exact wpAny_pure (hq _)
  refine wpAny_bind (wpAny_sharingNotTold_none hb ?_)
  first | rw [if_neg Bool.false_ne_true] | simp only [Bool.false_eq_true, if_false]
  refine wpAny_bind (wpAny_sharingNotTold_none hb ?_)
  first | rw [if_neg Bool.false_ne_true] | simp only [Bool.false_eq_true, if_false]
  exact wpAny_bind (wpAny_rule (wpAny_bind (wpAny_askSetting (wpAny_pure (hq _)))))
theorem ea_ff {a b : UInt64} {t u : Tok} (h1 : 0 < t) (h2 : 0 < u) (hb : NoneBooked s.heap) (h : cmp a b = some .eq) : EqAt A s (.float a t) (.float b u) true := fun prog w E Q hq => by
  unfold eqBool
  refine wpAny_holding ?_
  refine wpAny_ite_split (fun hab => wpAny_bind (wpAny_rule (wpAny_pure hq))) (fun _ => ?_)
  refine wpAny_bind (isSame_float h1 h2 hb fun c => ?_)
  cases c with
  | true =>
    rw [if_pos rfl]
    exact wpAny_pure hq
  | false =>
    rw [if_neg Bool.false_ne_true]
    refine wpAny_bind (AutoFloatOps.eq_0 (prog := prog) (w := w) ?_)
    rw [h]
    exact wpAny_truthy_bool hq
end
/-- equal values -/
inductive EqV : AV → AV → Prop
  | none : EqV .none .none
  | int (n : Int) : EqV (.int n) (.int n)
  | fi (n : Int) : EqV (.fl n) (.int n)
  | qq {a b c d : Int} : b ≠ 0 → d ≠ 0 → a * d = c * b → EqV (.q a b) (.qi c d)
  | qn {a b n : Int} : b ≠ 0 → a = n * b → n.natAbs ≤ 2 ^ 53 → EqV (.q a b) (.int n)
theorem EqV.at {a b : AV} {va vb : Value} {A : Around} {s : Shared} (hn : NoneBooked s.heap) (h : EqV a b) (ha : Rep a va) (hb : Rep b vb) : EqAt A s va vb true := by
  cases h with
  | none => replace ha := ha.inv; obtain rfl := ha; replace hb := hb.inv; obtain rfl := hb; exact EqAt.same _
  | int n => replace ha := ha.inv; obtain ⟨_, rfl⟩ := ha; replace hb := hb.inv; obtain ⟨_, rfl⟩ := hb; rw [show true = (n == n) from (beq_self_eq_true n).symm]; exact EqAt.int_int n _ n _
  | fi n =>
    cases ha with | fl _ b t hf =>
    replace hb := hb.inv; obtain ⟨_, rfl⟩ := hb
    exact ea_fi hf
  | qq h1 h2 h3 =>
    cases ha with | q _ _ x y t hx hy ht =>
    cases hb with | qi _ _ u hu =>
    exact ea_ff ht hu hn (div_same hx hy h1 h2 h3)
  | qn h1 h2 h3 =>
    subst h2
    cases ha with | q _ _ x y t hx hy ht =>
    replace hb := hb.inv; obtain ⟨_, rfl⟩ := hb
    exact ea_fi (isF_div hx hy h1 h3)
inductive EqVs : List AV → List AV → Prop
  | nil : EqVs [] []
  | cons {a b l r} : EqV a b → EqVs l r → EqVs (a :: l) (b :: r)
theorem EqVs.length : ∀ {l r}, EqVs l r → l.length = r.length
  | _, _, .nil => rfl
  | _, _, .cons _ t => by rw [List.length_cons, List.length_cons, t.length]
theorem EqVs.at {l r : List AV} (h : EqVs l r) : ∀ {i : Nat} {a b : AV}, l[i]? = some a → r[i]? = some b → EqV a b := by
  induction h with
  | nil => intro i a b e; cases e
  | cons h t ih =>
    intro i a b e e'
    cases i with
    | zero => injection e with e; injection e' with e'; subst e e'; exact h
    | succ i => exact ih e e'
section
variable {A : Around} {s : Shared}
theorem all_true (n : Nat) : (List.range n).all (fun _ => true) = true := by rw [List.all_eq_true]; exact fun _ _ => rfl
/-- lists of equal values -/
theorem eqvs_parts (hn : NoneBooked s.heap) {vals vals' : List Value} {l r : List AV} (he : EqVs l r) (h1 : Reps l vals) (h2 : Reps r vals') :
    vals.toArray.size = vals'.toArray.size ∧ ∀ j (q1 : j < vals.toArray.size) (q2 : j < vals'.toArray.size), EqAt A s vals.toArray[j] vals'.toArray[j] true := by
  refine ⟨by rw [List.size_toArray, List.size_toArray, h1.length, h2.length, he.length], fun j q1 q2 => ?_⟩
  have a1 : vals[j]? = some vals.toArray[j] := by simp at q1; simp [q1]
  have a2 : vals'[j]? = some vals'.toArray[j] := by simp at q2; simp [q2]
  obtain ⟨a, e1, r1⟩ := h1.at' a1
  obtain ⟨b, e2, r2⟩ := h2.at' a2
  exact (he.at e1 e2).at hn r1 r2
theorem rcne_lists {a b : Addr} {l r : List AV} (ha : IsAV s.heap a l) (hb : IsAV s.heap b r) (he : EqVs l r) (hn : NoneBooked s.heap) (hu : A.units < cLine) : RcNeAt A s (.ref a) (.ref b) false := by
  obtain ⟨v1, L1, R1⟩ := ha
  obtain ⟨v2, L2, R2⟩ := hb
  obtain ⟨hs, hp⟩ := eqvs_parts (A := A.in1) (s := s) hn he R1 R2
  have := RcNeAt.lists (A := A) (s := s) (e := fun _ => true) L1 L2 hs hu hp
  rw [all_true] at this
  exact this
theorem rceq_lists {a b : Addr} {l r : List AV} (ha : IsAV s.heap a l) (hb : IsAV s.heap b r) (he : EqVs l r) (hn : NoneBooked s.heap) (hu : A.units < cLine) : RcAt A s (.ref a) (.ref b) true := by
  obtain ⟨v1, L1, R1⟩ := ha
  obtain ⟨v2, L2, R2⟩ := hb
  obtain ⟨hs, hp⟩ := eqvs_parts (A := A.in1) (s := s) hn he R1 R2
  have := RcAt.lists (A := A) (s := s) (e := fun _ => true) L1 L2 hs hu hp
  rw [all_true] at this
  exact this
/-- lists of two lists -/
theorem rcne_nested {a b a1 a2 b1 b2 : Addr} {l1 l2 r1 r2 : List AV} (ha : IsAV s.heap a [.ref a1, .ref a2]) (hb : IsAV s.heap b [.ref b1, .ref b2]) (h1 : IsAV s.heap a1 l1) (h2 : IsAV s.heap a2 l2) (h3 : IsAV s.heap b1 r1) (h4 : IsAV s.heap b2 r2)
    (e1 : EqVs l1 r1) (e2 : EqVs l2 r2) (n1 : a1 ≠ b1) (n2 : a2 ≠ b2) (hn : NoneBooked s.heap) (hu : A.units + 1 < cLine) : RcNeAt A s (.ref a) (.ref b) false := by
  obtain ⟨v1, L1, R1⟩ := ha
  obtain ⟨v2, L2, R2⟩ := hb
  replace R1 := R1.consI; obtain ⟨_, _, p1, p2, rfl⟩ := R1
  replace p2 := p2.consI; obtain ⟨_, _, p2, p3, rfl⟩ := p2
  replace p3 := p3.nilI; obtain rfl := p3; replace p1 := p1.inv; obtain rfl := p1; replace p2 := p2.inv; obtain rfl := p2
  replace R2 := R2.consI; obtain ⟨_, _, q1, q2, rfl⟩ := R2
  replace q2 := q2.consI; obtain ⟨_, _, q2, q3, rfl⟩ := q2
  replace q3 := q3.nilI; obtain rfl := q3; replace q1 := q1.inv; obtain rfl := q1; replace q2 := q2.inv; obtain rfl := q2
  have := RcNeAt.lists (A := A) (s := s) (e := fun _ => true) L1 L2 rfl (Nat.lt_of_succ_lt hu) (fun j j1 j2 => ?_)
  · rw [all_true] at this
    exact this
  · match j, j1, j2 with
    | 0, _, _ => exact EqAt.of_refs n1 (rceq_lists (A := A.in1) h1 h3 e1 hn hu)
    | 1, _, _ => exact EqAt.of_refs n2 (rceq_lists (A := A.in1) h2 h4 e2 hn hu)
    | j + 2, j1, _ => exact absurd j1 (by show ¬ j + 2 < 2; omega)
end
end Mine
end
section
set_option maxRecDepth 100000
set_option exponentiation.threshold 3000
namespace Mine
open PySem PySem.Float64 PySem.W PySem.Calls PyProof.Rows PySem.SeqAt
section
variable {prog : Program} {w : World} {A : Around} {E : Value → Shared → Prop} {s : Shared} {env : Env} {h0 : Heap} {g0 : Array GenState} {o0 : OsState} {ρ ρc : List (Str × AV)} {ls : List (Addr × HV)} {rest : List Stmt} {P : List Addr} {T : Heap → Prop} {mg mb : Str → Option Value} {cs : List (Addr × Addr)} {K : Frag} {Q : Flow → Shared → Prop}
theorem isTrue_ne {l r : Expr} {pos : Pos} {whole : Sem Value} {b : Bool} {Q : Bool → Shared → Prop}
    (h : wpAny (model prog w) A (eval l env) (fun va s₁ => wpAny (model prog w) A (eval r env) (fun vb s₂ => RcNeAt A s₂ va vb b ∧ Q b s₂) E s₁) E s) (hm : behindInMarks .NotEq r = false := by with_unfolding_all rfl) :
    wpAny (model prog w) A (isTrue (.Compare l [.NotEq] [r] pos) env whole) Q E s := by
  refine wpAny_isTrue_Compare1 (wpAny_mono h (fun va s₁ h₁ => wpAny_mono h₁ (fun vb s₂ h₂ => ?_) fun _ _ e => e) fun _ _ e => e) hm
  exact h₂.1 prog w E _ (wpAny_truthy_bool h₂.2)
theorem isAV_lt {h : Heap} {a : Addr} {l : List AV} (x : IsAV h a l) : a < h.objs.size := by
  obtain ⟨_, ⟨o, ho, _⟩, _⟩ := x
  exact Heap.lt_size ho
theorem shadow {x : Str} {a b : AV} {ρ : List (Str × AV)} (y : Str) : ((x, a) :: (x, b) :: ρ).lookup y = ((x, a) :: ρ).lookup y := by
  rw [List.lookup_cons, List.lookup_cons, List.lookup_cons]
  cases y == x <;> rfl
theorem eval_listS [TabKeep T] {es : List Expr} {avs : List AV} {pos : Pos} {Q : Value → Shared → Prop} (X : At P T h0 g0 o0 env ρ ls s) (hes : PurL prog w A (At P T h0 g0 o0 env ρ ls) env es avs) (hsz : avs.length ≤ sizeLine)
    (k : ∀ a s', s.heap.objs.size ≤ a → s.heap.objs.size ≤ s'.heap.objs.size → At P T h0 g0 o0 env ρ ((a, .list avs) :: ls) s' → Q (.ref a) s') : wpAny (model prog w) A (eval (.List es pos) env) Q E s :=
  wpAny_List (hes _ s _ _ X fun vs tk hvs _ => ⟨by rw [hvs.length]; exact hsz, k _ _ (Nat.le_refl _) (by show _ ≤ (s.heap.push _).objs.size; rw [Heap.size_push]; exact Nat.le_succ _) (X.push (tk := tk) hvs).unacc⟩)
/-- [[a, b], [c, d]] -/
theorem eval_list2 [TabKeep T] {e1 e2 e3 e4 : Expr} {p1 p2 p3 : Pos} {v1 v2 v3 v4 : AV} {Q : Value → Shared → Prop} (X : At P T h0 g0 o0 env ρ ls s)
    (c1 : ∀ {ls}, Pur prog w A (At P T h0 g0 o0 env ρ ls) env e1 v1) (c2 : ∀ {ls}, Pur prog w A (At P T h0 g0 o0 env ρ ls) env e2 v2) (c3 : ∀ {ls}, Pur prog w A (At P T h0 g0 o0 env ρ ls) env e3 v3) (c4 : ∀ {ls}, Pur prog w A (At P T h0 g0 o0 env ρ ls) env e4 v4)
    (k : ∀ D b1 b2 s', s.heap.objs.size ≤ b1 → s.heap.objs.size ≤ b2 → At P T h0 g0 o0 env ρ ((D, .list [.ref b1, .ref b2]) :: (b1, .list [v1, v2]) :: (b2, .list [v3, v4]) :: ls) s' → Q (.ref D) s')
    (s1 : starEach [e1, e2] env = (false, eval e1 env) :: starEach [e2] env := by rfl) (s2 : starEach [e2] env = (false, eval e2 env) :: starEach [] env := by rfl) (s3 : starEach [e3, e4] env = (false, eval e3 env) :: starEach [e4] env := by rfl) (s4 : starEach [e4] env = (false, eval e4 env) :: starEach [] env := by rfl) :
    wpAny (model prog w) A (eval (.List [.List [e1, e2] p1, .List [e3, e4] p2] p3) env) Q E s := by
  refine wpAny_List (spliced_more (eval_listS X (.cons c1 (.cons c2 .nil s2) s1) (show 2 ≤ sizeLine by decide) fun b1 s₁ n1 m1 X₁ => ?_) rfl)
  refine spliced_more (eval_listS X₁ (.cons c3 (.cons c4 .nil s4) s3) (show 2 ≤ sizeLine by decide) fun b2 s₂ n2 m2 X₂ => ?_) rfl
  refine spliced_nil ⟨(show 2 ≤ sizeLine by decide), ?_⟩
  have X₃ := (X₂.push (tk := s₂.toks) (.cons (.ref b1) (.cons (.ref b2) .nil))).unacc
  refine k _ b1 b2 _ n1 (Nat.le_trans m1 n2) (X₃.weak (fun _ _ h => h) fun p hp => ?_)
  simp only [List.mem_cons] at hp ⊢
  rcases hp with q | q | q | q
  · exact .inl q
  · exact .inr (.inr (.inl q))
  · exact .inr (.inl q)
  · exact .inr (.inr (.inr q))

theorem At.ll {a : Addr} {l : List AV} (X : At P T h0 g0 o0 env ρ ls s) (h : (a, HV.list l) ∈ ls) : IsAV s.heap a l := X.lists a _ h
/-- the two lines, floats or ints -/
noncomputable abbrev linesB (k : Bool) (t1 b1 t2 b2 : Int) (dl a1 a2 : Addr) : List (Addr × HV) := [(dl, .list [.ref a1, .ref a2]), (a1, .list [nv k t1, nv k b1]), (a2, .list [nv k t2, nv k b2])]

theorem law_10 {c d0 d1 d2 dx dz dy dl a1 a2 : Addr} {cells f g e : List Int} {h size other stray : Int} (S : Static K cs mg mb) (W : Wd K cs mg mb h0) (L : LawEnv env) (LA : LawA A env) (hs : size ≠ 0)
    (X : At (tabs cs) (TT cs) h0 g0 o0 env (names18 h c d0 d1 d2 dx dz dy dl size other stray) (linesA h dl a1 a2 ++ lists7 h f g e cells c d0 d1 d2 dx dz dy) s)
    (k : ∀ s', At (tabs cs) (TT cs) h0 g0 o0 env (names18 h c d0 d1 d2 dx dz dy dl size other stray) (linesB true (digit h 2) (digit h 0 - digit h 2 * digit h 1) (steepN h) (levelN h - steepN h * digit h 1) dl a1 a2 ++ lists7 h f g e cells c d0 d1 d2 dx dz dy) s' → wpAny (model prog w) A (execs (dLaw.body.drop 12) env) Q E s') :
    wpAny (model prog w) A (execs (dLaw.body.drop 11) env) Q E s := by
  refine s_if X (b := (size == 0)) (.cmp (.nm rfl) .int op_eq) (fun q => absurd (eq_of_beq q) hs) fun _ s₁ X₁ => ?_
  have l1 := isAV_lt (X₁.lists a1 _ (List.mem_cons_of_mem _ List.mem_cons_self))
  have l2 := isAV_lt (X₁.lists a2 _ (List.mem_cons_of_mem _ (List.mem_cons_of_mem _ List.mem_cons_self)))
  refine wpAny_execs_cons (wpAny_If (isTrue_ne (b := false) (Pur.nm (av := .ref dl) rfl (by decide) _ _ _ X₁ fun va tk hva _ => eval_list2 X₁.toks (.nm rfl) (.bin (.nm rfl) (.bin (.nm rfl) (.nm rfl) (op_mul (mul_dig _ _ _))) op_sub) (.nm rfl) (.bin (.nm rfl) (.bin (.nm rfl) (.nm rfl) (op_mul (mulOk_l ?_))) op_sub) fun D b1 b2 s₂ n1 n2 X₂ => ?_)))
  · exact Nat.lt_of_le_of_lt (steep_small h) (by decide)
  · apply hva.e0 rfl
    refine ⟨rcne_nested (l1 := [.fl (digit h 2), .fl (digit h 0 - digit h 2 * digit h 1)]) (l2 := [.fl (steepN h), .fl (levelN h - steepN h * digit h 1)]) (r1 := [.int (digit h 2), .int (digit h 0 - digit h 2 * digit h 1)]) (r2 := [.int (steepN h), .int (levelN h - steepN h * digit h 1)]) (a1 := a1) (a2 := a2) (b1 := b1) (b2 := b2) (X₂.ll (by first | exact mi 0 rfl | exact mi 1 rfl | exact mi 2 rfl | exact mi 3 rfl | exact mi 4 rfl | exact mi 5 rfl | exact mi 6 rfl | exact mi 7 rfl | exact mi 8 rfl | exact mi 9 rfl | exact mi 10 rfl | exact mi 11 rfl | exact mi 12 rfl | exact mi 13 rfl | exact mi 14 rfl | exact mi 15 rfl | exact mi 16 rfl | exact mi 17 rfl | exact mi 18 rfl | exact mi 19 rfl | exact mi 20 rfl | exact mi 21 rfl | exact mi 22 rfl)) (X₂.ll List.mem_cons_self) (X₂.ll (by first | exact mi 0 rfl | exact mi 1 rfl | exact mi 2 rfl | exact mi 3 rfl | exact mi 4 rfl | exact mi 5 rfl | exact mi 6 rfl | exact mi 7 rfl | exact mi 8 rfl | exact mi 9 rfl | exact mi 10 rfl | exact mi 11 rfl | exact mi 12 rfl | exact mi 13 rfl | exact mi 14 rfl | exact mi 15 rfl | exact mi 16 rfl | exact mi 17 rfl | exact mi 18 rfl | exact mi 19 rfl | exact mi 20 rfl | exact mi 21 rfl | exact mi 22 rfl)) (X₂.ll (by first | exact mi 0 rfl | exact mi 1 rfl | exact mi 2 rfl | exact mi 3 rfl | exact mi 4 rfl | exact mi 5 rfl | exact mi 6 rfl | exact mi 7 rfl | exact mi 8 rfl | exact mi 9 rfl | exact mi 10 rfl | exact mi 11 rfl | exact mi 12 rfl | exact mi 13 rfl | exact mi 14 rfl | exact mi 15 rfl | exact mi 16 rfl | exact mi 17 rfl | exact mi 18 rfl | exact mi 19 rfl | exact mi 20 rfl | exact mi 21 rfl | exact mi 22 rfl)) (X₂.ll (by first | exact mi 0 rfl | exact mi 1 rfl | exact mi 2 rfl | exact mi 3 rfl | exact mi 4 rfl | exact mi 5 rfl | exact mi 6 rfl | exact mi 7 rfl | exact mi 8 rfl | exact mi 9 rfl | exact mi 10 rfl | exact mi 11 rfl | exact mi 12 rfl | exact mi 13 rfl | exact mi 14 rfl | exact mi 15 rfl | exact mi 16 rfl | exact mi 17 rfl | exact mi 18 rfl | exact mi 19 rfl | exact mi 20 rfl | exact mi 21 rfl | exact mi 22 rfl)) (X₂.ll (by first | exact mi 0 rfl | exact mi 1 rfl | exact mi 2 rfl | exact mi 3 rfl | exact mi 4 rfl | exact mi 5 rfl | exact mi 6 rfl | exact mi 7 rfl | exact mi 8 rfl | exact mi 9 rfl | exact mi 10 rfl | exact mi 11 rfl | exact mi 12 rfl | exact mi 13 rfl | exact mi 14 rfl | exact mi 15 rfl | exact mi 16 rfl | exact mi 17 rfl | exact mi 18 rfl | exact mi 19 rfl | exact mi 20 rfl | exact mi 21 rfl | exact mi 22 rfl)) (.cons (.fi _) (.cons (.fi _) .nil)) (.cons (.fi _) (.cons (.fi _) .nil)) (Nat.ne_of_lt (Nat.lt_of_lt_of_le l1 n1)) (Nat.ne_of_lt (Nat.lt_of_lt_of_le l2 n2)) (S.nb (W.at S X₂)) LA.units, ?_⟩
    rw [if_neg Bool.false_ne_true]
    refine s_nil (s_nil (k s₂ (X₂.weak (fun _ _ h => h) fun p hp => ?_)))
    exact List.mem_cons_of_mem _ (List.mem_cons_of_mem _ (List.mem_cons_of_mem _ hp))

theorem law_10z {c d0 d1 d2 dx dz dy dl : Addr} {cells f g e : List Int} {h size other stray : Int} (S : Static K cs mg mb) (W : Wd K cs mg mb h0) (L : LawEnv env) (LA : LawA A env) (hs : size = 0)
    (X : At (tabs cs) (TT cs) h0 g0 o0 env (names18 h c d0 d1 d2 dx dz dy dl size other stray) ((dl, .list [.none, .none]) :: lists7 h f g e cells c d0 d1 d2 dx dz dy) s)
    (k : ∀ dl a1 a2 s', At (tabs cs) (TT cs) h0 g0 o0 env (names18 h c d0 d1 d2 dx dz dy dl size other stray) (linesB false 0 (digit h 0) 0 (levelN h) dl a1 a2 ++ lists7 h f g e cells c d0 d1 d2 dx dz dy) s' → wpAny (model prog w) A (execs (dLaw.body.drop 12) env) Q E s') :
    wpAny (model prog w) A (execs (dLaw.body.drop 11) env) Q E s := by
  refine s_if X (b := (size == 0)) (.cmp (.nm rfl) .int op_eq) (fun _ s₁ X₁ => ?_) fun q => absurd hs (by intro e; subst e; simp at q)
  refine wpAny_execs_cons (wpAny_If (isTrue_ne (b := false) (Pur.nm (av := .ref dl) rfl (by decide) _ _ _ X₁ fun va tk hva _ => eval_list X₁.toks (.cons .none (.cons .none .nil rfl) rfl) (show 2 ≤ sizeLine by decide) fun D s₂ hD X₂ => ?_)))
  apply hva.e0 rfl
  refine ⟨rcne_lists (X₂.lists dl _ (List.mem_cons_of_mem _ List.mem_cons_self)) (X₂.lists D _ List.mem_cons_self).av (.cons .none (.cons .none .nil)) (S.nb (W.at S X₂)) (Nat.lt_of_succ_lt LA.units), ?_⟩
  rw [if_neg Bool.false_ne_true]
  refine s_nil ?_
  have X₃ := X₂.weak (ρ' := names18 h c d0 d1 d2 dx dz dy dl size other stray) (ls' := lists7 h f g e cells c d0 d1 d2 dx dz dy) (fun _ _ h => h) fun p hp => List.mem_cons_of_mem _ (List.mem_cons_of_mem _ hp)
  refine s_assignE (P := tabs cs) (T := TT cs) (h0 := h0) (g0 := g0) (o0 := o0) (L.st rfl) (eval_list2 X₃ .int (.nm rfl) .int (.nm rfl) fun D b1 b2 s₄ n1 n2 X₄ => ⟨_, _, _, .ref D, X₄, fun s₅ X₅ => s_nil (k D b1 b2 s₅ (X₅.weak (fun x av hx => ?_) fun _ h => h))⟩)
  rw [shadow]; exact hx
end
end Mine
end
section
set_option maxRecDepth 100000
set_option exponentiation.threshold 3000
namespace Mine
open PySem PySem.Float64 PySem.W PySem.Calls PyProof.Rows PySem.SeqAt
theorem frac_notInf {a b : Int} (ha : a.natAbs ≤ 2 ^ 53) (hb : b ≠ 0) {neg : Bool} : isInf (ofFrac neg a.natAbs b.natAbs) = false := by
  have R := ofFrac_right (neg := neg) (n := a.natAbs) (d := b.natAbs) (W := a.natAbs * 2 ^ 1074) (D := b.natAbs) (by omega) rfl (by omega)
  obtain ⟨t, e, ht, hov, _⟩ := R
  rw [e]
  refine isInf_pack ?_
  rcases Nat.lt_or_eq_of_le ht with h | h
  · exact h
  · have h1 := hov.mp h
    refine absurd ?_ (not_over (W := a.natAbs * 2 ^ 1074) (D := 1) (N := a.natAbs) (by rw [Nat.one_mul]) (by decide) ha)
    exact Nat.le_trans (Nat.mul_le_mul_right _ (show 1 ≤ b.natAbs by omega)) h1
section
variable {prog : Program} {w : World} {A : Around} {E : Value → Shared → Prop} {s : Shared} {env : Env} {h0 : Heap} {g0 : Array GenState} {o0 : OsState} {ρ ρc : List (Str × AV)} {ls : List (Addr × HV)} {rest : List Stmt} {P : List Addr} {T : Heap → Prop} {mg mb : Str → Option Value} {cs : List (Addr × Addr)} {K : Frag} {Q : Flow → Shared → Prop}
/-- int / int, at a state that has given out a token -/
theorem div_qi {a b : Int} {t u : Tok} {Q : Value → Shared → Prop} (hA : A.handled = none) (hb : b ≠ 0) (ha : a.natAbs ≤ 2 ^ 53) (ht : 0 < s.toks) (k : ∀ v tk, Rep (.qi a b) v → Q v { s with toks := tk }) :
    wpAny (model prog w) A (binaryOp .Div (.int a t) (.int b u)) Q E s :=
  PySem.Flt.div_ii hA (fun h => absurd h hb) (fun _ h => by rw [frac_notInf ha hb] at h; cases h) fun _ _ => k _ _ (.qi _ _ _ ht)

noncomputable def squareN (h : Int) (f : List Int) (size : Int) : Int := size + f.length * digit h 1 * digit h 1
noncomputable def productN (h : Int) (f : List Int) (size : Int) : Int := steepN h * size + f.length * digit h 1 * levelN h
noncomputable abbrev names20 (h : Int) (f : List Int) (c d0 d1 d2 dx dz dy dl : Addr) (size other stray : Int) : List (Str × AV) := ("product", .int (productN h f size)) :: ("square", .int (squareN h f size)) :: names18 h c d0 d1 d2 dx dz dy dl size other stray
noncomputable abbrev lists10 (h : Int) (f g e cells : List Int) (k : Bool) (t1 b1 t2 b2 : Int) (dl a1 a2 c d0 d1 d2 dx dz dy : Addr) : List (Addr × HV) := linesB k t1 b1 t2 b2 dl a1 a2 ++ lists7 h f g e cells c d0 d1 d2 dx dz dy

variable {c d0 d1 d2 dx dz dy dl a1 a2 : Addr} {cells f g e : List Int} {h size other stray t1 b1 t2 b2 : Int} {kf : Bool}
theorem law_12 (S : Static K cs mg mb) (L : LawEnv env) (G : Gl (tabs cs) env h0 mg mb) (C : Cols f g e size other stray)
    (X : At (tabs cs) (TT cs) h0 g0 o0 env (names18 h c d0 d1 d2 dx dz dy dl size other stray) (lists10 h f g e cells kf t1 b1 t2 b2 dl a1 a2 c d0 d1 d2 dx dz dy) s)
    (k : ∀ s', At (tabs cs) (TT cs) h0 g0 o0 env (names20 h f c d0 d1 d2 dx dz dy dl size other stray) (lists10 h f g e cells kf t1 b1 t2 b2 dl a1 a2 c d0 d1 d2 dx dz dy) s' → wpAny (model prog w) A (execs (dLaw.body.drop 14) env) Q E s') :
    wpAny (model prog w) A (execs (dLaw.body.drop 12) env) Q E s := by
  have hi := C.hi
  have lx : (((xL h f).map AV.int).length : Int) = f.length := by rw [List.length_map, (C.x h).len]
  have mx : (dx, HV.list ((xL h f).map AV.int)) ∈ lists10 h f g e cells kf t1 b1 t2 b2 dl a1 a2 c d0 d1 d2 dx dz dy := by first | exact mi 0 rfl | exact mi 1 rfl | exact mi 2 rfl | exact mi 3 rfl | exact mi 4 rfl | exact mi 5 rfl | exact mi 6 rfl | exact mi 7 rfl | exact mi 8 rfl | exact mi 9 rfl | exact mi 10 rfl | exact mi 11 rfl | exact mi 12 rfl | exact mi 13 rfl | exact mi 14 rfl | exact mi 15 rfl | exact mi 16 rfl | exact mi 17 rfl | exact mi 18 rfl | exact mi 19 rfl | exact mi 20 rfl | exact mi 21 rfl | exact mi 22 rfl
  have hd := dig_abs h 1
  have m1 : ((f.length : Int) * digit h 1).natAbs < 2 ^ 60 := by
    rw [Int.natAbs_mul]
    exact Nat.lt_of_le_of_lt (Nat.mul_le_mul (show ((f.length : Int)).natAbs ≤ 6 by omega) hd) (by decide)
  have m0 : ((f.length : Int)).natAbs < 2 ^ 60 := by omega
  have m2 : (steepN h).natAbs < 2 ^ 60 := Nat.lt_of_le_of_lt (steep_small h) (by decide)
  refine s_assign X (.bin (.nm rfl) (.bin (.bin (Pur.len G ((L.kind _).trans rfl) S.gf.len.1 S.gf.len.2 (.nm rfl) mx lx (by omega)) (.nm rfl) (op_mul (mulOk_l m0))) (.nm rfl) (op_mul (mulOk_l m1))) op_add) (L.lo rfl) fun s₁ X₁ => ?_
  exact s_assign X₁ (.bin (.bin (.nm rfl) (.nm rfl) (op_mul (mulOk_l m2))) (.bin (.bin (Pur.len G ((L.kind _).trans rfl) S.gf.len.1 S.gf.len.2 (.nm rfl) mx lx (by omega)) (.nm rfl) (op_mul (mulOk_l m0))) (.nm rfl) (op_mul (mulOk_l m1))) op_add) (L.lo rfl) fun s₂ X₂ => k s₂ X₂
theorem square_small (C : Cols f g e size other stray) : (productN h f size).natAbs ≤ 2 ^ 53 := by
  have hi := C.hi
  have hd := dig_abs h 1
  have hs := steep_small h
  have hl := level_small h
  have h0 := C.s0
  have a : (steepN h * size).natAbs ≤ 110 * 280 := by rw [Int.natAbs_mul]; exact Nat.mul_le_mul hs (by omega)
  have b : ((f.length : Int) * digit h 1 * levelN h).natAbs ≤ 6 * 10 * 210 := by
    rw [Int.natAbs_mul, Int.natAbs_mul]
    exact Nat.mul_le_mul (Nat.mul_le_mul (by omega) hd) hl
  unfold productN
  omega
theorem law_14 (S : Static K cs mg mb) (W : Wd K cs mg mb h0) (L : LawEnv env) (LA : LawA A env) (G : Gl (tabs cs) env h0 mg mb) (C : Cols f g e size other stray)
    (X : At (tabs cs) (TT cs) h0 g0 o0 env (names20 h f c d0 d1 d2 dx dz dy dl size other stray) (lists10 h f g e cells kf t1 b1 t2 b2 dl a1 a2 c d0 d1 d2 dx dz dy) s)
    (k : ∀ s', At (tabs cs) (TT cs) h0 g0 o0 env (names20 h f c d0 d1 d2 dx dz dy dl size other stray) (lists10 h f g e cells kf t1 b1 t2 b2 dl a1 a2 c d0 d1 d2 dx dz dy) s' → wpAny (model prog w) A (execs (dLaw.body.drop 15) env) Q E s') :
    wpAny (model prog w) A (execs (dLaw.body.drop 14) env) Q E s := by
  have mx : (dx, HV.list (nums false (xL h f))) ∈ lists10 h f g e cells kf t1 b1 t2 b2 dl a1 a2 c d0 d1 d2 dx dz dy := by
    show (dx, HV.list ((xL h f).map AV.int)) ∈ _
    simp [lists10, lists7]
  have my : (dy, HV.list (nums false (yL h f g e))) ∈ lists10 h f g e cells kf t1 b1 t2 b2 dl a1 a2 c d0 d1 d2 dx dz dy := by
    show (dy, HV.list ((yL h f g e).map AV.int)) ∈ _
    simp [lists10, lists7]
  have np : ∀ a fp h', (a, HV.pin fp h') ∉ lists10 h f g e cells kf t1 b1 t2 b2 dl a1 a2 c d0 d1 d2 dx dz dy := np_of rfl
  have xx : dotN (xL h f) (xL h f) (xL h f).length = squareN h f size := by
    rw [dotN_dot, square_eq C.tri]; rfl
  have xy : dotN (xL h f) (yL h f g e) (xL h f).length = productN h f size := by
    rw [dotN_dot, product_eq C.tri]; rfl
  have hlen : (yL h f g e).length = (xL h f).length := by rw [(C.y h).len, (C.x h).len]
  have h2 : 2 ≤ (xL h f).length := by rw [(C.x h).len]; exact C.two
  by_cases hsq : squareN h f size = 0
  · refine wpAny_execs_cons (wpAny_If (isTrue_ne (b := false) (eval_line_true0 (f := false) S W G LA ((L.kind _).trans rfl) (pinsOk_np np) X rfl (by decide) rfl (by decide) .bool mx my (C.x h).sm (C.y h).sm hlen h2 (by rw [xx, hsq]) fun s₁ X₁ => ?_)))
    refine Pur.ite (b := true) (av := .none) (.cmp (.nm rfl) .int (by have := op_eq (prog := prog) (w := w) (A := A) (a := squareN h f size) (b := 0); rw [hsq] at this ⊢; exact this)) (fun _ => .none) (fun q => by cases q) s₁ _ _ X₁ fun v tk hv _ => ?_
    apply hv.e0 rfl
    refine ⟨RcNeAt.none_none, ?_⟩
    rw [if_neg Bool.false_ne_true]
    exact s_nil (k _ X₁.toks)
  · refine wpAny_execs_cons (wpAny_If (isTrue_ne (b := false) (eval_line_true (f := false) S W G LA ((L.kind _).trans rfl) (pinsOk_np np) X rfl (by decide) rfl (by decide) .bool mx my (C.x h).sm (C.y h).sm hlen h2 (by rw [xx]; exact hsq) fun D s₁ X₁ => ?_)))
    rw [xx, xy] at X₁
    refine wpAny_IfExp (wpAny_isTrue_Compare1 (Pur.nm (av := .int (squareN h f size)) rfl (by decide) _ _ _ X₁ fun va tk hva _ => wpAny_Constant_int ?_))
    apply hva.e1 rfl; intro _
    refine eq_int (wpAny_truthy_bool ?_)
    rw [show (squareN h f size == 0) = false from beq_eq_false_iff_ne.mpr hsq]
    have X₂ := X₁.toks (tk := tk + 1)
    show wpAny _ _ (eval (.List [_, _] _) env) _ _ _
    refine wpAny_List (spliced_more (wpAny_BinOp (Pur.nm (av := .int (productN h f size)) rfl (by decide) _ _ _ X₂ fun va tk1 hva l1 => Pur.nm (av := .int (squareN h f size)) rfl (by decide) _ _ _ X₂.toks fun vb tk2 hvb l2 => ?_)) rfl)
    apply hva.e1 rfl; intro _; apply hvb.e1 rfl; intro _
    refine div_qi LA.hh hsq (square_small C) (Nat.lt_of_lt_of_le (Nat.succ_pos _) (Nat.le_trans l1 l2)) fun v tk3 hv => spliced_more (wpAny_Constant_int ?_) rfl
    refine spliced_nil ⟨(show 2 ≤ sizeLine by decide), ?_⟩
    have X₃ := (X₂.toks (tk := tk3 + 1)).push (tk := tk3 + 1) (.cons hv (.cons (.int 0 tk3) .nil))
    refine ⟨rcne_lists (X₃.ll (List.mem_cons_of_mem _ List.mem_cons_self)) (X₃.lists _ _ List.mem_cons_self).av (.cons (.qq hsq hsq rfl) (.cons (.fi 0) .nil)) (S.nb (W.at S X₃)) (Nat.lt_of_succ_lt LA.units), ?_⟩
    rw [if_neg Bool.false_ne_true]
    exact s_nil (k _ (X₃.weak (fun _ _ h => h) fun p hp => List.mem_cons_of_mem _ (List.mem_cons_of_mem _ hp)))
end
end Mine
end
section
set_option maxRecDepth 100000
set_option exponentiation.threshold 3000
namespace Mine
open PySem PySem.Float64 PySem.W PySem.Calls PyProof.Rows PySem.SeqAt
theorem sq_nonneg (v : Int) : 0 ≤ v * v := by
  rcases Int.le_total 0 v with h | h
  · exact Int.mul_nonneg h h
  · exact Int.mul_nonneg_of_nonpos_of_nonpos h h
theorem dot_self_nonneg : ∀ f : List Int, 0 ≤ dot f f
  | [] => by simp [dot]
  | v :: f => by
    rw [dot_cons]
    have := sq_nonneg v
    have := dot_self_nonneg f
    omega
theorem zero_of_dot : ∀ f : List Int, dot f f = 0 → ∀ v ∈ f, v = 0
  | [], _, v, hv => by cases hv
  | u :: f, h, v, hv => by
    rw [dot_cons] at h
    have h1 := sq_nonneg u
    have h2 := dot_self_nonneg f
    rcases List.mem_cons.mp hv with q | q
    · have : u * u = 0 := by omega
      rw [q]
      rcases Int.mul_eq_zero.mp this with h | h <;> exact h
    · exact zero_of_dot f (by omega) v q
/-- what the two lines leave -/
structure LB (h : Int) (f g e : List Int) (t1 b1 t2 b2 : Int) : Prop where
  zl : ∀ i, i < f.length → (zL h f g).getD i 0 - t1 * (xL h f).getD i 0 - b1 = g.getD i 0
  yl : ∀ i, i < f.length → (yL h f g e).getD i 0 - t2 * (xL h f).getD i 0 - b2 = (vadd (smul (digit h 4) g) e).getD i 0
  a1 : t1.natAbs ≤ 2 ^ 20
  c1 : b1.natAbs ≤ 2 ^ 20
  a2 : t2.natAbs ≤ 2 ^ 20
  c2 : b2.natAbs ≤ 2 ^ 20
section
variable {h : Int} {f g e : List Int} {size other stray : Int}
theorem at_x {i : Nat} (hi : i < f.length) : (xL h f).getD i 0 = f.getD i 0 + digit h 1 := by simp [hi]
theorem at_z (C : Cols f g e size other stray) {i : Nat} (hi : i < f.length) : (zL h f g).getD i 0 = g.getD i 0 + digit h 2 * f.getD i 0 + digit h 0 := by
  have h1 : i < g.length := by rw [C.tri.lg]; exact hi
  unfold zL zc vadd smul
  simp [hi, h1, List.getElem?_zipWith]
theorem at_y (C : Cols f g e size other stray) {i : Nat} (hi : i < f.length) : (yL h f g e).getD i 0 = digit h 3 * f.getD i 0 + digit h 4 * (g.getD i 0 + digit h 2 * f.getD i 0) + e.getD i 0 + levelN h := by
  have h1 : i < g.length := by rw [C.tri.lg]; exact hi
  have h2 : i < e.length := by rw [C.tri.le]; exact hi
  unfold yL yc zc vadd smul
  simp [hi, h1, h2, List.getElem?_zipWith]
theorem at_left (C : Cols f g e size other stray) {i : Nat} (hi : i < f.length) : (vadd (smul (digit h 4) g) e).getD i 0 = digit h 4 * g.getD i 0 + e.getD i 0 := by
  have h1 : i < g.length := by rw [C.tri.lg]; exact hi
  have h2 : i < e.length := by rw [C.tri.le]; exact hi
  unfold vadd smul
  simp [h1, h2, List.getElem?_zipWith]
theorem lb_true (C : Cols f g e size other stray) : LB h f g e (digit h 2) (digit h 0 - digit h 2 * digit h 1) (steepN h) (levelN h - steepN h * digit h 1) := by
  have d0 := dig_abs h 0; have d1 := dig_abs h 1; have d2 := dig_abs h 2
  have st := steep_small h; have lv := level_small h
  have p1 : (digit h 2 * digit h 1).natAbs ≤ 10 * 10 := by rw [Int.natAbs_mul]; exact Nat.mul_le_mul d2 d1
  have p2 : (steepN h * digit h 1).natAbs ≤ 110 * 10 := by rw [Int.natAbs_mul]; exact Nat.mul_le_mul st d1
  refine ⟨fun i hi => ?_, fun i hi => ?_, by omega, by omega, by omega, by omega⟩
  · rw [at_x hi, at_z C hi]; grind
  · rw [at_x hi, at_y C hi, at_left C hi]; unfold steepN; grind
theorem lb_false (C : Cols f g e size other stray) (hs : size = 0) : LB h f g e 0 (digit h 0) 0 (levelN h) := by
  have d0 := dig_abs h 0
  have lv := level_small h
  have z : ∀ i, i < f.length → f.getD i 0 = 0 := fun i hi => by
    have := zero_of_dot f (by rw [C.tri.ff, hs]) f[i] (List.getElem_mem hi)
    rw [List.getD_eq_getElem?_getD, List.getElem?_eq_getElem hi]; exact this
  refine ⟨fun i hi => ?_, fun i hi => ?_, by decide, by omega, by decide, by omega⟩
  · rw [at_x hi, at_z C hi, z i hi]; grind
  · rw [at_x hi, at_y C hi, at_left C hi, z i hi]; grind
end
section
variable {prog : Program} {w : World} {A : Around} {E : Value → Shared → Prop} {s : Shared} {env : Env} {h0 : Heap} {g0 : Array GenState} {o0 : OsState} {ρ ρc : List (Str × AV)} {ls : List (Addr × HV)} {rest : List Stmt} {P : List Addr} {T : Heap → Prop} {mg mb : Str → Option Value} {cs : List (Addr × Addr)} {K : Frag} {Q : Flow → Shared → Prop}
theorem op_mul_k {k : Bool} {a b : Int} (ha : a.natAbs ≤ 2 ^ 20) (hb : b.natAbs ≤ 2 ^ 20) : Op2 prog w A (binaryOp .Mult) (nv k a) (.int b) (nv k (a * b)) := by
  cases k with
  | false => exact op_mul (mulOk_l (Nat.lt_of_le_of_lt ha (by decide)))
  | true => exact op_mul_fi (Nat.le_trans hb (by decide)) (by rw [Int.natAbs_mul]; exact Nat.le_trans (Nat.mul_le_mul ha hb) (by decide))
theorem op_sub_ik {k : Bool} {a b : Int} (ha : a.natAbs ≤ 2 ^ 50) (hb : b.natAbs ≤ 2 ^ 50) : Op2 prog w A (binaryOp .Sub) (.int a) (nv k b) (nv k (a - b)) := by
  cases k with
  | false => exact op_sub
  | true => exact op_sub_if (Nat.le_trans ha (by decide)) (by omega)
theorem op_sub_kk {k : Bool} {a b : Int} (ha : a.natAbs ≤ 2 ^ 51) (hb : b.natAbs ≤ 2 ^ 50) : Op2 prog w A (binaryOp .Sub) (nv k a) (nv k b) (nv k (a - b)) := by
  cases k with
  | false => exact op_sub
  | true => exact op_sub_ff (by omega)
/-- q - t * p - b -/
theorem pur_left {C : Shared → Prop} [TokFree C] {ep eq et eb : Expr} {p1 p2 p3 : Pos} {k : Bool} {p q t b : Int} (hp : p.natAbs ≤ 2 ^ 20) (hq : q.natAbs ≤ 2 ^ 20) (ht : t.natAbs ≤ 2 ^ 20) (hb : b.natAbs ≤ 2 ^ 20)
    (cq : Pur prog w A C env eq (.int q)) (ct : Pur prog w A C env et (nv k t)) (cp : Pur prog w A C env ep (.int p)) (cb : Pur prog w A C env eb (nv k b)) :
    Pur prog w A C env (.BinOp (.BinOp eq .Sub (.BinOp et .Mult ep p1) p2) .Sub eb p3) (nv k (q - t * p - b)) := by
  have m : (t * p).natAbs ≤ 2 ^ 20 * 2 ^ 20 := by rw [Int.natAbs_mul]; exact Nat.mul_le_mul ht hp
  exact .bin (.bin cq (.bin ct cp (op_mul_k ht hp)) (op_sub_ik (by omega) (by omega))) cb (op_sub_kk (by omega) (by omega))

variable {c d0 d1 d2 dx dz dy dl a1 a2 : Addr} {cells f g e : List Int} {h size other stray t1 b1 t2 b2 : Int} {kf : Bool}
theorem law_15 (S : Static K cs mg mb) (L : LawEnv env) (LA : LawA A env) (G : Gl (tabs cs) env h0 mg mb) (C : Cols f g e size other stray) (B : LB h f g e t1 b1 t2 b2)
    (X : At (tabs cs) (TT cs) h0 g0 o0 env (names20 h f c d0 d1 d2 dx dz dy dl size other stray) (lists10 h f g e cells kf t1 b1 t2 b2 dl a1 a2 c d0 d1 d2 dx dz dy) s)
    (k : ∀ zl s', At (tabs cs) (TT cs) h0 g0 o0 env (("z_left", .ref zl) :: names20 h f c d0 d1 d2 dx dz dy dl size other stray) ((zl, .list (nums kf g)) :: lists10 h f g e cells kf t1 b1 t2 b2 dl a1 a2 c d0 d1 d2 dx dz dy) s' → wpAny (model prog w) A (execs (dLaw.body.drop 16) env) Q E s') :
    wpAny (model prog w) A (execs (dLaw.body.drop 15) env) Q E s := by
  have line : sizeLine = 2 ^ 24 := rfl
  have lx := (C.x h).len
  have lz := (C.z h).len
  have hi6 := C.hi
  refine s_compTF (P := tabs cs) (T := TT cs) (h0 := h0) (g0 := g0) (o0 := o0) (ρ := names20 h f c d0 d1 d2 dx dz dy dl size other stray) (ls := lists10 h f g e cells kf t1 b1 t2 b2 dl a1 a2 c d0 d1 d2 dx dz dy) (ρc := [("lines", .ref dl)]) (xs := ["p", "q"]) (n := ((xL h f).map AV.int).length) (av := fun i => [((xL h f).map AV.int).getD i .none, ((zL h f g).map AV.int).getD i .none]) (bv := fun i => nv kf ((zL h f g).getD i 0 - t1 * (xL h f).getD i 0 - b1)) LA.hh (by rw [L.sc]; rfl) ((L.kind _).trans rfl) rfl rfl ?_ (by rw [List.length_map, lx]; omega) (fun x hx => ?_) (by decide) rfl (by decide) (by decide)
    (fun C => ⟨_, rfl, .cons (.inl (lookup_relabel_local rfl)) (.cons (.inl (lookup_relabel_local rfl)) .nil)⟩) (fun _ _ => rfl) (fun p hp => ?_) (iter_zip2 LA.hh G ((L.kind _).trans rfl) S.zip.1 S.zip.2 X rfl (by decide) rfl (by decide) (by first | exact mi 0 rfl | exact mi 1 rfl | exact mi 2 rfl | exact mi 3 rfl | exact mi 4 rfl | exact mi 5 rfl | exact mi 6 rfl | exact mi 7 rfl | exact mi 8 rfl | exact mi 9 rfl | exact mi 10 rfl | exact mi 11 rfl | exact mi 12 rfl | exact mi 13 rfl | exact mi 14 rfl | exact mi 15 rfl | exact mi 16 rfl | exact mi 17 rfl | exact mi 18 rfl | exact mi 19 rfl | exact mi 20 rfl | exact mi 21 rfl | exact mi 22 rfl) (by first | exact mi 0 rfl | exact mi 1 rfl | exact mi 2 rfl | exact mi 3 rfl | exact mi 4 rfl | exact mi 5 rfl | exact mi 6 rfl | exact mi 7 rfl | exact mi 8 rfl | exact mi 9 rfl | exact mi 10 rfl | exact mi 11 rfl | exact mi 12 rfl | exact mi 13 rfl | exact mi 14 rfl | exact mi 15 rfl | exact mi 16 rfl | exact mi 17 rfl | exact mi 18 rfl | exact mi 19 rfl | exact mi 20 rfl | exact mi 21 rfl | exact mi 22 rfl) (by rw [show ((zL h f g).map AV.int).length = (zL h f g).length from List.length_map _, show ((xL h f).map AV.int).length = (xL h f).length from List.length_map _, lx, lz])) (fun h₁ g₁ o₁ Cc i a l' hi => ?_) fun D s' hD X' => ?_
  · intro a fp h hm
    simp [lists10, lists7] at hm
  · replace hx : (x, NameKind.free) ∈ [((".0" : Str), NameKind.local), ("p", .local), ("q", .local), ("lines", .free)] := hx
    simp at hx
    subst hx
    exact L.cell _ rfl
  · rw [List.mem_singleton.mp hp]
    exact ⟨rfl, (L.kind _).trans rfl, rfl⟩
  · rw [List.length_map] at hi
    have hi0 : i < f.length := lx ▸ hi
    have hiz : i < (zL h f g).length := by rw [lz]; exact hi0
    rw [int_getD hi, int_getD hiz]
    have bx : ((xL h f).getD i 0).natAbs ≤ 2 ^ 20 := (C.x h).sm.val _ (by rw [List.getD_eq_getElem?_getD, List.getElem?_eq_getElem hi]; exact List.getElem_mem hi)
    have bz : ((zL h f g).getD i 0).natAbs ≤ 2 ^ 20 := (C.z h).sm.val _ (by rw [List.getD_eq_getElem?_getD, List.getElem?_eq_getElem hiz]; exact List.getElem_mem hiz)
    have m1 : (dl, HV.list [.ref a1, .ref a2]) ∈ (a, HV.acc l') :: lists10 h f g e cells kf t1 b1 t2 b2 dl a1 a2 c d0 d1 d2 dx dz dy := by first | exact mi 0 rfl | exact mi 1 rfl | exact mi 2 rfl | exact mi 3 rfl | exact mi 4 rfl | exact mi 5 rfl | exact mi 6 rfl | exact mi 7 rfl | exact mi 8 rfl | exact mi 9 rfl | exact mi 10 rfl | exact mi 11 rfl | exact mi 12 rfl | exact mi 13 rfl | exact mi 14 rfl | exact mi 15 rfl | exact mi 16 rfl | exact mi 17 rfl | exact mi 18 rfl | exact mi 19 rfl | exact mi 20 rfl | exact mi 21 rfl | exact mi 22 rfl
    have m2 : (a1, HV.list [nv kf t1, nv kf b1]) ∈ (a, HV.acc l') :: lists10 h f g e cells kf t1 b1 t2 b2 dl a1 a2 c d0 d1 d2 dx dz dy := by first | exact mi 0 rfl | exact mi 1 rfl | exact mi 2 rfl | exact mi 3 rfl | exact mi 4 rfl | exact mi 5 rfl | exact mi 6 rfl | exact mi 7 rfl | exact mi 8 rfl | exact mi 9 rfl | exact mi 10 rfl | exact mi 11 rfl | exact mi 12 rfl | exact mi 13 rfl | exact mi 14 rfl | exact mi 15 rfl | exact mi 16 rfl | exact mi 17 rfl | exact mi 18 rfl | exact mi 19 rfl | exact mi 20 rfl | exact mi 21 rfl | exact mi 22 rfl
    exact pur_left bx bz B.a1 B.c1 (.nm rfl) (.item (.item (.nm rfl) .int m1 (by decide) (by decide) rfl) .int m2 (by decide) (by decide) rfl) (.nm rfl) (.item (.item (.nm rfl) .int m1 (by decide) (by decide) rfl) .int m2 (by decide) (by decide) rfl)
  · refine k D s' ?_
    have q : (List.range ((xL h f).map AV.int).length).map (fun i => nv kf ((zL h f g).getD i 0 - t1 * (xL h f).getD i 0 - b1)) = nums kf g := by
      unfold nums
      rw [List.length_map, lx, ← C.tri.lg, ← range_getD g 0 (nv kf)]
      refine List.map_congr_left fun i hi => ?_
      rw [B.zl i (by rw [← C.tri.lg]; exact List.mem_range.mp hi)]
    rw [q] at X'
    exact X'
theorem law_16 (S : Static K cs mg mb) (L : LawEnv env) (LA : LawA A env) (G : Gl (tabs cs) env h0 mg mb) (C : Cols f g e size other stray) (B : LB h f g e t1 b1 t2 b2) {zl : Addr}
    (X : At (tabs cs) (TT cs) h0 g0 o0 env (("z_left", .ref zl) :: names20 h f c d0 d1 d2 dx dz dy dl size other stray) ((zl, .list (nums kf g)) :: lists10 h f g e cells kf t1 b1 t2 b2 dl a1 a2 c d0 d1 d2 dx dz dy) s)
    (k : ∀ yl s', At (tabs cs) (TT cs) h0 g0 o0 env (("y_left", .ref yl) :: ("z_left", .ref zl) :: names20 h f c d0 d1 d2 dx dz dy dl size other stray) ((yl, .list (nums kf (vadd (smul (digit h 4) g) e))) :: (zl, .list (nums kf g)) :: lists10 h f g e cells kf t1 b1 t2 b2 dl a1 a2 c d0 d1 d2 dx dz dy) s' → wpAny (model prog w) A (execs (dLaw.body.drop 17) env) Q E s') :
    wpAny (model prog w) A (execs (dLaw.body.drop 16) env) Q E s := by
  have line : sizeLine = 2 ^ 24 := rfl
  have lx := (C.x h).len
  have ly := (C.y h).len
  have hi6 := C.hi
  refine s_compTF (P := tabs cs) (T := TT cs) (h0 := h0) (g0 := g0) (o0 := o0) (ρ := ("z_left", .ref zl) :: names20 h f c d0 d1 d2 dx dz dy dl size other stray) (ls := (zl, .list (nums kf g)) :: lists10 h f g e cells kf t1 b1 t2 b2 dl a1 a2 c d0 d1 d2 dx dz dy) (ρc := [("lines", .ref dl)]) (xs := ["p", "q"]) (n := ((xL h f).map AV.int).length) (av := fun i => [((xL h f).map AV.int).getD i .none, ((yL h f g e).map AV.int).getD i .none]) (bv := fun i => nv kf ((yL h f g e).getD i 0 - t2 * (xL h f).getD i 0 - b2)) LA.hh (by rw [L.sc]; rfl) ((L.kind _).trans rfl) rfl rfl ?_ (by rw [List.length_map, lx]; omega) (fun x hx => ?_) (by decide) rfl (by decide) (by decide)
    (fun C => ⟨_, rfl, .cons (.inl (lookup_relabel_local rfl)) (.cons (.inl (lookup_relabel_local rfl)) .nil)⟩) (fun _ _ => rfl) (fun p hp => ?_) (iter_zip2 LA.hh G ((L.kind _).trans rfl) S.zip.1 S.zip.2 X rfl (by decide) rfl (by decide) (by first | exact mi 0 rfl | exact mi 1 rfl | exact mi 2 rfl | exact mi 3 rfl | exact mi 4 rfl | exact mi 5 rfl | exact mi 6 rfl | exact mi 7 rfl | exact mi 8 rfl | exact mi 9 rfl | exact mi 10 rfl | exact mi 11 rfl | exact mi 12 rfl | exact mi 13 rfl | exact mi 14 rfl | exact mi 15 rfl | exact mi 16 rfl | exact mi 17 rfl | exact mi 18 rfl | exact mi 19 rfl | exact mi 20 rfl | exact mi 21 rfl | exact mi 22 rfl) (by first | exact mi 0 rfl | exact mi 1 rfl | exact mi 2 rfl | exact mi 3 rfl | exact mi 4 rfl | exact mi 5 rfl | exact mi 6 rfl | exact mi 7 rfl | exact mi 8 rfl | exact mi 9 rfl | exact mi 10 rfl | exact mi 11 rfl | exact mi 12 rfl | exact mi 13 rfl | exact mi 14 rfl | exact mi 15 rfl | exact mi 16 rfl | exact mi 17 rfl | exact mi 18 rfl | exact mi 19 rfl | exact mi 20 rfl | exact mi 21 rfl | exact mi 22 rfl) (by rw [show ((yL h f g e).map AV.int).length = (yL h f g e).length from List.length_map _, show ((xL h f).map AV.int).length = (xL h f).length from List.length_map _, lx, ly])) (fun h₁ g₁ o₁ Cc i a l' hi => ?_) fun D s' hD X' => ?_
  · intro a fp h hm
    simp [lists10, lists7] at hm
  · replace hx : (x, NameKind.free) ∈ [((".0" : Str), NameKind.local), ("p", .local), ("q", .local), ("lines", .free)] := hx
    simp at hx
    subst hx
    exact L.cell _ rfl
  · rw [List.mem_singleton.mp hp]
    exact ⟨rfl, (L.kind _).trans rfl, rfl⟩
  · rw [List.length_map] at hi
    have hi0 : i < f.length := lx ▸ hi
    have hiz : i < (yL h f g e).length := by rw [ly]; exact hi0
    rw [int_getD hi, int_getD hiz]
    have bx : ((xL h f).getD i 0).natAbs ≤ 2 ^ 20 := (C.x h).sm.val _ (by rw [List.getD_eq_getElem?_getD, List.getElem?_eq_getElem hi]; exact List.getElem_mem hi)
    have bz : ((yL h f g e).getD i 0).natAbs ≤ 2 ^ 20 := (C.y h).sm.val _ (by rw [List.getD_eq_getElem?_getD, List.getElem?_eq_getElem hiz]; exact List.getElem_mem hiz)
    have m1 : (dl, HV.list [.ref a1, .ref a2]) ∈ (a, HV.acc l') :: (zl, HV.list (nums kf g)) :: lists10 h f g e cells kf t1 b1 t2 b2 dl a1 a2 c d0 d1 d2 dx dz dy := by first | exact mi 0 rfl | exact mi 1 rfl | exact mi 2 rfl | exact mi 3 rfl | exact mi 4 rfl | exact mi 5 rfl | exact mi 6 rfl | exact mi 7 rfl | exact mi 8 rfl | exact mi 9 rfl | exact mi 10 rfl | exact mi 11 rfl | exact mi 12 rfl | exact mi 13 rfl | exact mi 14 rfl | exact mi 15 rfl | exact mi 16 rfl | exact mi 17 rfl | exact mi 18 rfl | exact mi 19 rfl | exact mi 20 rfl | exact mi 21 rfl | exact mi 22 rfl
    have m2 : (a2, HV.list [nv kf t2, nv kf b2]) ∈ (a, HV.acc l') :: (zl, HV.list (nums kf g)) :: lists10 h f g e cells kf t1 b1 t2 b2 dl a1 a2 c d0 d1 d2 dx dz dy := by first | exact mi 0 rfl | exact mi 1 rfl | exact mi 2 rfl | exact mi 3 rfl | exact mi 4 rfl | exact mi 5 rfl | exact mi 6 rfl | exact mi 7 rfl | exact mi 8 rfl | exact mi 9 rfl | exact mi 10 rfl | exact mi 11 rfl | exact mi 12 rfl | exact mi 13 rfl | exact mi 14 rfl | exact mi 15 rfl | exact mi 16 rfl | exact mi 17 rfl | exact mi 18 rfl | exact mi 19 rfl | exact mi 20 rfl | exact mi 21 rfl | exact mi 22 rfl
    exact pur_left bx bz B.a2 B.c2 (.nm rfl) (.item (.item (.nm rfl) .int m1 (by decide) (by decide) rfl) .int m2 (by decide) (by decide) rfl) (.nm rfl) (.item (.item (.nm rfl) .int m1 (by decide) (by decide) rfl) .int m2 (by decide) (by decide) rfl)
  · refine k D s' ?_
    have q : (List.range ((xL h f).map AV.int).length).map (fun i => nv kf ((yL h f g e).getD i 0 - t2 * (xL h f).getD i 0 - b2)) = nums kf (vadd (smul (digit h 4) g) e) := by
      unfold nums
      rw [List.length_map, lx, ← (C.left h).len, ← range_getD (vadd (smul (digit h 4) g) e) 0 (nv kf)]
      refine List.map_congr_left fun i hi => ?_
      rw [B.yl i (by rw [← (C.left h).len]; exact List.mem_range.mp hi)]
    rw [q] at X'
    exact X'
end
end Mine
end
section
set_option maxRecDepth 100000
set_option exponentiation.threshold 3000
namespace Mine
open PySem PySem.Float64 PySem.W PySem.Calls PyProof.Rows PySem.SeqAt
section
variable {prog : Program} {w : World} {A : Around} {E : Value → Shared → Prop} {s : Shared} {env : Env} {h0 : Heap} {g0 : Array GenState} {o0 : OsState} {ρ ρc : List (Str × AV)} {ls : List (Addr × HV)} {rest : List Stmt} {P : List Addr} {T : Heap → Prop} {mg mb : Str → Option Value} {cs : List (Addr × Addr)} {K : Frag} {Q : Flow → Shared → Prop}
/-- for x in ..: body, names and lists as they are -/
theorem s_forE [TabKeep T] [TabFields P T] {x : Str} {px pos : Pos} {iter : Expr} {body : List Stmt} {n : Nat} {av : Nat → AV} (hx : Storable env x)
    (hnp : ∀ a fp h, (a, HV.pin fp h) ∉ ls)
    (hiter : IterE prog w A E P T h0 g0 o0 env ρ ls iter n av s)
    (step : ∀ i s' fp hp (E' : Value → Shared → Prop), i < n → At P T h0 g0 o0 env ((x, av i) :: ρ) ((0, .pin fp hp) :: ls) s' → (∀ b ∈ fp, b ∉ P) →
      wpAny (model prog w) A (execs body env) (fun f s₃ => match f with
        | .next => At P T h0 g0 o0 env ρ ((0, .pin fp hp) :: ls) s₃
        | .ret v => Q (.ret v) s₃
        | _ => False) E' s')
    (k : ∀ s', At P T h0 g0 o0 env ρ ls s' → wpAny (model prog w) A (execs rest env) Q E s')
    (hs : ∀ x, foldedSetIterable iter env x = pure x := by intro _; rfl) :
    wpAny (model prog w) A (execs (.For (.Name x px) iter body [] pos :: rest) env) Q E s := by
  refine wpAny_execs_cons (wpAny_For (wpAny_mono hiter (fun xv s₁ h1 => wpAny_mono h1.2 (fun it s₂ h2 => ?_) fun _ _ e => e) fun _ _ e => e) hs)
  obtain ⟨X₁, _⟩ := h1
  obtain ⟨I, fp, wr, St, src, rfl, IO⟩ := h2
  have X₂ := X₁.keeps IO.keep IO.gens IO.os
  have h0w : ∀ b o, b ∉ P → h0.get? b = some o → b < s₁.heap.objs.size := fun b o hb e => X₁.grow.lt hb e
  have hpn : ∀ a fp h₁, (a, HV.pin fp h₁) ∈ ls → ∀ b ∈ fp, ∀ o, h₁.get? b = some o → b < s₁.heap.objs.size := fun a fp h₁ hm => absurd hm (hnp a fp h₁)
  refine codeAny_forLoop (fun m s' => ∃ i, i ≤ n ∧ m = n - i ∧ At P T h0 g0 o0 env ρ ls s' ∧ St i s'.heap) ?_ n ⟨0, Nat.zero_le _, rfl, X₂, IO.st0⟩
  intro m s' hinv
  refine ex1and4 hinv fun i hi hm X st => ?_
  subst hm
  clear hinv
  rcases Nat.lt_or_ge i n with hlt | hge
  · refine IO.walks.item i s' _ _ hlt st fun v h' tk hv st' hk => ?_
    have X' := X.iter (tk := tk) IO.fresh X₁.lt451 (IO.fields i _ st) h0w hpn hk
    dsimp only
    refine wpAny_assign_Name (X'.store hv hx fun s'' X'' hst _ => ?_)
    have st'' : St (i + 1) s''.heap := IO.walks.frame _ _ _ st' fun b hb o e => by
      obtain ⟨o', e', hl⟩ := IO.lasts _ _ st' b hb
      rw [e] at e'; cases e'
      exact hst.2.1 b o hl e
    have pin : Holds s''.heap 0 (.pin fp s''.heap) := fun b hb o e => by
      obtain ⟨o', e', hl⟩ := IO.lasts _ _ st'' b hb
      rw [e] at e'; cases e'
      exact ⟨hl, e⟩
    refine wpAny_mono (step i s'' fp s''.heap _ hlt (X''.add pin) (IO.apart X₁ X₂.tb)) (fun f s₃ h => ?_) fun _ _ e => e
    cases f with
    | next =>
      refine ⟨n - (i + 1), by omega, i + 1, hlt, rfl, h.weak (fun _ _ e => e) fun p hp => List.mem_cons_of_mem _ hp, ?_⟩
      exact IO.walks.frame _ _ _ st'' fun b hb o e => (h.lists 0 _ List.mem_cons_self b hb o e).2
    | ret v => exact h
    | brk => exact h.elim
    | cont => exact h.elim
  · obtain rfl : i = n := Nat.le_antisymm hi hge
    refine IO.walks.done s' _ _ st fun h' tk hk => ?_
    have X' := X.iter (tk := tk) IO.fresh X₁.lt451 (IO.fields _ _ st) h0w hpn hk
    exact wpAny_execs_nil (k _ X')

/-- the items of a tuple just made -/
theorem iter_tup [TabKeep T] {es : List Expr} {avs : List AV} {kd : Nat} {pos : Pos} (hA : A.handled = none) (X : At P T h0 g0 o0 env ρ ls s) (hes : PurL prog w A (At P T h0 g0 o0 env ρ ls) env es avs) (hz : avs.length ≤ 100) :
    IterE prog w A E P T h0 g0 o0 env ρ ls (.Tuple es kd pos) avs.length (fun i => avs.getD i .none) s := by
  refine eval_tupleL X hes hz fun t vs s₁ X₁ hR hT _ => ⟨X₁, ?_⟩
  refine PyProof.Rows.iter_tuple hT ?_
  have hlt : t < s₁.heap.objs.size := by obtain ⟨o, ho, _⟩ := hT; exact Heap.lt_size ho
  have W := Walks.tuple (prog := prog) (w := w) hA s₁.heap.objs.size t (Nat.ne_of_lt hlt) vs.toArray
  rw [show vs.toArray.size = avs.length from by rw [List.size_toArray, hR.length]] at W
  have hT' : ∀ o, (s₁.heap.push o).IsTuple t vs.toArray := fun o => by
    obtain ⟨o', ho, r⟩ := hT
    exact ⟨o', Heap.get?_push_of_some _ ho, r⟩
  refine ⟨_, _, _, _, [t], rfl, walks_rep W (fun i v hi h => rep_getD hR h), ⟨⟨_, Heap.get?_push_size _ rfl, rfl, rfl⟩, hT' _⟩, fun b hb => ?_, fun i h st b hb => ?_, fun i h st b hb => ?_, fun i h st b hb => ?_, fun b o e => Heap.get?_push_of_some _ e, rfl, rfl, size_push_le _ _, fun b hb => ?_⟩
  · obtain rfl := List.mem_singleton.mp hb
    exact Nat.le_refl _
  · simp only [List.mem_cons, List.not_mem_nil, or_false] at hb
    rcases hb with q | q <;> subst q
    · obtain ⟨o, ho, _, hd⟩ := st.1
      exact ⟨o, ho, by unfold Lasting; rw [hd]⟩
    · obtain ⟨o, ho, _, n, hd⟩ := st.2
      exact ⟨o, ho, by unfold Lasting; rw [hd]⟩
  · obtain rfl := List.mem_singleton.mp hb
    obtain ⟨o, ho, _, hd⟩ := st.1
    exact ⟨o, _, ho, hd⟩
  · simp only [List.mem_cons, List.not_mem_nil, or_false] at hb
    rcases hb with q | q <;> subst q
    · obtain ⟨o, ho, _, hd⟩ := st.1
      exact .inr ⟨o, _, ho, hd⟩
    · exact .inl (List.mem_singleton.mpr rfl)
  · simp only [List.mem_cons, List.not_mem_nil, or_false] at hb
    rcases hb with q | q <;> subst q
    · exact .inl (Nat.le_refl _)
    · obtain ⟨o, ho, _, n, hd⟩ := id hT
      exact .inr ⟨o, _, n, Heap.get?_push_of_some _ ho, hd⟩

variable {c d0 d1 d2 dx dz dy dl a1 a2 zl yl : Addr} {cells f g e : List Int} {h size other stray t1 b1 t2 b2 : Int} {kf : Bool}
noncomputable abbrev names22 (h : Int) (f : List Int) (c d0 d1 d2 dx dz dy dl zl yl : Addr) (size other stray : Int) : List (Str × AV) := ("y_left", .ref yl) :: ("z_left", .ref zl) :: names20 h f c d0 d1 d2 dx dz dy dl size other stray
noncomputable abbrev lists12 (h : Int) (f g e cells : List Int) (k : Bool) (t1 b1 t2 b2 : Int) (dl a1 a2 c d0 d1 d2 dx dz dy zl yl : Addr) : List (Addr × HV) := (yl, .list (nums k (vadd (smul (digit h 4) g) e))) :: (zl, .list (nums k g)) :: lists10 h f g e cells k t1 b1 t2 b2 dl a1 a2 c d0 d1 d2 dx dz dy
theorem lists12_np : ∀ a fp h', (a, HV.pin fp h') ∉ lists12 h f g e cells kf t1 b1 t2 b2 dl a1 a2 c d0 d1 d2 dx dz dy zl yl := np_of rfl
theorem law_17 (S : Static K cs mg mb) (W : Wd K cs mg mb h0) (L : LawEnv env) (LA : LawA A env) (G : Gl (tabs cs) env h0 mg mb) (C : Cols f g e size other stray)
    (X : At (tabs cs) (TT cs) h0 g0 o0 env (names22 h f c d0 d1 d2 dx dz dy dl zl yl size other stray) (lists12 h f g e cells kf t1 b1 t2 b2 dl a1 a2 c d0 d1 d2 dx dz dy zl yl) s)
    (k : ∀ s', At (tabs cs) (TT cs) h0 g0 o0 env (names22 h f c d0 d1 d2 dx dz dy dl zl yl size other stray) (lists12 h f g e cells kf t1 b1 t2 b2 dl a1 a2 c d0 d1 d2 dx dz dy zl yl) s' → wpAny (model prog w) A (execs (dLaw.body.drop 18) env) Q E s') :
    wpAny (model prog w) A (execs (dLaw.body.drop 17) env) Q E s := by
  refine s_forE (P := tabs cs) (T := TT cs) (ρ := names22 h f c d0 d1 d2 dx dz dy dl zl yl size other stray) (n := 2) (av := fun i => ([AV.bool false, .bool true]).getD i .none) (L.lo rfl) lists12_np (iter_tup LA.hh X (.cons .bool (.cons .bool .nil rfl) rfl) (show 2 ≤ 100 by decide)) (fun i s' fp hp E' hi X' hfp => ?_) k
  have mz : (zl, HV.list (nums kf g)) ∈ (0, HV.pin fp hp) :: lists12 h f g e cells kf t1 b1 t2 b2 dl a1 a2 c d0 d1 d2 dx dz dy zl yl := by first | exact mi 0 rfl | exact mi 1 rfl | exact mi 2 rfl | exact mi 3 rfl | exact mi 4 rfl | exact mi 5 rfl | exact mi 6 rfl | exact mi 7 rfl | exact mi 8 rfl | exact mi 9 rfl | exact mi 10 rfl | exact mi 11 rfl | exact mi 12 rfl | exact mi 13 rfl | exact mi 14 rfl | exact mi 15 rfl | exact mi 16 rfl | exact mi 17 rfl | exact mi 18 rfl | exact mi 19 rfl | exact mi 20 rfl | exact mi 21 rfl | exact mi 22 rfl
  have my : (yl, HV.list (nums kf (vadd (smul (digit h 4) g) e))) ∈ (0, HV.pin fp hp) :: lists12 h f g e cells kf t1 b1 t2 b2 dl a1 a2 c d0 d1 d2 dx dz dy zl yl := by first | exact mi 0 rfl | exact mi 1 rfl | exact mi 2 rfl | exact mi 3 rfl | exact mi 4 rfl | exact mi 5 rfl | exact mi 6 rfl | exact mi 7 rfl | exact mi 8 rfl | exact mi 9 rfl | exact mi 10 rfl | exact mi 11 rfl | exact mi 12 rfl | exact mi 13 rfl | exact mi 14 rfl | exact mi 15 rfl | exact mi 16 rfl | exact mi 17 rfl | exact mi 18 rfl | exact mi 19 rfl | exact mi 20 rfl | exact mi 21 rfl | exact mi 22 rfl
  have po : PinsOk cs ((0, HV.pin fp hp) :: lists12 h f g e cells kf t1 b1 t2 b2 dl a1 a2 c d0 d1 d2 dx dz dy zl yl) := fun a fp' h' hm => by
    rcases List.mem_cons.mp hm with q | q
    · cases q; exact hfp
    · exact absurd q (lists12_np a fp' h')
  have gg : dotN g g g.length = other := by rw [dotN_dot, C.tri.gg]
  have gl : dotN g (vadd (smul (digit h 4) g) e) g.length = digit h 4 * other := by rw [dotN_dot, left_g C.tri]
  have lk := C.g0.line (C.left h) C.two
  have len2 : 2 ≤ g.length := by rw [C.g0.len]; exact C.two
  have d4 : (digit h 4).natAbs ≤ 2 ^ 20 := Nat.le_trans (dig_abs h 4) (by decide)
  have back : ∀ {s'' : Shared} {r : List (Addr × HV)}, At (tabs cs) (TT cs) h0 g0 o0 env (("origin", ([AV.bool false, .bool true]).getD i .none) :: names22 h f c d0 d1 d2 dx dz dy dl zl yl size other stray) (r ++ ((0, HV.pin fp hp) :: lists12 h f g e cells kf t1 b1 t2 b2 dl a1 a2 c d0 d1 d2 dx dz dy zl yl)) s'' →
      At (tabs cs) (TT cs) h0 g0 o0 env (names22 h f c d0 d1 d2 dx dz dy dl zl yl size other stray) ((0, HV.pin fp hp) :: lists12 h f g e cells kf t1 b1 t2 b2 dl a1 a2 c d0 d1 d2 dx dz dy zl yl) s'' := fun Y => Y.weak (fun x av hx => by
    rw [List.lookup_cons]
    by_cases q : x = ("origin" : Str)
    · subst q
      exact absurd hx (by intro z; cases z)
    · rw [beq_eq_false_iff_ne.mpr q]; exact hx) fun p hp => List.mem_append_right _ hp
  by_cases ho : other = 0
  · match i, hi with
    | 0, _ =>
      refine wpAny_execs_cons (wpAny_If (isTrue_ne (b := false) (eval_line_false0 S W G LA ((L.kind _).trans rfl) po X' rfl (by decide) rfl (by decide) (.nm rfl) mz my lk (by rw [cen_0, gg, ho]) fun s₁ X₁ => ?_)))
      refine Pur.ite (b := true) (av := .none) (.cmp (.nm rfl) .int (by have := op_eq (prog := prog) (w := w) (A := A) (a := other) (b := 0); rw [ho] at this ⊢; exact this)) (fun _ => .none) (fun q => by cases q) s₁ _ _ X₁ fun v tk hv _ => ?_
      apply hv.e0 rfl
      refine ⟨RcNeAt.none_none, ?_⟩
      rw [if_neg Bool.false_ne_true]
      exact s_nil (s_nil (back (r := []) X₁.toks))
    | 1, _ =>
      refine wpAny_execs_cons (wpAny_If (isTrue_ne (b := false) (eval_line_true0 S W G LA ((L.kind _).trans rfl) po X' rfl (by decide) rfl (by decide) (.nm rfl) mz my C.g0.sm (C.left h).sm lk.len len2 (by rw [gg, ho]) fun s₁ X₁ => ?_)))
      refine Pur.ite (b := true) (av := .none) (.cmp (.nm rfl) .int (by have := op_eq (prog := prog) (w := w) (A := A) (a := other) (b := 0); rw [ho] at this ⊢; exact this)) (fun _ => .none) (fun q => by cases q) s₁ _ _ X₁ fun v tk hv _ => ?_
      apply hv.e0 rfl
      refine ⟨RcNeAt.none_none, ?_⟩
      rw [if_neg Bool.false_ne_true]
      exact s_nil (s_nil (back (r := []) X₁.toks))
    | i + 2, h => exact absurd h (by omega)
  · match i, hi with
    | 0, _ =>
      refine wpAny_execs_cons (wpAny_If (isTrue_ne (b := false) (eval_line_false (q := digit h 4) S W G LA ((L.kind _).trans rfl) po X' rfl (by decide) rfl (by decide) (.nm rfl) mz my lk (by rw [cen_0, gg]; exact ho) (by rw [cen_0, cen_0, gl, gg]) d4 fun D s₁ X₁ => ?_)))
      refine wpAny_IfExp ((show Tst prog w A (At (tabs cs) (TT cs) h0 g0 o0 env _ _) env _ (other == 0) from .cmp (.nm rfl) .int op_eq) s₁ _ _ X₁ fun tk _ => ?_)
      rw [show (other == 0) = false from beq_eq_false_iff_ne.mpr ho]
      refine eval_list X₁.toks (.cons (.nm rfl) (.cons .int .nil rfl) rfl) (show 2 ≤ sizeLine by decide) fun D' s₂ hD' X₂ => ?_
      refine ⟨rcne_lists (X₂.ll (List.mem_cons_of_mem _ List.mem_cons_self)) (X₂.lists D' _ List.mem_cons_self).av (.cons (.fi _) (.cons (by rw [Int.mul_zero, Int.sub_zero]; exact .fi 0) .nil)) (S.nb (W.at S X₂)) (Nat.lt_of_succ_lt LA.units), ?_⟩
      rw [if_neg Bool.false_ne_true]
      exact s_nil (s_nil (back (r := [_, _]) X₂))
    | 1, _ =>
      refine wpAny_execs_cons (wpAny_If (isTrue_ne (b := false) (eval_line_true S W G LA ((L.kind _).trans rfl) po X' rfl (by decide) rfl (by decide) (.nm rfl) mz my C.g0.sm (C.left h).sm lk.len len2 (by rw [gg]; exact ho) fun D s₁ X₁ => ?_)))
      rw [gl, gg] at X₁
      refine wpAny_IfExp ((show Tst prog w A (At (tabs cs) (TT cs) h0 g0 o0 env _ _) env _ (other == 0) from .cmp (.nm rfl) .int op_eq) s₁ _ _ X₁ fun tk _ => ?_)
      rw [show (other == 0) = false from beq_eq_false_iff_ne.mpr ho]
      refine eval_list X₁.toks (.cons (.nm rfl) (.cons .int .nil rfl) rfl) (show 2 ≤ sizeLine by decide) fun D' s₂ hD' X₂ => ?_
      refine ⟨rcne_lists (X₂.ll (List.mem_cons_of_mem _ List.mem_cons_self)) (X₂.lists D' _ List.mem_cons_self).av (.cons (.qn ho rfl (Nat.le_trans d4 (by decide))) (.cons (.fi 0) .nil)) (S.nb (W.at S X₂)) (Nat.lt_of_succ_lt LA.units), ?_⟩
      rw [if_neg Bool.false_ne_true]
      exact s_nil (s_nil (back (r := [_, _]) X₂))
    | i + 2, h => exact absurd h (by omega)
end
end Mine
end
section
set_option maxRecDepth 100000
set_option exponentiation.threshold 3000
namespace Mine
open PySem PySem.Float64 PySem.W PySem.Calls PyProof.Rows PySem.SeqAt
section
variable {prog : Program} {w : World} {A : Around} {E : Value → Shared → Prop} {s : Shared} {env : Env} {h0 : Heap} {g0 : Array GenState} {o0 : OsState} {ρ ρc : List (Str × AV)} {ls : List (Addr × HV)} {rest : List Stmt} {P : List Addr} {T : Heap → Prop} {mg mb : Str → Option Value} {cs : List (Addr × Addr)} {K : Frag}
theorem eval_cov {Q : Value → Shared → Prop} {nx ny : Str} {p px py pos : Pos} {a b : Addr} {xs ys : List Int} {m m' r : Int} (S : Static K cs mg mb) (W : Wd K cs mg mb h0) (G : Gl (tabs cs) env h0 mg mb) (LA : LawA A env) (hk : env.kindOf "covariance" = some .globalImplicit) (hp : PinsOk cs ls)
    (X : At (tabs cs) (TT cs) h0 g0 o0 env ρ ls s) (hx : ρ.lookup nx = some (.ref a)) (hdx : (nx == ("__debug__" : Str)) = false) (hy : ρ.lookup ny = some (.ref b)) (hdy : (ny == ("__debug__" : Str)) = false) (h1 : (a, HV.list (xs.map .int)) ∈ ls) (h2 : (b, HV.list (ys.map .int)) ∈ ls)
    (ok : LineOk xs ys m m') (hr : dotN (xs.map (· - m)) (ys.map (· - m')) xs.length = r)
    (k : ∀ v s', Rep (.q r (xs.length - 1)) v → At (tabs cs) (TT cs) h0 g0 o0 env ρ ls s' → Q v s')
    (hst : starEach [.Name nx px, .Name ny py] env = (false, eval (.Name nx px) env) :: starEach [.Name ny py] env := by rfl) (hst' : starEach [.Name ny py] env = (false, eval (.Name ny py) env) :: starEach [] env := by rfl) :
    wpAny (model prog w) A (eval (.Call (.Name "covariance" p) [.Name nx px, .Name ny py] [] pos) env) Q E s := by
  refine (S.cov.2.1.at (W.at S X).k).elim fun o' pm cd doc ho' hd hcd => ?_
  refine eval_call G hk S.cov.1 (by decide) X ho' hd (.cons (.nm hx hdx) (.cons (.nm hy hdy) .nil hst') hst) (fun vs tk hvs => ?_) hst
  have X' := X.toks (tk := tk)
  have W' := W.at S X'
  subst hr
  exact call_cov (k1 := false) (k2 := false) S.csok W'.w (S.cov.2.1.cd W'.k) (S.bmAt W') S.cov.2.2 S.gf LA.hh (by have := LA.room; omega) ok.hx ok.hy ok.len ok.two ok.mx ok.my ok.m1 ok.m2 (X'.ll h1) (X'.ll h2) hvs fun v s' hv af => k v s' hv (X'.call af hp)

variable {Q : Flow → Shared → Prop} {c d0 d1 d2 dx dz dy dl a1 a2 zl yl : Addr} {cells f g e : List Int} {h size other stray t1 b1 t2 b2 : Int} {kf : Bool}
noncomputable def due1 (h size : Int) : Int := digit h 2 * size
noncomputable def due2 (h size : Int) : Int := steepN h * size
noncomputable def due3 (h size other : Int) : Int := digit h 2 * steepN h * size + digit h 4 * other
noncomputable def due4 (h size other stray : Int) : Int := steepN h ^ 2 * size + digit h 4 ^ 2 * other + stray
noncomputable abbrev toldL (n h size other stray : Int) : List AV := [.q (due1 h size) n, .q (due2 h size) n, .q (due3 h size other) n, .q (due4 h size other stray) n]
noncomputable abbrev dueL (h size other stray : Int) : List Int := [due1 h size, due2 h size, due3 h size other, due4 h size other stray]
theorem law_18 (S : Static K cs mg mb) (W : Wd K cs mg mb h0) (L : LawEnv env) (LA : LawA A env) (G : Gl (tabs cs) env h0 mg mb) (C : Cols f g e size other stray)
    (X : At (tabs cs) (TT cs) h0 g0 o0 env (names22 h f c d0 d1 d2 dx dz dy dl zl yl size other stray) (lists12 h f g e cells kf t1 b1 t2 b2 dl a1 a2 c d0 d1 d2 dx dz dy zl yl) s)
    (k : ∀ td s', At (tabs cs) (TT cs) h0 g0 o0 env (("told", .ref td) :: names22 h f c d0 d1 d2 dx dz dy dl zl yl size other stray) ((td, .list (toldL (f.length - 1) h size other stray)) :: lists12 h f g e cells kf t1 b1 t2 b2 dl a1 a2 c d0 d1 d2 dx dz dy zl yl) s' → wpAny (model prog w) A (execs (dLaw.body.drop 19) env) Q E s') :
    wpAny (model prog w) A (execs (dLaw.body.drop 18) env) Q E s := by
  have hk : env.kindOf "covariance" = some .globalImplicit := (L.kind _).trans rfl
  have mx : (dx, HV.list ((xL h f).map AV.int)) ∈ lists12 h f g e cells kf t1 b1 t2 b2 dl a1 a2 c d0 d1 d2 dx dz dy zl yl := by first | exact mi 0 rfl | exact mi 1 rfl | exact mi 2 rfl | exact mi 3 rfl | exact mi 4 rfl | exact mi 5 rfl | exact mi 6 rfl | exact mi 7 rfl | exact mi 8 rfl | exact mi 9 rfl | exact mi 10 rfl | exact mi 11 rfl | exact mi 12 rfl | exact mi 13 rfl | exact mi 14 rfl | exact mi 15 rfl | exact mi 16 rfl | exact mi 17 rfl | exact mi 18 rfl | exact mi 19 rfl | exact mi 20 rfl | exact mi 21 rfl | exact mi 22 rfl
  have mz : (dz, HV.list ((zL h f g).map AV.int)) ∈ lists12 h f g e cells kf t1 b1 t2 b2 dl a1 a2 c d0 d1 d2 dx dz dy zl yl := by first | exact mi 0 rfl | exact mi 1 rfl | exact mi 2 rfl | exact mi 3 rfl | exact mi 4 rfl | exact mi 5 rfl | exact mi 6 rfl | exact mi 7 rfl | exact mi 8 rfl | exact mi 9 rfl | exact mi 10 rfl | exact mi 11 rfl | exact mi 12 rfl | exact mi 13 rfl | exact mi 14 rfl | exact mi 15 rfl | exact mi 16 rfl | exact mi 17 rfl | exact mi 18 rfl | exact mi 19 rfl | exact mi 20 rfl | exact mi 21 rfl | exact mi 22 rfl
  have my : (dy, HV.list ((yL h f g e).map AV.int)) ∈ lists12 h f g e cells kf t1 b1 t2 b2 dl a1 a2 c d0 d1 d2 dx dz dy zl yl := by first | exact mi 0 rfl | exact mi 1 rfl | exact mi 2 rfl | exact mi 3 rfl | exact mi 4 rfl | exact mi 5 rfl | exact mi 6 rfl | exact mi 7 rfl | exact mi 8 rfl | exact mi 9 rfl | exact mi 10 rfl | exact mi 11 rfl | exact mi 12 rfl | exact mi 13 rfl | exact mi 14 rfl | exact mi 15 rfl | exact mi 16 rfl | exact mi 17 rfl | exact mi 18 rfl | exact mi 19 rfl | exact mi 20 rfl | exact mi 21 rfl | exact mi 22 rfl
  have po : PinsOk cs (lists12 h f g e cells kf t1 b1 t2 b2 dl a1 a2 c d0 d1 d2 dx dz dy zl yl) := pinsOk_np lists12_np
  have e1 : dotN ((xL h f).map (· - digit h 1)) ((zL h f g).map (· - digit h 0)) (xL h f).length = due1 h size := by rw [cen_x, cen_z, (C.x h).len, dotN_dot' rfl, f_zc C.tri]; rfl
  have e2 : dotN ((yL h f g e).map (· - levelN h)) ((xL h f).map (· - digit h 1)) (yL h f g e).length = due2 h size := by rw [cen_x, cen_y, (C.y h).len, dotN_dot' (yc_len C.tri), yc_f C.tri]; rfl
  have e3 : dotN ((zL h f g).map (· - digit h 0)) ((yL h f g e).map (· - levelN h)) (zL h f g).length = due3 h size other := by rw [cen_z, cen_y, (C.z h).len, dotN_dot' (zc_len C.tri), zc_yc C.tri]; rfl
  have e4 : dotN ((yL h f g e).map (· - levelN h)) ((yL h f g e).map (· - levelN h)) (yL h f g e).length = due4 h size other stray := by rw [cen_y, (C.y h).len, dotN_dot' (yc_len C.tri), yc_yc C.tri]; rfl
  refine s_assignE (P := tabs cs) (T := TT cs) (h0 := h0) (g0 := g0) (o0 := o0) (L.lo rfl) (wpAny_List (spliced_more ?_ rfl))
  refine eval_cov S W G LA hk po X rfl (by decide) rfl (by decide) mx mz ((C.x h).line (C.z h) C.two) e1 fun v1 s₁ r1 X₁ => spliced_more ?_ rfl
  refine eval_cov S W G LA hk po X₁ rfl (by decide) rfl (by decide) my mx ((C.y h).line (C.x h) C.two) e2 fun v2 s₂ r2 X₂ => spliced_more ?_ rfl
  refine eval_cov S W G LA hk po X₂ rfl (by decide) rfl (by decide) mz my ((C.z h).line (C.y h) C.two) e3 fun v3 s₃ r3 X₃ => spliced_more ?_ rfl
  refine eval_cov S W G LA hk po X₃ rfl (by decide) rfl (by decide) my my ((C.y h).line (C.y h) C.two) e4 fun v4 s₄ r4 X₄ => spliced_nil ⟨(show 4 ≤ sizeLine by decide), ?_⟩
  rw [(C.x h).len] at r1
  rw [(C.y h).len] at r2 r4
  rw [(C.z h).len] at r3
  have X₅ := (X₄.push (tk := s₄.toks) (.cons r1 (.cons r2 (.cons r3 (.cons r4 .nil))))).unacc
  exact ⟨_, _, _, .ref s₄.heap.objs.size, X₅, fun s' X' => k _ s' X'⟩
theorem sq_dig {a : Int} {B : Nat} (h : a.natAbs ≤ B) (hB : B ≤ 2 ^ 20) : a.natAbs < 2 ^ 60 := by omega
theorem law_19 (L : LawEnv env) (LA : LawA A env) (C : Cols f g e size other stray) {td : Addr}
    (X : At (tabs cs) (TT cs) h0 g0 o0 env (("told", .ref td) :: names22 h f c d0 d1 d2 dx dz dy dl zl yl size other stray) ls s)
    (k : ∀ du s', At (tabs cs) (TT cs) h0 g0 o0 env (("due", .ref du) :: ("told", .ref td) :: names22 h f c d0 d1 d2 dx dz dy dl zl yl size other stray) ((du, .list ((dueL h size other stray).map .int)) :: ls) s' → wpAny (model prog w) A (execs (dLaw.body.drop 20) env) Q E s') :
    wpAny (model prog w) A (execs (dLaw.body.drop 19) env) Q E s := by
  have d2 := dig_abs h 2
  have d4 := dig_abs h 4
  have st := steep_small h
  have m1 : (digit h 2 * steepN h).natAbs < 2 ^ 60 := by
    rw [Int.natAbs_mul]; exact Nat.lt_of_le_of_lt (Nat.mul_le_mul d2 st) (by decide)
  have m2 : (steepN h).natAbs < 2 ^ 60 := sq_dig st (by decide)
  have m3 : (steepN h ^ 2).natAbs < 2 ^ 60 := by
    rw [Int.natAbs_pow]; exact Nat.lt_of_le_of_lt (Nat.pow_le_pow_left st 2) (by decide)
  have m4 : (digit h 4 ^ 2).natAbs < 2 ^ 60 := by
    rw [Int.natAbs_pow]; exact Nat.lt_of_le_of_lt (Nat.pow_le_pow_left d4 2) (by decide)
  refine s_assignE (P := tabs cs) (T := TT cs) (h0 := h0) (g0 := g0) (o0 := o0) (L.lo rfl) (eval_list (avs := [.int (due1 h size), .int (due2 h size), .int (due3 h size other), .int (due4 h size other stray)]) X
    (.cons (.bin (.nm rfl) (.nm rfl) (op_mul (mul_dig _ _ _))) (.cons (.bin (.nm rfl) (.nm rfl) (op_mul (mulOk_l m2))) (.cons (.bin (.bin (.bin (.nm rfl) (.nm rfl) (op_mul (mul_dig _ _ _))) (.nm rfl) (op_mul (mulOk_l m1))) (.bin (.nm rfl) (.nm rfl) (op_mul (mul_dig _ _ _))) op_add)
      (.cons (.bin (.bin (.bin (.bin (.nm rfl) .int (op_sq m2)) (.nm rfl) (op_mul (mulOk_l m3))) (.bin (.bin (.nm rfl) .int (op_sq (sq_dig d4 (by decide)))) (.nm rfl) (op_mul (mulOk_l m4))) op_add) (.nm rfl) op_add) .nil rfl) rfl) rfl) rfl) (show 4 ≤ sizeLine by decide) fun D s₁ hD X₁ => ⟨_, _, _, .ref D, X₁, fun s' X' => k D s' X'.unacc⟩)
end
end Mine
end
section
set_option maxRecDepth 100000
set_option exponentiation.threshold 3000
namespace Mine
open PySem PySem.Float64 PySem.W PySem.Calls PyProof.Rows PySem.SeqAt
section
variable {prog : Program} {w : World} {A : Around} {E : Value → Shared → Prop} {s : Shared} {env : Env} {h0 : Heap} {g0 : Array GenState} {o0 : OsState} {ρ ρc : List (Str × AV)} {ls : List (Addr × HV)} {rest : List Stmt} {P : List Addr} {T : Heap → Prop} {mg mb : Str → Option Value} {cs : List (Addr × Addr)} {K : Frag}
theorem len_strict {p pos : Pos} {e : Expr} {a : Addr} {l : List AV} {Q : Value → Shared → Prop} (G : Gl P env h0 mg mb) (hk : env.kindOf "len" = some .globalImplicit) (hn : mg "len" = Option.none) (hv : mb "len" = some (.builtin "len"))
    (X : At P T h0 g0 o0 env ρ ls s) (he : Pur prog w A (At P T h0 g0 o0 env ρ ls) env e (.ref a)) {n : Int} (hl : (a, HV.list l) ∈ ls) (hln : (l.length : Int) = n) (hsz : n < 2 ^ 63) (k : ∀ t tk, 0 < tk → Q (.int n t) { s with toks := tk })
    (hst : starEach [e] env = (false, eval e env) :: starEach [] env := by rfl) :
    wpAny (model prog w) A (eval (.Call (.Name "len" p) [e] [] pos) env) Q E s := by
  refine wpAny_Call_NameR (Pur.blt G hk hn hv rfl s _ _ X fun f tk hf htk => ?_)
  apply hf.e0 rfl
  refine PyProof.Rows.callWith_builtin1 (PurL.cons he .nil hst _ _ _ _ X.toks fun vs tk' hvs htk' => ?_) hst rfl
  cases hvs with
  | cons h1 h2 =>
    apply h2.nilE; apply h1.e0 rfl
    obtain ⟨vals, hL, hR⟩ := X.lists a _ hl
    have e1 : (vals.toArray.size : Int) = n := by rw [List.size_toArray, hR.length, hln]
    refine call_len_list (s := { s with toks := tk' }) hL (by rw [e1]; exact hsz) ?_
    rw [e1]
    exact k _ _ (Nat.succ_pos _)

variable {Q : Flow → Shared → Prop} {c d0 d1 d2 dx dz dy dl a1 a2 zl yl td du : Addr} {cells f g e : List Int} {h size other stray t1 b1 t2 b2 : Int} {kf : Bool}
theorem mul_abs {a b : Int} {A B : Nat} (ha : a.natAbs ≤ A) (hb : b.natAbs ≤ B) : (a * b).natAbs ≤ A * B := by rw [Int.natAbs_mul]; exact Nat.mul_le_mul ha hb
theorem due_small (C : Cols f g e size other stray) : ∀ v ∈ dueL h size other stray, v.natAbs ≤ 2 ^ 53 := by
  have d2 := dig_abs h 2
  have d4 := dig_abs h 4
  have st := steep_small h
  have s1 : size.natAbs ≤ 280 := by have := C.s0; omega
  have s2 : other.natAbs ≤ 280 := by have := C.o0; omega
  have s3 : stray.natAbs ≤ 280 := by have := C.t0; omega
  intro v hv
  simp only [dueL, List.mem_cons, List.not_mem_nil, or_false] at hv
  rcases hv with rfl | rfl | rfl | rfl
  · have := mul_abs d2 s1; unfold due1; omega
  · have := mul_abs st s1; unfold due2; omega
  · have := mul_abs (mul_abs d2 st) s1
    have := mul_abs d4 s2
    unfold due3; omega
  · have := mul_abs (mul_abs st st) s1
    have := mul_abs (mul_abs d4 d4) s2
    unfold due4
    rw [Int.pow_succ, Int.pow_succ, Int.pow_zero, Int.one_mul, Int.pow_succ, Int.pow_succ, Int.pow_zero, Int.one_mul]
    omega
noncomputable abbrev names24 (h : Int) (f : List Int) (c d0 d1 d2 dx dz dy dl zl yl td du : Addr) (size other stray : Int) : List (Str × AV) := ("due", .ref du) :: ("told", .ref td) :: names22 h f c d0 d1 d2 dx dz dy dl zl yl size other stray
noncomputable abbrev lists14 (h : Int) (f g e cells : List Int) (k : Bool) (t1 b1 t2 b2 size other stray : Int) (dl a1 a2 c d0 d1 d2 dx dz dy zl yl td du : Addr) : List (Addr × HV) := (du, .list ((dueL h size other stray).map .int)) :: (td, .list (toldL (f.length - 1) h size other stray)) :: lists12 h f g e cells k t1 b1 t2 b2 dl a1 a2 c d0 d1 d2 dx dz dy zl yl
theorem lists14_np : ∀ a fp h', (a, HV.pin fp h') ∉ lists14 h f g e cells kf t1 b1 t2 b2 size other stray dl a1 a2 c d0 d1 d2 dx dz dy zl yl td du := np_of rfl
theorem law_20 (S : Static K cs mg mb) (W : Wd K cs mg mb h0) (L : LawEnv env) (LA : LawA A env) (G : Gl (tabs cs) env h0 mg mb) (C : Cols f g e size other stray) (hn : f.length = cells.length + 1)
    (X : At (tabs cs) (TT cs) h0 g0 o0 env (names24 h f c d0 d1 d2 dx dz dy dl zl yl td du size other stray) (lists14 h f g e cells kf t1 b1 t2 b2 size other stray dl a1 a2 c d0 d1 d2 dx dz dy zl yl td du) s)
    (k : ∀ s', At (tabs cs) (TT cs) h0 g0 o0 env (names24 h f c d0 d1 d2 dx dz dy dl zl yl td du size other stray) (lists14 h f g e cells kf t1 b1 t2 b2 size other stray dl a1 a2 c d0 d1 d2 dx dz dy zl yl td du) s' → wpAny (model prog w) A (execs (dLaw.body.drop 21) env) Q E s') :
    wpAny (model prog w) A (execs (dLaw.body.drop 20) env) Q E s := by
  have line : sizeLine = 2 ^ 24 := rfl
  have hi6 := C.hi
  have lo4 := C.lo
  have mt : (td, HV.list (toldL (f.length - 1) h size other stray)) ∈ lists14 h f g e cells kf t1 b1 t2 b2 size other stray dl a1 a2 c d0 d1 d2 dx dz dy zl yl td du := by first | exact mi 0 rfl | exact mi 1 rfl | exact mi 2 rfl | exact mi 3 rfl | exact mi 4 rfl | exact mi 5 rfl | exact mi 6 rfl | exact mi 7 rfl | exact mi 8 rfl | exact mi 9 rfl | exact mi 10 rfl | exact mi 11 rfl | exact mi 12 rfl | exact mi 13 rfl | exact mi 14 rfl | exact mi 15 rfl | exact mi 16 rfl | exact mi 17 rfl | exact mi 18 rfl | exact mi 19 rfl | exact mi 20 rfl | exact mi 21 rfl | exact mi 22 rfl
  have md : (du, HV.list ((dueL h size other stray).map .int)) ∈ lists14 h f g e cells kf t1 b1 t2 b2 size other stray dl a1 a2 c d0 d1 d2 dx dz dy zl yl td du := by first | exact mi 0 rfl | exact mi 1 rfl | exact mi 2 rfl | exact mi 3 rfl | exact mi 4 rfl | exact mi 5 rfl | exact mi 6 rfl | exact mi 7 rfl | exact mi 8 rfl | exact mi 9 rfl | exact mi 10 rfl | exact mi 11 rfl | exact mi 12 rfl | exact mi 13 rfl | exact mi 14 rfl | exact mi 15 rfl | exact mi 16 rfl | exact mi 17 rfl | exact mi 18 rfl | exact mi 19 rfl | exact mi 20 rfl | exact mi 21 rfl | exact mi 22 rfl
  refine wpAny_execs_cons (wpAny_If (isTrue_or (isTrue_ne (b := false) (Pur.nm (av := .ref td) rfl (by decide) _ _ _ X fun va tk hva _ => ?_))))
  apply hva.e0 rfl
  refine eval_compE (P := tabs cs) (T := TT cs) (h0 := h0) (g0 := g0) (o0 := o0) (ρ := names24 h f c d0 d1 d2 dx dz dy dl zl yl td du size other stray) (ls := lists14 h f g e cells kf t1 b1 t2 b2 size other stray dl a1 a2 c d0 d1 d2 dx dz dy zl yl td du) (ρc := [("cells", .ref c)]) (keep := fun _ => true) (n := ((dueL h size other stray).map AV.int).length) (av := fun i => ((dueL h size other stray).map AV.int).getD i .none) (bv := fun i => .qi ((dueL h size other stray).getD i 0) cells.length)
    lists14_np (by show 4 ≤ _; omega) (fun x hx => ?_) (by decide) rfl rfl (by decide) (fun p hp => ?_) (iterE_of (iter_list LA.hh X.toks (.nm rfl) md)) (fun s₁ X₁ => step_one fun Cc i s' a' fp hp l E' hi hfp Y => ?_) fun D s₂ hD X₂ => ?_
  · replace hx : (x, NameKind.free) ∈ [((".0" : Str), NameKind.local), ("whole", .local), ("len", .globalImplicit), ("cells", .free)] := hx
    simp at hx
    subst hx
    exact L.cell _ rfl
  · rw [List.mem_singleton.mp hp]
    exact ⟨rfl, (L.kind _).trans rfl, rfl⟩
  · have hi' : i < (dueL h size other stray).length := by rw [List.length_map] at hi; exact hi
    rw [int_getD hi'] at Y ⊢
    have mc : (c, HV.list (cells.map AV.int)) ∈ ((a', HV.acc l) :: (0, HV.pin fp hp) :: lists14 h f g e cells kf t1 b1 t2 b2 size other stray dl a1 a2 c d0 d1 d2 dx dz dy zl yl td du) := by first | exact mi 0 rfl | exact mi 1 rfl | exact mi 2 rfl | exact mi 3 rfl | exact mi 4 rfl | exact mi 5 rfl | exact mi 6 rfl | exact mi 7 rfl | exact mi 8 rfl | exact mi 9 rfl | exact mi 10 rfl | exact mi 11 rfl | exact mi 12 rfl | exact mi 13 rfl | exact mi 14 rfl | exact mi 15 rfl | exact mi 16 rfl | exact mi 17 rfl | exact mi 18 rfl | exact mi 19 rfl | exact mi 20 rfl | exact mi 21 rfl | exact mi 22 rfl
    have hv : ((dueL h size other stray).getD i 0).natAbs ≤ 2 ^ 53 := due_small C _ (by rw [List.getD_eq_getElem?_getD, List.getElem?_eq_getElem hi']; exact List.getElem_mem hi')
    refine wpAny_BinOp (Pur.nm (av := .int ((dueL h size other stray).getD i 0)) rfl (by decide) _ _ _ Y fun va tk1 hva _ => ?_)
    apply hva.e1 rfl; intro _
    refine len_strict (G.comp X₁) (kind_gi rfl) S.gf.len.1 S.gf.len.2 Y.toks (.nm rfl) mc (by rw [List.length_map]) (by omega) fun t tk2 ht => ?_
    exact div_qi LA.hh (by omega) hv ht fun v tk3 hv => ⟨hv, Y.toks⟩
  · have eAcc : accOf ((dueL h size other stray).map AV.int).length (fun _ => true) (fun i => AV.qi ((dueL h size other stray).getD i 0) cells.length) = [.qi (due1 h size) cells.length, .qi (due2 h size) cells.length, .qi (due3 h size other) cells.length, .qi (due4 h size other stray) cells.length] := by
      rw [accOf_all]; rfl
    rw [eAcc] at X₂
    have n0 : (f.length : Int) - 1 ≠ 0 := by omega
    have n1 : (cells.length : Int) ≠ 0 := by omega
    have nn : (f.length : Int) - 1 = cells.length := by omega
    have q : ∀ v : Int, EqV (.q v (f.length - 1)) (.qi v cells.length) := fun v => .qq n0 n1 (by rw [nn])
    refine ⟨rcne_lists (X₂.ll (List.mem_cons_of_mem _ mt)) (X₂.lists D _ List.mem_cons_self).av (.cons (q _) (.cons (q _) (.cons (q _) (.cons (q _) .nil)))) (S.nb (W.at S X₂)) (Nat.lt_of_succ_lt LA.units), ?_⟩
    rw [if_neg Bool.false_ne_true]
    have X₃ := X₂.weak (ρ' := names24 h f c d0 d1 d2 dx dz dy dl zl yl td du size other stray) (ls' := lists14 h f g e cells kf t1 b1 t2 b2 size other stray dl a1 a2 c d0 d1 d2 dx dz dy zl yl td du) (fun _ _ h => h) fun p hp => List.mem_cons_of_mem _ hp
    refine isTrue_or (isTrue_ne (b := false) (eval_compE (P := tabs cs) (T := TT cs) (h0 := h0) (g0 := g0) (o0 := o0) (ρ := names24 h f c d0 d1 d2 dx dz dy dl zl yl td du size other stray) (ls := lists14 h f g e cells kf t1 b1 t2 b2 size other stray dl a1 a2 c d0 d1 d2 dx dz dy zl yl td du) (ρc := []) (keep := fun _ => false) (n := (toldL (f.length - 1) h size other stray).length) (av := fun i => (toldL (f.length - 1) h size other stray).getD i .none) (bv := fun _ => .none)
      lists14_np (by show 4 ≤ _; omega) (fun x hx => ?_) (by decide) rfl rfl (by decide) (fun p hp => by cases hp) (iterE_of (iter_list LA.hh X₃ (.nm rfl) mt)) (fun s₁ X₁ => ?_) fun D' s₃ hD' X₄ => ?_))
    · replace hx : (x, NameKind.free) ∈ [((".0" : Str), NameKind.local), ("c", .local), ("type", .globalImplicit), ("float", .globalImplicit)] := hx
      simp at hx
    · intro Cc i s' a' fp hp l E' hi hfp Y
      have hq : ∃ m, (toldL (f.length - 1) h size other stray).getD i .none = .q m (f.length - 1) := by
        match i, hi with
        | 0, _ => exact ⟨_, rfl⟩
        | 1, _ => exact ⟨_, rfl⟩
        | 2, _ => exact ⟨_, rfl⟩
        | 3, _ => exact ⟨_, rfl⟩
        | i + 4, h => exact absurd h (by show ¬ i + 4 < 4; omega)
      obtain ⟨m, hq⟩ := hq
      have Y2 := Y
      dsimp only at Y2
      rw [hq] at Y2
      rw [List.forIn_cons]
      simp only [if_true]
      refine wpAny_bind (wpAny_bind (wpAny_isTrue_Compare1 (wpAny_Call_NameR (Pur.blt (G.comp X₁) (kind_gi rfl) S.gg.type.1 S.gg.type.2 rfl s' _ _ Y2 fun ff tk hff _ => ?_))))
      apply hff.e0 rfl
      refine PyProof.Rows.callWith_type1 (spliced_more (Pur.nm (av := .q m (f.length - 1)) rfl (by decide) _ _ _ Y2.toks fun v tk1 hv _ => spliced_nil ?_) rfl) rfl rfl
      obtain ⟨fb, ft, rfl⟩ := flv_q v hv
      refine call_type_of (Tx := "float") rfl rfl ?_
      refine Pur.blt (G.comp X₁) (kind_gi rfl) S.float.1 S.float.2 rfl _ _ _ Y2.toks fun ff tk' hff _ => ?_
      apply hff.e0 rfl
      refine isnot_type_same (wpAny_truthy_bool (wpAny_pure ?_))
      dsimp only
      rw [List.forIn_nil]
      exact wpAny_pure ⟨rfl, Y.toks, fun q => by cases q⟩
    · have e0 : accOf (toldL (f.length - 1) h size other stray).length (fun _ => false) (fun _ => AV.none) = [] := by
        unfold accOf
        rw [List.filter_eq_nil_iff.mpr (fun _ _ => Bool.false_ne_true)]; rfl
      rw [e0] at X₄
      refine eval_list X₄ .nil (by decide) fun D'' s₄ _ X₅ => ?_
      refine ⟨rcne_lists (X₅.lists D' _ (List.mem_cons_of_mem _ List.mem_cons_self)).av (X₅.lists D'' _ List.mem_cons_self).av .nil (S.nb (W.at S X₅)) (Nat.lt_of_succ_lt LA.units), ?_⟩
      rw [if_neg Bool.false_ne_true]
      refine isTrue_or_nil ?_
      rw [if_neg Bool.false_ne_true]
      exact s_nil (k _ (X₅.weak (fun _ _ h => h) fun p hp => List.mem_cons_of_mem _ (List.mem_cons_of_mem _ hp)))
end
end Mine
end
section
set_option maxRecDepth 100000
set_option exponentiation.threshold 3000
namespace Mine
open PySem PySem.Float64 PySem.W PySem.Calls PyProof.Rows PySem.SeqAt
section
variable {prog : Program} {w : World} {A : Around} {E : Value → Shared → Prop} {s : Shared} {env : Env} {h0 : Heap} {g0 : Array GenState} {o0 : OsState} {ρ ρc : List (Str × AV)} {ls : List (Addr × HV)} {rest : List Stmt} {P : List Addr} {T : Heap → Prop} {mg mb : Str → Option Value} {cs : List (Addr × Addr)} {K : Frag}
theorem rcne_ff {a b : UInt64} {t u : Tok} (h : cmp a b = some .eq) : RcNeAt A s (.float a t) (.float b u) false := fun prog w E Q hq => by
  refine AutoFloatOps.ne_0 (prog := prog) (w := w) ?_
  rw [h]; exact hq
theorem rceq_ff {a b : UInt64} {t u : Tok} (h : cmp a b = some .eq) : RcAt A s (.float a t) (.float b u) true := fun prog w E Q hq => by
  refine AutoFloatOps.eq_0 (prog := prog) (w := w) ?_
  rw [h]; exact hq
theorem eval_tie {Q : Value → Shared → Prop} {p pos : Pos} {e1 e2 : Expr} {a b : Addr} {l1 l2 : List AV} (S : Static K cs mg mb) (W : Wd K cs mg mb h0) (G : Gl (tabs cs) env h0 mg mb) (LA : LawA A env) (hk : env.kindOf "_law_tie" = some .globalImplicit)
    (X : At (tabs cs) (TT cs) h0 g0 o0 env ρ ls s) (c1 : Pur prog w A (At (tabs cs) (TT cs) h0 g0 o0 env ρ ls) env e1 (.ref a)) (c2 : Pur prog w A (At (tabs cs) (TT cs) h0 g0 o0 env ρ ls) env e2 (.ref b)) (h1 : (a, HV.list l1) ∈ ls) (h2 : (b, HV.list l2) ∈ ls)
    (call : ∀ s' vs, At (tabs cs) (TT cs) h0 g0 o0 env ρ ls s' → Wd K cs mg mb s'.heap → Chain (tabs cs) s'.heap [env] → IsAV s'.heap a l1 → IsAV s'.heap b l2 → Reps [.ref a, .ref b] vs → wpAny (model prog w) A (PySem.call (.ref 446) vs) Q E s')
    (hst : starEach [e1, e2] env = (false, eval e1 env) :: starEach [e2] env := by rfl) (hst' : starEach [e2] env = (false, eval e2 env) :: starEach [] env := by rfl) :
    wpAny (model prog w) A (eval (.Call (.Name "_law_tie" p) [e1, e2] [] pos) env) Q E s := by
  refine (S.tie.2.at (W.at S X).k).elim fun o' pm cd doc ho' hd hcd => ?_
  refine eval_call G hk S.tie.1 (by decide) X ho' hd (.cons c1 (.cons c2 .nil hst') hst) (fun vs tk hvs => ?_) hst
  have X' := X.toks (tk := tk)
  exact call _ vs X' (W.at S X') (LA.chain X') (X'.lists a _ h1) (X'.lists b _ h2) hvs

variable {Q : Flow → Shared → Prop} {c d0 d1 d2 dx dz dy dl a1 a2 zl yl td du : Addr} {cells f g e : List Int} {h size other stray t1 b1 t2 b2 : Int} {kf : Bool}
/-- _law_tie(z_left, noise) != (None if other * stray == 0 else 0.0) -/
theorem tie_test {Q : Bool → Shared → Prop} {p1 p2 p3 p4 p5 p6 p7 p8 p9 p10 p11 p12 p13 : Pos} {k1 k2 k3 : Nat} {whole : Sem Value} (S : Static K cs mg mb) (W : Wd K cs mg mb h0) (L : LawEnv env) (LA : LawA A env) (G : Gl (tabs cs) env h0 mg mb) (C : Cols f g e size other stray)
    (X : At (tabs cs) (TT cs) h0 g0 o0 env (names24 h f c d0 d1 d2 dx dz dy dl zl yl td du size other stray) (lists14 h f g e cells kf t1 b1 t2 b2 size other stray dl a1 a2 c d0 d1 d2 dx dz dy zl yl td du) s)
    (k : ∀ s', At (tabs cs) (TT cs) h0 g0 o0 env (names24 h f c d0 d1 d2 dx dz dy dl zl yl td du size other stray) (lists14 h f g e cells kf t1 b1 t2 b2 size other stray dl a1 a2 c d0 d1 d2 dx dz dy zl yl td du) s' → Q false s') :
    wpAny (model prog w) A (isTrue (.Compare (.Call (.Name "_law_tie" p1) [.Name "z_left" p2, .Name "noise" p3] [] p4) [.NotEq] [.IfExp (.Compare (.BinOp (.Name "other" p5) .Mult (.Name "stray" p6) p7) [.Eq] [.Constant (.int 0) k1 p8] p9) (.Constant .none k2 p10) (.Constant (.float 0) k3 p11) p12] p13) env whole) Q E s := by
  have mz : (zl, HV.list (nums kf g)) ∈ lists14 h f g e cells kf t1 b1 t2 b2 size other stray dl a1 a2 c d0 d1 d2 dx dz dy zl yl td du := by first | exact mi 0 rfl | exact mi 1 rfl | exact mi 2 rfl | exact mi 3 rfl | exact mi 4 rfl | exact mi 5 rfl | exact mi 6 rfl | exact mi 7 rfl | exact mi 8 rfl | exact mi 9 rfl | exact mi 10 rfl | exact mi 11 rfl | exact mi 12 rfl | exact mi 13 rfl | exact mi 14 rfl | exact mi 15 rfl | exact mi 16 rfl | exact mi 17 rfl | exact mi 18 rfl | exact mi 19 rfl | exact mi 20 rfl | exact mi 21 rfl | exact mi 22 rfl
  have me : (d2, HV.list (nums false e)) ∈ lists14 h f g e cells kf t1 b1 t2 b2 size other stray dl a1 a2 c d0 d1 d2 dx dz dy zl yl td du := by
    show (d2, HV.list (e.map AV.int)) ∈ _
    simp [lists14, lists12, lists10, lists7]
  have po : PinsOk cs (lists14 h f g e cells kf t1 b1 t2 b2 size other stray dl a1 a2 c d0 d1 d2 dx dz dy zl yl td du) := pinsOk_np lists14_np
  have gg : dotN (g.map (· - 0)) (g.map (· - 0)) g.length = other := by rw [cen_0, dotN_dot, C.tri.gg]
  have ee : dotN (e.map (· - 0)) (e.map (· - 0)) g.length = stray := by rw [cen_0, dotN_dot' (by rw [C.e0.len, C.g0.len]), C.tri.ee]
  have ge : dotN (g.map (· - 0)) (e.map (· - 0)) g.length = 0 := by rw [cen_0, cen_0, dotN_dot, C.tri.ge]
  have ok := C.g0.line C.e0 C.two
  have o1 := C.o0
  have s1 := C.t0
  have ob : other.natAbs < 2 ^ 60 := by omega
  by_cases hz : other * stray = 0
  · refine isTrue_ne (b := false) (eval_tie S W G LA ((L.kind _).trans rfl) X (.nm rfl) (.nm rfl) mz me fun s' vs X' W' ch l1 l2 hvs => ?_)
    refine call_tie0 S W' LA.hh (by have := LA.room; omega) LA.frames ch l1 l2 hvs ok (by rw [gg, ee, hz]) fun s₁ af => ?_
    have X₁ := X'.call af po
    refine wpAny_IfExp ((show Tst prog w A (At (tabs cs) (TT cs) h0 g0 o0 env _ _) env _ (other * stray == 0) from .cmp (.bin (.nm rfl) (.nm rfl) (op_mul (mulOk_l ob))) .int op_eq) s₁ _ _ X₁ fun tk _ => ?_)
    rw [show (other * stray == 0) = true from beq_iff_eq.mpr hz]
    refine Pur.none _ _ _ X₁.toks fun v tk' hv _ => ?_
    apply hv.e0 rfl
    exact ⟨RcNeAt.none_none, k _ ((X₁.toks (tk := tk)).toks (tk := tk'))⟩
  · have p1 : 1 ≤ other * stray := by
      have := Int.mul_nonneg o1.1 s1.1
      omega
    have p2 : other * stray ≤ 80000 := by
      have := Int.mul_le_mul o1.2 s1.2 s1.1 (by decide)
      omega
    refine isTrue_ne (b := false) (eval_tie S W G LA ((L.kind _).trans rfl) X (.nm rfl) (.nm rfl) mz me fun s' vs X' W' ch l1 l2 hvs => ?_)
    refine call_tie (res := .fl 0) S W' LA.hh (by have := LA.room; omega) l1 l2 hvs ok flv_fl (fun x y z hx hy hzz => ?_) fun v s₁ hv af => ?_
    · rw [gg] at hx
      rw [ee] at hy
      rw [ge] at hzz
      exact tie_zero p1 p2 x y z hx hy hzz
    · have X₁ := X'.call af po
      cases hv with | fl _ b t hb =>
      refine wpAny_IfExp ((show Tst prog w A (At (tabs cs) (TT cs) h0 g0 o0 env _ _) env _ (other * stray == 0) from .cmp (.bin (.nm rfl) (.nm rfl) (op_mul (mulOk_l ob))) .int op_eq) s₁ _ _ X₁ fun tk _ => ?_)
      rw [show (other * stray == 0) = false from beq_eq_false_iff_ne.mpr hz]
      refine Pur.fzero _ _ _ X₁.toks fun v tk' hv _ => ?_
      cases hv with | fl _ b' t' hb' =>
      exact ⟨rcne_ff (by rw [isF_cmp hb hb']; rfl), k _ ((X₁.toks (tk := tk)).toks (tk := tk'))⟩
end
end Mine
end
section
set_option maxRecDepth 100000
set_option exponentiation.threshold 3000
namespace Mine
open PySem PySem.Float64 PySem.W PySem.Calls PyProof.Rows PySem.SeqAt
noncomputable def tripOf (h : Int) : Int × Int × Int := match (h.fmod 4).toNat with
  | 0 => (1, 0, 1)
  | 1 => (3, 4, 5)
  | 2 => (5, 12, 13)
  | _ => (8, 15, 17)
section
variable {prog : Program} {w : World} {A : Around} {E : Value → Shared → Prop} {s : Shared} {env : Env} {h0 : Heap} {g0 : Array GenState} {o0 : OsState} {ρ ρc : List (Str × AV)} {ls : List (Addr × HV)} {rest : List Stmt} {P : List Addr} {T : Heap → Prop} {mg mb : Str → Option Value} {cs : List (Addr × Addr)} {K : Frag}
theorem tup_keep {h h' : Heap} {t : Addr} {vs : Array Value} (x : h.IsTuple t vs) (k : ∀ b o, h.get? b = some o → h'.get? b = some o) : h'.IsTuple t vs := by
  obtain ⟨o, ho, r⟩ := x
  exact ⟨o, k _ _ ho, r⟩
theorem star_tuple {elts : List Expr} {k : Nat} {pos : Pos} {rest : List Expr} {env : Env} : starEach (.Tuple elts k pos :: rest) env = (false, eval (.Tuple elts k pos) env) :: starEach rest env := by rfl
/-- an expression that gives a tuple of its own -/
noncomputable def TupE (prog : Program) (w : World) (A : Around) (P : List Addr) (T : Heap → Prop) (h0 : Heap) (g0 : Array GenState) (o0 : OsState) (env : Env) (ρ : List (Str × AV)) (ls : List (Addr × HV)) (e : Expr) (avs : List AV) : Prop :=
  ∀ (s : Shared) (Q : Value → Shared → Prop) (E : Value → Shared → Prop), At P T h0 g0 o0 env ρ ls s → (∀ a vs s', At P T h0 g0 o0 env ρ ls s' → Reps avs vs → s'.heap.IsTuple a vs.toArray → (∀ b o, s.heap.get? b = some o → s'.heap.get? b = some o) → Q (.ref a) s') → wpAny (model prog w) A (eval e env) Q E s
theorem tupE [TabKeep T] {a b c : Int} {ka kb kc n : Nat} {pa pb pc q : Pos} : TupE prog w A P T h0 g0 o0 env ρ ls (.Tuple [.Constant (.int a) ka pa, .Constant (.int b) kb pb, .Constant (.int c) kc pc] n q) [.int a, .int b, .int c] :=
  fun _ _ _ X k => eval_tupleL X (.cons .int (.cons .int (.cons .int .nil rfl) rfl) rfl) (show 3 ≤ 100 by decide) k
/-- [t0, t1, t2, t3][head % 4] -/
theorem eval_trip [TabKeep T] {Q : Value → Shared → Prop} {h : Int} {e0 e1 e2 e3 : Expr} {l0 l1 l2 l3 : List AV} {k13 : Nat} {p13 q5 q6 q7 q8 : Pos}
    (X : At P T h0 g0 o0 env ρ ls s) (hh : ρ.lookup ("head" : Str) = some (.int h)) (E0 : TupE prog w A P T h0 g0 o0 env ρ ls e0 l0) (E1 : TupE prog w A P T h0 g0 o0 env ρ ls e1 l1) (E2 : TupE prog w A P T h0 g0 o0 env ρ ls e2 l2) (E3 : TupE prog w A P T h0 g0 o0 env ρ ls e3 l3)
    (z0 : starEach [e0, e1, e2, e3] env = (false, eval e0 env) :: starEach [e1, e2, e3] env) (z1 : starEach [e1, e2, e3] env = (false, eval e1 env) :: starEach [e2, e3] env) (z2 : starEach [e2, e3] env = (false, eval e2 env) :: starEach [e3] env) (z3 : starEach [e3] env = (false, eval e3 env) :: starEach [] env)
    (k : ∀ t vals s', At P T h0 g0 o0 env ρ ls s' → IsTup s'.heap t vals.toArray → (h.fmod 4 = 0 → Reps l0 vals) → (h.fmod 4 = 1 → Reps l1 vals) → (h.fmod 4 = 2 → Reps l2 vals) → (h.fmod 4 = 3 → Reps l3 vals) → Q (.ref t) s') :
    wpAny (model prog w) A (eval (.Subscript (.List [e0, e1, e2, e3] q5) (.BinOp (.Name "head" q6) .Mod (.Constant (.int 4) k13 p13) q7) q8) env) Q E s := by
  refine Subscript_ (wpAny_List (spliced_more (E0 _ _ _ X fun t0 v0 s₁ X₁ r0 T0 _ => spliced_more (E1 _ _ _ X₁ fun t1 v1 s₂ X₂ r1 T1 u1 => spliced_more (E2 _ _ _ X₂ fun t2 v2 s₃ X₃ r2 T2 u2 =>
    spliced_more (E3 _ _ _ X₃ fun t3 v3 s₄ X₄ r3 T3 u3 => spliced_nil ⟨(show 4 ≤ sizeLine by decide), ?_⟩) z3) z2) z1) z0))
  have X₅ := (X₄.push (tk := s₄.toks) (.cons (.ref t0) (.cons (.ref t1) (.cons (.ref t2) (.cons (.ref t3) .nil))))).unacc
  have up : ∀ b o, s₄.heap.get? b = some o → (s₄.heap.push { cls := .type "list", data := .seq [Value.ref t0, .ref t1, .ref t2, .ref t3].toArray }).get? b = some o := fun b o e => Heap.get?_push_of_some _ e
  have hL : (s₄.heap.push { cls := .type "list", data := .seq [Value.ref t0, .ref t1, .ref t2, .ref t3].toArray }).IsList s₄.heap.objs.size [Value.ref t0, .ref t1, .ref t2, .ref t3].toArray := ⟨_, Heap.get?_push_size _ rfl, rfl, _, rfl⟩
  have h4 := Int.fmod_nonneg_of_pos h (show (0 : Int) < 4 by decide)
  have h5 := Int.fmod_lt_of_pos h (show (0 : Int) < 4 by decide)
  have X₆ := X₅.weak (ρ' := ρ) (ls' := ls) (fun _ _ h => h) fun p hp => List.mem_cons_of_mem _ hp
  have fin : ∀ (value slice : Expr) (j : Int) (t : Addr) (vals : List Value) (tk : Nat) (u : Tok), subscripted slice false (.ref s₄.heap.objs.size) (.int j u) = operate [.ref s₄.heap.objs.size, .int j u] (getItem (.ref s₄.heap.objs.size) (.int j u)) → h.fmod 4 = j → 0 ≤ j → j < 4 → [Value.ref t0, .ref t1, .ref t2, .ref t3].toArray[j.toNat]? = some (.ref t) → IsTup (s₄.heap.push { cls := .type "list", data := .seq [Value.ref t0, .ref t1, .ref t2, .ref t3].toArray }) t vals.toArray →
      ((h.fmod 4 = 0 → Reps l0 vals) ∧ (h.fmod 4 = 1 → Reps l1 vals) ∧ (h.fmod 4 = 2 → Reps l2 vals) ∧ (h.fmod 4 = 3 → Reps l3 vals)) →
      wpAny (model prog w) A (subscriptTail value slice (.ref s₄.heap.objs.size) (.int j u)) Q E { s₄ with heap := s₄.heap.push { cls := .type "list", data := .seq [Value.ref t0, .ref t1, .ref t2, .ref t3].toArray }, toks := tk } := by
    intro value slice j t vals tk u hs hj j0 j4 hx hT hr
    refine tail_any (T := "list") (id := "list.__getitem__") (Heap.IsList.typeIs (s := { s₄ with heap := s₄.heap.push { cls := .type "list", data := .seq [Value.ref t0, .ref t1, .ref t2, .ref t3].toArray }, toks := tk }) hL) slot_list_getitem.lookup (wpAny_getItem_list hL j0 (by omega) hx ?_) hs
    exact k t vals _ (X₆.toks (tk := tk)) hT hr.1 hr.2.1 hr.2.2.1 hr.2.2.2
  have sbs : ∀ (j : Int) (u : Tok), subscripted (.BinOp (.Name "head" q6) .Mod (.Constant (.int 4) k13 p13) q7) false (.ref s₄.heap.objs.size) (.int j u) = operate [.ref s₄.heap.objs.size, .int j u] (getItem (.ref s₄.heap.objs.size) (.int j u)) := fun j u => by with_unfolding_all rfl
  refine wpAny_BinOp (Pur.nm hh (by decide) _ _ _ X₅ fun va tk hva _ => wpAny_Constant_int ?_)
  apply hva.e1 rfl; intro _
  refine mod_int (by decide) ?_
  have hcase : h.fmod 4 = 0 ∨ h.fmod 4 = 1 ∨ h.fmod 4 = 2 ∨ h.fmod 4 = 3 := by omega
  rcases hcase with q | q | q | q
  · rw [q]; exact fin _ _ 0 t0 v0 _ _ (sbs _ _) q (by decide) (by decide) rfl (tup_keep (tup_keep (tup_keep (tup_keep T0 u1) u2) u3) up) ⟨fun _ => r0, fun z => by omega, fun z => by omega, fun z => by omega⟩
  · rw [q]; exact fin _ _ 1 t1 v1 _ _ (sbs _ _) q (by decide) (by decide) rfl (tup_keep (tup_keep (tup_keep T1 u2) u3) up) ⟨fun z => by omega, fun _ => r1, fun z => by omega, fun z => by omega⟩
  · rw [q]; exact fin _ _ 2 t2 v2 _ _ (sbs _ _) q (by decide) (by decide) rfl (tup_keep (tup_keep T2 u3) up) ⟨fun z => by omega, fun z => by omega, fun _ => r2, fun z => by omega⟩
  · rw [q]; exact fin _ _ 3 t3 v3 _ _ (sbs _ _) q (by decide) (by decide) rfl (tup_keep T3 up) ⟨fun z => by omega, fun z => by omega, fun z => by omega, fun _ => r3⟩
end
end Mine
end
section
set_option maxRecDepth 100000
set_option exponentiation.threshold 3000
namespace Mine
open PySem PySem.Float64 PySem.W PySem.Calls PyProof.Rows PySem.SeqAt
@[irreducible] noncomputable def R22 : List Stmt := dLaw.body.drop 22
@[irreducible] noncomputable def R23 : List Stmt := dLaw.body.drop 23
noncomputable def IsTupC (e : Expr) (a b c : Int) : Prop := ∃ ka kb kc n pa pb pc q, e = .Tuple [.Constant (.int a) ka pa, .Constant (.int b) kb pb, .Constant (.int c) kc pc] n q
theorem R22_ex : ∃ (p1 p2 p3 : Pos) (ek : Nat) (tp pos q5 q6 : Pos) (k13 : Nat) (p13 q7 q8 : Pos) (e0 e1 e2 e3 : Expr), R22 = .Assign [.Tuple [.Name "near" p1, .Name "far" p2, .Name "span" p3] ek tp] (.Subscript (.List [e0, e1, e2, e3] q5) (.BinOp (.Name "head" q6) .Mod (.Constant (.int 4) k13 p13) q7) q8) pos :: R23 ∧
    IsTupC e0 1 0 1 ∧ IsTupC e1 3 4 5 ∧ IsTupC e2 5 12 13 ∧ IsTupC e3 8 15 17 := by
  unfold R22 R23
  exact ⟨_, _, _, _, _, _, _, _, _, _, _, _, _, _, _, _, rfl, ⟨_, _, _, _, _, _, _, _, rfl⟩, ⟨_, _, _, _, _, _, _, _, rfl⟩, ⟨_, _, _, _, _, _, _, _, rfl⟩, ⟨_, _, _, _, _, _, _, _, rfl⟩⟩
noncomputable def st21 : Stmt := dLaw.body[21]'(by decide +kernel)
theorem drop21 : dLaw.body.drop 21 = st21 :: R22 := by unfold R22 st21; rfl
section
variable {prog : Program} {w : World} {A : Around} {E : Value → Shared → Prop} {s : Shared} {env : Env} {h0 : Heap} {g0 : Array GenState} {o0 : OsState} {ρ ρc : List (Str × AV)} {ls : List (Addr × HV)} {rest : List Stmt} {P : List Addr} {T : Heap → Prop} {mg mb : Str → Option Value} {cs : List (Addr × Addr)} {K : Frag}
variable {Q : Flow → Shared → Prop} {c d0 d1 d2 dx dz dy dl a1 a2 zl yl td du : Addr} {cells f g e : List Int} {h size other stray t1 b1 t2 b2 : Int} {kf : Bool}
noncomputable abbrev names27 (h : Int) (f : List Int) (c d0 d1 d2 dx dz dy dl zl yl td du : Addr) (size other stray : Int) : List (Str × AV) := ("span", .int (tripOf h).2.2) :: ("far", .int (tripOf h).2.1) :: ("near", .int (tripOf h).1) :: names24 h f c d0 d1 d2 dx dz dy dl zl yl td du size other stray
theorem trip_reps {h : Int} {vals : List Value} (r0 : h.fmod 4 = 0 → Reps [.int 1, .int 0, .int 1] vals) (r1 : h.fmod 4 = 1 → Reps [.int 3, .int 4, .int 5] vals) (r2 : h.fmod 4 = 2 → Reps [.int 5, .int 12, .int 13] vals) (r3 : h.fmod 4 = 3 → Reps [.int 8, .int 15, .int 17] vals) :
    Reps [.int (tripOf h).1, .int (tripOf h).2.1, .int (tripOf h).2.2] vals := by
  have h4 := Int.fmod_nonneg_of_pos h (show (0 : Int) < 4 by decide)
  have h5 := Int.fmod_lt_of_pos h (show (0 : Int) < 4 by decide)
  have hcase : h.fmod 4 = 0 ∨ h.fmod 4 = 1 ∨ h.fmod 4 = 2 ∨ h.fmod 4 = 3 := by omega
  unfold tripOf
  rcases hcase with q | q | q | q
  · rw [q]; exact r0 q
  · rw [q]; exact r1 q
  · rw [q]; exact r2 q
  · rw [q]; exact r3 q
theorem IsTupC.tup [TabKeep T] {e : Expr} {a b c : Int} (x : IsTupC e a b c) : TupE prog w A P T h0 g0 o0 env ρ ls e [.int a, .int b, .int c] := by
  obtain ⟨_, _, _, _, _, _, _, _, rfl⟩ := x
  exact tupE
theorem IsTupC.star {e : Expr} {a b c : Int} {rest : List Expr} (x : IsTupC e a b c) : starEach (e :: rest) env = (false, eval e env) :: starEach rest env := by
  obtain ⟨_, _, _, _, _, _, _, _, rfl⟩ := x
  exact star_tuple
theorem law_21 (S : Static K cs mg mb) (W : Wd K cs mg mb h0) (L : LawEnv env) (LA : LawA A env) (G : Gl (tabs cs) env h0 mg mb) (C : Cols f g e size other stray)
    (X : At (tabs cs) (TT cs) h0 g0 o0 env (names24 h f c d0 d1 d2 dx dz dy dl zl yl td du size other stray) (lists14 h f g e cells kf t1 b1 t2 b2 size other stray dl a1 a2 c d0 d1 d2 dx dz dy zl yl td du) s)
    (k : ∀ s', At (tabs cs) (TT cs) h0 g0 o0 env (names24 h f c d0 d1 d2 dx dz dy dl zl yl td du size other stray) (lists14 h f g e cells kf t1 b1 t2 b2 size other stray dl a1 a2 c d0 d1 d2 dx dz dy zl yl td du) s' → wpAny (model prog w) A (execs R22 env) Q E s') :
    wpAny (model prog w) A (execs (dLaw.body.drop 21) env) Q E s := by
  rw [drop21]
  refine wpAny_execs_cons (wpAny_If (tie_test S W L LA G C X fun s₁ X₁ => ?_))
  rw [if_neg Bool.false_ne_true]
  exact s_nil (k s₁ X₁)
theorem law_22 (L : LawEnv env) (LA : LawA A env)
    (X : At (tabs cs) (TT cs) h0 g0 o0 env (names24 h f c d0 d1 d2 dx dz dy dl zl yl td du size other stray) ls s)
    (k : ∀ s', At (tabs cs) (TT cs) h0 g0 o0 env (names27 h f c d0 d1 d2 dx dz dy dl zl yl td du size other stray) ls s' → wpAny (model prog w) A (execs R23 env) Q E s') :
    wpAny (model prog w) A (execs R22 env) Q E s := by
  obtain ⟨p1, p2, p3, ek, tp, pos, q5, q6, k13, p13, q7, q8, e0, e1, e2, e3, hR, c0, c1, c2, c3⟩ := R22_ex
  rw [hR]
  refine s_unpackT (P := tabs cs) (T := TT cs) (h0 := h0) (g0 := g0) (o0 := o0) (ρ' := names24 h f c d0 d1 d2 dx dz dy dl zl yl td du size other stray) (ls' := ls) (xs := ["near", "far", "span"]) (avs := [.int (tripOf h).1, .int (tripOf h).2.1, .int (tripOf h).2.2]) LA.hh rfl (.cons (L.st rfl) (.cons (L.st rfl) (.cons (L.lo rfl) .nil))) rfl ?_ (fun s' X' => k s' X') rfl rfl
  exact eval_trip X rfl c0.tup c1.tup c2.tup c3.tup c0.star c1.star c2.star c3.star fun t vals s' X' hT r0 r1 r2 r3 => ⟨t, vals, rfl, X', hT, trip_reps r0 r1 r2 r3⟩
end
end Mine
end
section
set_option maxRecDepth 100000
set_option exponentiation.threshold 3000
namespace Mine
open PySem PySem.Float64 PySem.W PySem.Calls PyProof.Rows PySem.SeqAt
theorem R23_eq : R23 = dLaw.body.drop 23 := by unfold R23; rfl
theorem trip_small (h : Int) : (tripOf h).1.natAbs ≤ 8 ∧ (tripOf h).2.1.natAbs ≤ 15 ∧ (tripOf h).2.2.natAbs ≤ 17 ∧ 1 ≤ (tripOf h).1 ∧ 1 ≤ (tripOf h).2.2 ∧ (tripOf h).1 * (tripOf h).1 + (tripOf h).2.1 * (tripOf h).2.1 = (tripOf h).2.2 * (tripOf h).2.2 := by
  unfold tripOf
  split <;> decide
/-- half of the legs -/
noncomputable def halfL (h : Int) (f : List Int) (r : Int) : List Int := f.map fun v => digit h 4 * r * v - digit h 0
section
variable {prog : Program} {w : World} {A : Around} {E : Value → Shared → Prop} {s : Shared} {env : Env} {h0 : Heap} {g0 : Array GenState} {o0 : OsState} {ρ ρc : List (Str × AV)} {ls : List (Addr × HV)} {rest : List Stmt} {P : List Addr} {T : Heap → Prop} {mg mb : Str → Option Value} {cs : List (Addr × Addr)} {K : Frag}
variable {Q : Flow → Shared → Prop} {c d0 d1 d2 dx dz dy dl a1 a2 zl yl td du lg : Addr} {cells f g e : List Int} {h size other stray t1 b1 t2 b2 : Int} {kf : Bool}
noncomputable abbrev lists15 (h : Int) (f g e cells : List Int) (k : Bool) (t1 b1 t2 b2 size other stray : Int) (dl a1 a2 c d0 d1 d2 dx dz dy zl yl td du lg : Addr) : List (Addr × HV) := (lg, .list ((halfL h f (tripOf h).1 ++ halfL h f (tripOf h).2.1).map .int)) :: lists14 h f g e cells k t1 b1 t2 b2 size other stray dl a1 a2 c d0 d1 d2 dx dz dy zl yl td du
theorem law_23 (L : LawEnv env) (LA : LawA A env) (C : Cols f g e size other stray)
    (X : At (tabs cs) (TT cs) h0 g0 o0 env (names27 h f c d0 d1 d2 dx dz dy dl zl yl td du size other stray) (lists14 h f g e cells kf t1 b1 t2 b2 size other stray dl a1 a2 c d0 d1 d2 dx dz dy zl yl td du) s)
    (k : ∀ lg s', At (tabs cs) (TT cs) h0 g0 o0 env (("legs", .ref lg) :: names27 h f c d0 d1 d2 dx dz dy dl zl yl td du size other stray) (lists15 h f g e cells kf t1 b1 t2 b2 size other stray dl a1 a2 c d0 d1 d2 dx dz dy zl yl td du lg) s' → wpAny (model prog w) A (execs (dLaw.body.drop 24) env) Q E s') :
    wpAny (model prog w) A (execs R23 env) Q E s := by
  rw [R23_eq]
  have line : sizeLine = 2 ^ 24 := rfl
  have hi6 := C.hi
  have mf : (d0, HV.list (f.map AV.int)) ∈ lists14 h f g e cells kf t1 b1 t2 b2 size other stray dl a1 a2 c d0 d1 d2 dx dz dy zl yl td du := by first | exact mi 0 rfl | exact mi 1 rfl | exact mi 2 rfl | exact mi 3 rfl | exact mi 4 rfl | exact mi 5 rfl | exact mi 6 rfl | exact mi 7 rfl | exact mi 8 rfl | exact mi 9 rfl | exact mi 10 rfl | exact mi 11 rfl | exact mi 12 rfl | exact mi 13 rfl | exact mi 14 rfl | exact mi 15 rfl | exact mi 16 rfl | exact mi 17 rfl | exact mi 18 rfl | exact mi 19 rfl | exact mi 20 rfl | exact mi 21 rfl | exact mi 22 rfl
  have d4 := dig_abs h 4
  obtain ⟨ts1, ts2, _⟩ := trip_small h
  have m1 : (digit h 4 * (tripOf h).1).natAbs < 2 ^ 60 := Nat.lt_of_le_of_lt (mul_abs d4 ts1) (by decide)
  have m2 : (digit h 4 * (tripOf h).2.1).natAbs < 2 ^ 60 := Nat.lt_of_le_of_lt (mul_abs d4 ts2) (by decide)
  have acc : ∀ r : Int, accOf (f.map AV.int).length (fun _ => true) (fun i => AV.int (digit h 4 * r * f.getD i 0 - digit h 0)) = (halfL h f r).map .int := fun r => by
    rw [accOf_all, List.length_map]
    unfold halfL
    rw [List.map_map]
    exact range_getD f 0 (fun n : Int => AV.int (digit h 4 * r * n - digit h 0))
  refine s_assignE (P := tabs cs) (T := TT cs) (h0 := h0) (g0 := g0) (o0 := o0) (L.lo rfl) (wpAny_BinOp ?_)
  refine eval_compE (P := tabs cs) (T := TT cs) (h0 := h0) (g0 := g0) (o0 := o0) (ρ := names27 h f c d0 d1 d2 dx dz dy dl zl yl td du size other stray) (ls := lists14 h f g e cells kf t1 b1 t2 b2 size other stray dl a1 a2 c d0 d1 d2 dx dz dy zl yl td du) (ρc := [("base", .int (digit h 0)), ("near", .int (tripOf h).1), ("two", .int (digit h 4))]) (keep := fun _ => true) (n := (f.map AV.int).length) (av := fun i => (f.map AV.int).getD i .none) (bv := fun i => .int (digit h 4 * (tripOf h).1 * f.getD i 0 - digit h 0))
    lists14_np (by rw [List.length_map]; omega) (fun x hx => ?_) (by decide) rfl rfl (by decide) (fun p hp => ?_) (iterE_of (iter_list LA.hh X (.nm rfl) mf)) (fun s₁ X₁ => step_pur fun Cc i a' fp hp l hi => ?_) fun D s₂ hD X₂ => ?_
  · replace hx : (x, NameKind.free) ∈ [((".0" : Str), NameKind.local), ("v", .local), ("base", .free), ("near", .free), ("two", .free)] := hx
    simp at hx
    rcases hx with rfl | rfl | rfl <;> exact L.cell _ rfl
  · rcases List.mem_cons.mp hp with q | q
    · rw [q]; exact ⟨rfl, (L.kind _).trans rfl, rfl⟩
    · rcases List.mem_cons.mp q with q | q
      · rw [q]; exact ⟨rfl, (L.kind _).trans rfl, rfl⟩
      · rw [List.mem_singleton.mp q]; exact ⟨rfl, (L.kind _).trans rfl, rfl⟩
  · rw [List.length_map] at hi
    rw [int_getD hi]
    exact .bin (.bin (.bin (.nm rfl) (.nm rfl) (op_mul (mul_dig _ _ _))) (.nm rfl) (op_mul (mulOk_l m1))) (.nm rfl) op_sub
  · rw [acc] at X₂
    refine eval_compE (P := tabs cs) (T := TT cs) (h0 := h0) (g0 := g0) (o0 := o0) (ρ := names27 h f c d0 d1 d2 dx dz dy dl zl yl td du size other stray) (ls := (D, .acc ((halfL h f (tripOf h).1).map .int)) :: lists14 h f g e cells kf t1 b1 t2 b2 size other stray dl a1 a2 c d0 d1 d2 dx dz dy zl yl td du) (ρc := [("base", .int (digit h 0)), ("far", .int (tripOf h).2.1), ("two", .int (digit h 4))]) (keep := fun _ => true) (n := (f.map AV.int).length) (av := fun i => (f.map AV.int).getD i .none) (bv := fun i => .int (digit h 4 * (tripOf h).2.1 * f.getD i 0 - digit h 0))
      (fun a fp h' hm => ?_) (by rw [List.length_map]; omega) (fun x hx => ?_) (by decide) rfl rfl (by decide) (fun p hp => ?_) (iterE_of (iter_list LA.hh X₂ (.nm rfl) (List.mem_cons_of_mem _ mf))) (fun s₁ X₁ => step_pur fun Cc i a' fp hp l hi => ?_) fun D' s₃ hD' X₃ => ?_
    · rcases List.mem_cons.mp hm with q | q
      · cases q
      · exact lists14_np _ _ _ q
    · replace hx : (x, NameKind.free) ∈ [((".0" : Str), NameKind.local), ("v", .local), ("base", .free), ("far", .free), ("two", .free)] := hx
      simp at hx
      rcases hx with rfl | rfl | rfl <;> exact L.cell _ rfl
    · rcases List.mem_cons.mp hp with q | q
      · rw [q]; exact ⟨rfl, (L.kind _).trans rfl, rfl⟩
      · rcases List.mem_cons.mp q with q | q
        · rw [q]; exact ⟨rfl, (L.kind _).trans rfl, rfl⟩
        · rw [List.mem_singleton.mp q]; exact ⟨rfl, (L.kind _).trans rfl, rfl⟩
    · rw [List.length_map] at hi
      rw [int_getD hi]
      exact .bin (.bin (.bin (.nm rfl) (.nm rfl) (op_mul (mul_dig _ _ _))) (.nm rfl) (op_mul (mulOk_l m2))) (.nm rfl) op_sub
    · rw [acc] at X₃
      refine op_add_lists X₃ (X₃.lists D _ (List.mem_cons_of_mem _ List.mem_cons_self)).av (X₃.lists D' _ List.mem_cons_self).av ?_ fun D₃ s₄ _ X₄ => ?_
      · unfold halfL
        rw [List.length_map, List.length_map, List.length_map, List.length_map]
        omega
      · rw [← List.map_append] at X₄
        have X₅ := (X₄.unacc).weak (ρ' := names27 h f c d0 d1 d2 dx dz dy dl zl yl td du size other stray) (ls' := lists15 h f g e cells kf t1 b1 t2 b2 size other stray dl a1 a2 c d0 d1 d2 dx dz dy zl yl td du D₃) (fun _ _ h => h) fun p hp => by
          rcases List.mem_cons.mp hp with q | q
          · rw [q]; exact List.mem_cons_self
          · exact List.mem_cons_of_mem _ (List.mem_cons_of_mem _ (List.mem_cons_of_mem _ q))
        exact ⟨_, _, _, .ref D₃, X₅, fun s' X' => k D₃ s' X'⟩
end
end Mine
end
section
set_option maxRecDepth 100000
set_option exponentiation.threshold 3000
namespace Mine
open PySem PySem.Float64 PySem.W PySem.Calls PyProof.Rows PySem.SeqAt
/-- the cosine's numerator -/
noncomputable def cosNum (h : Int) : Int := if digit h 4 > 0 then (tripOf h).1 else -(tripOf h).1
noncomputable def cosV (h size : Int) : AV := if size * digit h 4 = 0 then .none else .qi (cosNum h) (tripOf h).2.2
section
variable {prog : Program} {w : World} {A : Around} {E : Value → Shared → Prop} {s : Shared} {env : Env} {h0 : Heap} {g0 : Array GenState} {o0 : OsState} {ρ ρc : List (Str × AV)} {ls : List (Addr × HV)} {rest : List Stmt} {P : List Addr} {T : Heap → Prop} {mg mb : Str → Option Value} {cs : List (Addr × Addr)} {K : Frag}
variable {Q : Flow → Shared → Prop} {c d0 d1 d2 dx dz dy dl a1 a2 zl yl td du lg : Addr} {cells f g e : List Int} {h size other stray t1 b1 t2 b2 : Int} {kf : Bool}
noncomputable abbrev names29 (h : Int) (f : List Int) (c d0 d1 d2 dx dz dy dl zl yl td du lg : Addr) (size other stray : Int) : List (Str × AV) := ("cosine", cosV h size) :: ("legs", .ref lg) :: names27 h f c d0 d1 d2 dx dz dy dl zl yl td du size other stray
theorem law_24 (L : LawEnv env) (LA : LawA A env) (C : Cols f g e size other stray)
    (X : At (tabs cs) (TT cs) h0 g0 o0 env (("legs", .ref lg) :: names27 h f c d0 d1 d2 dx dz dy dl zl yl td du size other stray) ls s)
    (k : ∀ s', At (tabs cs) (TT cs) h0 g0 o0 env (names29 h f c d0 d1 d2 dx dz dy dl zl yl td du lg size other stray) ls s' → wpAny (model prog w) A (execs (dLaw.body.drop 25) env) Q E s') :
    wpAny (model prog w) A (execs (dLaw.body.drop 24) env) Q E s := by
  have hs := C.s0
  have m0 : size.natAbs < 2 ^ 60 := by omega
  obtain ⟨ts1, _, ts3, t1', t3', _⟩ := trip_small h
  refine s_assignE (P := tabs cs) (T := TT cs) (h0 := h0) (g0 := g0) (o0 := o0) (L.lo rfl) (wpAny_IfExp ((show Tst prog w A (At (tabs cs) (TT cs) h0 g0 o0 env _ _) env _ (size * digit h 4 == 0) from .cmp (.bin (.nm rfl) (.nm rfl) (op_mul (mulOk_l m0))) .int op_eq) s _ _ X fun tk _ => ?_))
  by_cases hz : size * digit h 4 = 0
  · rw [show (size * digit h 4 == 0) = true from beq_iff_eq.mpr hz]
    refine Pur.none _ _ _ X.toks fun v tk' hv _ => ⟨cosV h size, _, _, ?_, X.toks, fun s' X' => k s' X'⟩
    unfold cosV
    rw [if_pos hz]; exact hv
  · rw [show (size * digit h 4 == 0) = false from beq_eq_false_iff_ne.mpr hz]
    refine wpAny_IfExp (wpAny_isTrue_Compare1 (Pur.nm (av := .int (digit h 4)) rfl (by decide) _ _ _ X.toks fun va tk1 hva _ => wpAny_Constant_int ?_))
    apply hva.e1 rfl; intro _
    refine gt_int (wpAny_truthy_bool ?_)
    have X₁ := X.toks (tk := tk1 + 1)
    by_cases hp : digit h 4 > 0
    · rw [decide_eq_true hp]
      refine wpAny_BinOp (Pur.nm (av := .int (tripOf h).1) rfl (by decide) _ _ _ X₁ fun va tk2 hva l1 => Pur.nm (av := .int (tripOf h).2.2) rfl (by decide) _ _ _ X₁.toks fun vb tk3 hvb l2 => ?_)
      apply hva.e1 rfl; intro _; apply hvb.e1 rfl; intro _
      refine div_qi LA.hh (by omega) (by omega) (Nat.lt_of_lt_of_le (Nat.succ_pos _) (Nat.le_trans l1 l2)) fun v tk4 hv => ⟨cosV h size, _, _, ?_, X₁.toks, fun s' X' => k s' X'⟩
      unfold cosV cosNum
      rw [if_neg hz, if_pos hp]; exact hv
    · rw [decide_eq_false hp]
      refine wpAny_BinOp (wpAny_UnaryOp (Pur.nm (av := .int (tripOf h).1) rfl (by decide) _ _ _ X₁ fun va tk2 hva l1 => ?_))
      apply hva.e1 rfl; intro _
      refine neg_int (Pur.nm (av := .int (tripOf h).2.2) rfl (by decide) _ _ _ X₁.toks fun vb tk3 hvb l2 => ?_)
      apply hvb.e1 rfl; intro _
      refine div_qi LA.hh (by omega) (by omega) (Nat.lt_of_lt_of_le (Nat.succ_pos _) l2) fun v tk4 hv => ⟨cosV h size, _, _, ?_, X₁.toks, fun s' X' => k s' X'⟩
      unfold cosV cosNum
      rw [if_neg hz, if_neg hp]; exact hv
end
end Mine
end
section
set_option maxRecDepth 100000
set_option exponentiation.threshold 3000
namespace Mine
open PySem PySem.Float64 PySem.W PySem.Calls PyProof.Rows PySem.SeqAt
/-- x with its mean behind it -/
noncomputable def x2L (h : Int) (f : List Int) : List Int := xL h f ++ List.replicate f.length (digit h 1)
noncomputable def legL (h : Int) (f : List Int) : List Int := halfL h f (tripOf h).1 ++ halfL h f (tripOf h).2.1
section
variable {h : Int} {f g e : List Int} {size other stray : Int}
theorem half_cen (r : Int) : (halfL h f r).map (· - -(digit h 0)) = smul (digit h 4 * r) f := by
  unfold halfL smul
  rw [List.map_map]
  refine List.map_congr_left fun v _ => ?_
  show digit h 4 * r * v - digit h 0 - -(digit h 0) = digit h 4 * r * v
  omega
theorem leg_cen : (legL h f).map (· - -(digit h 0)) = smul (digit h 4 * (tripOf h).1) f ++ smul (digit h 4 * (tripOf h).2.1) f := by
  unfold legL
  rw [List.map_append, half_cen, half_cen]
theorem x2_cen : (x2L h f).map (· - digit h 1) = f ++ List.replicate f.length 0 := by
  unfold x2L
  rw [List.map_append, cen_x, List.map_replicate, Int.sub_self]
theorem half_sum (hf : f.sum = 0) (r : Int) : (halfL h f r).sum = -(digit h 0) * f.length := by
  have : halfL h f r = (smul (digit h 4 * r) f).map (· + -(digit h 0)) := by
    unfold halfL smul
    rw [List.map_map]
    refine List.map_congr_left fun v _ => ?_
    show _ = digit h 4 * r * v + -(digit h 0)
    omega
  rw [this, sum_shift, sum_smul, hf, smul_len]; simp
theorem half_small (C : Cols f g e size other stray) {r : Int} (hr : r.natAbs ≤ 15) : ∀ v ∈ halfL h f r, v.natAbs ≤ 10 * 15 * 50 + 10 := by
  intro v hv
  obtain ⟨u, hu, rfl⟩ := List.mem_map.mp hv
  have h1 := mul_abs (mul_abs (dig_abs h 4) hr) (C.bf u hu)
  have h2 := dig_abs h 0
  show (digit h 4 * r * u - digit h 0).natAbs ≤ _
  omega
theorem Cols.x2 (C : Cols f g e size other stray) : ColOk (f.length + f.length) (x2L h f) (digit h 1) := by
  have l : (x2L h f).length = f.length + f.length := by unfold x2L; rw [List.length_append, (C.x h).len, List.length_replicate]
  have hi := C.hi
  refine ⟨⟨by rw [l]; omega, fun v hv => ?_⟩, l, ?_, (C.x h).mean⟩
  · rcases List.mem_append.mp hv with q | q
    · exact (C.x h).sm.val v q
    · rw [(List.mem_replicate.mp q).2]; exact (C.x h).mean
  · rw [l]
    unfold x2L
    rw [List.sum_append, (C.x h).sum, (C.x h).len, List.sum_replicate_int]
    push_cast
    grind
theorem Cols.leg (C : Cols f g e size other stray) : ColOk (f.length + f.length) (legL h f) (-(digit h 0)) := by
  have lh : ∀ r, (halfL h f r).length = f.length := fun r => List.length_map _
  have l : (legL h f).length = f.length + f.length := by unfold legL; rw [List.length_append, lh, lh]
  have hi := C.hi
  obtain ⟨t1, t2, _⟩ := trip_small h
  refine ⟨⟨by rw [l]; omega, fun v hv => ?_⟩, l, ?_, by have := dig_abs h 0; omega⟩
  · rcases List.mem_append.mp hv with q | q
    · exact Nat.le_trans (half_small C (by omega) v q) (by decide)
    · exact Nat.le_trans (half_small C t2 v q) (by decide)
  · rw [l]
    unfold legL
    rw [List.sum_append, half_sum C.tri.sf, half_sum C.tri.sf]
    push_cast
    grind
/-- the root of the last product -/
noncomputable def rootN (h size : Int) : Nat := (size * digit h 4 * (tripOf h).2.2).natAbs
theorem last_xx (C : Cols f g e size other stray) : dotN ((x2L h f).map (· - digit h 1)) ((x2L h f).map (· - digit h 1)) (x2L h f).length = size := by
  rw [x2_cen, dotN_dot' (by rw [(C.x2 (h := h)).len, List.length_append, List.length_replicate]), legs_xx C.tri]
theorem last_yy (C : Cols f g e size other stray) : dotN ((legL h f).map (· - -(digit h 0))) ((legL h f).map (· - -(digit h 0))) (x2L h f).length = digit h 4 * digit h 4 * ((tripOf h).2.2 * (tripOf h).2.2) * size := by
  obtain ⟨_, _, _, _, _, py⟩ := trip_small h
  rw [leg_cen, dotN_dot' (by rw [(C.x2 (h := h)).len, List.length_append, smul_len, smul_len]), legs_yy C.tri, ← py]
  grind
theorem last_xy (C : Cols f g e size other stray) : dotN ((x2L h f).map (· - digit h 1)) ((legL h f).map (· - -(digit h 0))) (x2L h f).length = digit h 4 * (tripOf h).1 * size := by
  rw [x2_cen, leg_cen, dotN_dot' (by rw [(C.x2 (h := h)).len, List.length_append, List.length_replicate]), legs_xy C.tri]
theorem last_root : size * (digit h 4 * digit h 4 * ((tripOf h).2.2 * (tripOf h).2.2) * size) = (rootN h size : Int) * rootN h size := by
  unfold rootN
  rw [Int.natAbs_mul_self']
  grind
end
end Mine
end
section
set_option maxRecDepth 100000
set_option exponentiation.threshold 3000
namespace Mine
open PySem PySem.Float64 PySem.Builtin.Math
/-- the bits of a quotient that is not zero -/
theorem div_bits {x y : UInt64} {a b c d : Int} (hx : IsF x a) (hy : IsF y b) (h0 : a ≠ 0) (hb : b ≠ 0) (hd : d ≠ 0) (h : a * d = c * b) :
    div x y = ofFrac (decide (c < 0) != decide (d < 0)) c.natAbs d.natAbs := by
  have hc : c ≠ 0 := fun z => by
    rw [z, Int.zero_mul] at h
    rcases Int.mul_eq_zero.mp h with q | q
    · exact h0 q
    · exact hd q
  obtain ⟨s, m, e, hdx, hv⟩ := hx
  obtain ⟨s', m', e', hdy, hv'⟩ := hy
  have R := div_right hdx hdy (fun z => hb ((isF_nonzero hdy hv').mp z))
  rw [hv, hv', natAbs_K, natAbs_K] at R
  have f1 := sgn_flag (sgn_val_n hdx hv) h0
  have f2 := sgn_flag (sgn_val_n hdy hv') hb
  have R2 := ofFrac_right (neg := decide (c < 0) != decide (d < 0)) (n := c.natAbs) (d := d.natAbs) (W := c.natAbs * 2 ^ 1074) (D := d.natAbs) (by omega) rfl (by omega)
  have flags : (s != s') = (decide (c < 0) != decide (d < 0)) := by
    rw [f1, f2]
    have key : (a < 0 ↔ b < 0) ↔ (c < 0 ↔ d < 0) := by
      have sg : ∀ {u v : Int}, u ≠ 0 → v ≠ 0 → ((u < 0 ↔ v < 0) ↔ 0 < u * v) := fun {u v} hu hv => by
        rcases Int.lt_or_gt_of_ne hu with z | z <;> rcases Int.lt_or_gt_of_ne hv with y | y
        · have := Int.mul_pos_of_neg_of_neg z y; simp [z, y, this]
        · have := Int.mul_neg_of_neg_of_pos z y
          constructor
          · intro q; omega
          · intro q; omega
        · have := Int.mul_neg_of_pos_of_neg z y
          constructor
          · intro q; omega
          · intro q; omega
        · have := Int.mul_pos z y
          constructor
          · intro _; exact this
          · intro _; constructor <;> intro q <;> omega
      rw [sg h0 hb, sg hc hd]
      have e1 : a * b * (d * d) = c * d * (b * b) := by
        calc a * b * (d * d) = (a * d) * (b * d) := by ac_rfl
          _ = (c * b) * (b * d) := by rw [h]
          _ = c * d * (b * b) := by ac_rfl
      have p1 : 0 < d * d := by
        rcases Int.lt_or_gt_of_ne hd with z | z
        · exact Int.mul_pos_of_neg_of_neg z z
        · exact Int.mul_pos z z
      have p2 : 0 < b * b := by
        rcases Int.lt_or_gt_of_ne hb with z | z
        · exact Int.mul_pos_of_neg_of_neg z z
        · exact Int.mul_pos z z
      constructor
      · intro q
        have := Int.mul_pos q p1
        rw [e1] at this
        exact Int.pos_of_mul_pos_left this p2 |> fun z => z
      · intro q
        have := Int.mul_pos q p2
        rw [← e1] at this
        exact Int.pos_of_mul_pos_left this p1 |> fun z => z
    by_cases z1 : a < 0 <;> by_cases z2 : b < 0 <;> by_cases z3 : c < 0 <;> by_cases z4 : d < 0 <;> simp [z1, z2, z3, z4] at key ⊢
  rw [← flags] at R2 ⊢
  have e : div x y = ofFrac (s != s') c.natAbs d.natAbs := by
    refine right_unique R R2 ?_ (Nat.mul_pos (by omega) (Nat.two_pow_pos _)) (by omega)
    have hn : a.natAbs * d.natAbs = c.natAbs * b.natAbs := by rw [← Int.natAbs_mul, ← Int.natAbs_mul, h]
    generalize (2 : Nat) ^ 1074 = K
    calc a.natAbs * K * K * d.natAbs = a.natAbs * d.natAbs * (K * K) := by ac_rfl
      _ = c.natAbs * b.natAbs * (K * K) := by rw [hn]
      _ = c.natAbs * K * (b.natAbs * K) := by ac_rfl
  exact e
end Mine
end
section
set_option maxRecDepth 100000
set_option exponentiation.threshold 3000
namespace Mine
open PySem PySem.Float64 PySem.W PySem.Calls PyProof.Rows PySem.SeqAt
section
variable {prog : Program} {w : World} {A : Around} {E : Value → Shared → Prop} {s : Shared} {env : Env} {h0 : Heap} {g0 : Array GenState} {o0 : OsState} {ρ ρc : List (Str × AV)} {ls : List (Addr × HV)} {rest : List Stmt} {P : List Addr} {T : Heap → Prop} {mg mb : Str → Option Value} {cs : List (Addr × Addr)} {K : Frag}
theorem flatten_single (n : Nat) (a : AV) : (List.replicate n [a]).flatten = List.replicate n a := by
  induction n with
  | zero => rfl
  | succ n ih => rw [List.replicate_succ, List.flatten_cons, ih]; rfl
theorem callWith_K {pos : Pos} {f : Value} {e : Expr} {es : List Expr} {Q : Value → Shared → Prop} (hk : keepIn K f = true)
    (h : wpAny (model prog w) A (spliced (backTo pos (starEach (e :: es) env))) (fun vs s₁ => K.In s₁.heap ∧ wpAny (model prog w) A (call f vs) Q E s₁) E s)
    (he : starEach (e :: es) env = (false, eval e env) :: starEach es env) (hp : (backTo pos (starEach es env)).any (·.1) = false) :
    wpAny (model prog w) A (callWith pos f [] (backTo pos (starEach (e :: es) env)) []) Q E s := by
  rw [he] at h ⊢
  exact callWith_of (P := K.In) (by show ((false || (backTo pos (starEach es env)).any (·.1)) || false) = false; rw [hp]; rfl) (keeps_K hk) (evalArgs_plain h)
variable {Q : Flow → Shared → Prop} {c d0 d1 d2 dx dz dy dl a1 a2 zl yl td du lg : Addr} {cells f g e : List Int} {h size other stray t1 b1 t2 b2 : Int} {kf : Bool}
/-- what the last tie gives is the cosine -/
theorem cos_res (C : Cols f g e size other stray) (hz : ¬ size * digit h 4 = 0) : ∀ x y z, IsF x size → IsF y (digit h 4 * digit h 4 * ((tripOf h).2.2 * (tripOf h).2.2) * size) → IsF z (digit h 4 * (tripOf h).1 * size) →
    SqOk x y ∧ isZero (sqp x y) = false ∧ ∀ t, Rep (.bits (ofFrac (decide (cosNum h < 0) != decide ((tripOf h).2.2 < 0)) (cosNum h).natAbs (tripOf h).2.2.natAbs)) (.float (Float64.div z (sqp x y)) t) := by
  intro x y z hx hy hzz
  obtain ⟨ts1, _, ts3, t1', t3', _⟩ := trip_small h
  have s0 := C.s0
  have d4 := dig_abs h 4
  have hs : size ≠ 0 := fun q => hz (by rw [q, Int.zero_mul])
  have hd : digit h 4 ≠ 0 := fun q => hz (by rw [q, Int.mul_zero])
  have hk0 : rootN h size ≠ 0 := by
    unfold rootN
    rw [Ne, Int.natAbs_eq_zero]
    intro q
    rcases Int.mul_eq_zero.mp q with q | q
    · exact hz q
    · omega
  have hkb : rootN h size ≤ 2 ^ 25 := by
    unfold rootN
    exact Nat.le_trans (mul_abs (mul_abs (show size.natAbs ≤ 280 by omega) d4) ts3) (by decide)
  obtain ⟨ok, hr⟩ := sq_square hx hy last_root hk0 hkb
  refine ⟨ok, by rw [isF_isZero hr, decide_eq_false (by omega)], fun t => ?_⟩
  have hb : (rootN h size : Int) ≠ 0 := by omega
  have ha : digit h 4 * (tripOf h).1 * size ≠ 0 := by
    intro q
    rcases Int.mul_eq_zero.mp q with q | q
    · rcases Int.mul_eq_zero.mp q with q | q
      · exact hd q
      · omega
    · exact hs q
  have key : digit h 4 * (tripOf h).1 * size * (tripOf h).2.2 = cosNum h * (rootN h size : Int) := by
    unfold cosNum rootN
    have sp : 0 < size := by omega
    by_cases hp : digit h 4 > 0
    · rw [if_pos hp]
      have : (((size * digit h 4 * (tripOf h).2.2).natAbs : Nat) : Int) = size * digit h 4 * (tripOf h).2.2 :=
        Int.natAbs_of_nonneg (Int.mul_nonneg (Int.mul_nonneg (by omega) (by omega)) (by omega))
      rw [this]; grind
    · rw [if_neg hp]
      have h0 : 0 ≤ size * -(digit h 4) * (tripOf h).2.2 := Int.mul_nonneg (Int.mul_nonneg (by omega) (by omega)) (by omega)
      have : (((size * digit h 4 * (tripOf h).2.2).natAbs : Nat) : Int) = size * -(digit h 4) * (tripOf h).2.2 := by
        rw [← Int.natAbs_of_nonneg h0]
        congr 1
        rw [Int.mul_neg, Int.neg_mul, Int.natAbs_neg]
      rw [this]; grind
  rw [div_bits hzz hr ha hb (by omega) key]
  exact .bits _ t
theorem law_25 (S : Static K cs mg mb) (W : Wd K cs mg mb h0) (L : LawEnv env) (LA : LawA A env) (G : Gl (tabs cs) env h0 mg mb) (C : Cols f g e size other stray)
    (X : At (tabs cs) (TT cs) h0 g0 o0 env (names29 h f c d0 d1 d2 dx dz dy dl zl yl td du lg size other stray) (lists15 h f g e cells kf t1 b1 t2 b2 size other stray dl a1 a2 c d0 d1 d2 dx dz dy zl yl td du lg) s)
    (k : ∀ s', At (tabs cs) (TT cs) h0 g0 o0 env [] [] s' → Q (.ret (.bool true)) s') :
    wpAny (model prog w) A (execs (dLaw.body.drop 25) env) Q E s := by
  have line : sizeLine = 2 ^ 24 := rfl
  have hi6 := C.hi
  have mx : (dx, HV.list ((xL h f).map AV.int)) ∈ lists15 h f g e cells kf t1 b1 t2 b2 size other stray dl a1 a2 c d0 d1 d2 dx dz dy zl yl td du lg := by first | exact mi 0 rfl | exact mi 1 rfl | exact mi 2 rfl | exact mi 3 rfl | exact mi 4 rfl | exact mi 5 rfl | exact mi 6 rfl | exact mi 7 rfl | exact mi 8 rfl | exact mi 9 rfl | exact mi 10 rfl | exact mi 11 rfl | exact mi 12 rfl | exact mi 13 rfl | exact mi 14 rfl | exact mi 15 rfl | exact mi 16 rfl | exact mi 17 rfl | exact mi 18 rfl | exact mi 19 rfl | exact mi 20 rfl | exact mi 21 rfl | exact mi 22 rfl
  have ml : (lg, HV.list ((legL h f).map AV.int)) ∈ lists15 h f g e cells kf t1 b1 t2 b2 size other stray dl a1 a2 c d0 d1 d2 dx dz dy zl yl td du lg := List.mem_cons_self
  have lx : (((xL h f).map AV.int).length : Int) = f.length := by rw [List.length_map, (C.x h).len]
  have kf446 : keepIn K (.ref 446) = true := by
    obtain ⟨pm, doc, h⟩ := S.tie.2.fn
    unfold keepIn
    dsimp only
    rw [h]
  refine wpAny_execs_cons (wpAny_Return_some (wpAny_Compare1 (wpAny_Call_NameR (Pur.glob G ((L.kind _).trans rfl) S.tie.1 rfl s _ _ X fun ff tk hf _ => ?_))))
  apply hf.e0 rfl
  refine callWith_K kf446 (spliced_more ?_ rfl) rfl rfl
  refine wpAny_BinOp (Pur.nm (av := .ref dx) rfl (by decide) _ _ _ X.toks fun va tk1 hva _ => ?_)
  apply hva.e0 rfl
  refine wpAny_BinOp (eval_list (avs := [.int (digit h 1)]) X.toks (.cons (.nm rfl) .nil rfl) (show 1 ≤ sizeLine by decide) fun D s₁ hD X₁ => ?_)
  refine Pur.len G ((L.kind _).trans rfl) S.gf.len.1 S.gf.len.2 (.nm rfl) (List.mem_cons_of_mem _ mx) lx (by omega) (by rfl) s₁ _ _ X₁ fun vn tk2 hvn _ => ?_
  apply hvn.e1 rfl; intro _
  have X₂ := X₁.toks (tk := tk2)
  refine op_mul_list X₂ (X₂.lists D _ List.mem_cons_self).av (by omega) (by omega) ?_ fun D' s₂ _ X₃ => ?_
  · rw [Int.toNat_natCast]
    show 1 * f.length ≤ _
    omega
  rw [Int.toNat_natCast, flatten_single] at X₃
  have ix : IsAV s₂.heap dx ((xL h f).map AV.int) := X₃.ll (List.mem_cons_of_mem _ (List.mem_cons_of_mem _ mx))
  refine op_add_lists X₃ ix (X₃.lists D' _ List.mem_cons_self).av ?_ fun D₃ s₃ _ X₄ => ?_
  · rw [List.length_map, (C.x h).len, List.length_replicate]; omega
  refine spliced_more (Pur.nm (av := .ref lg) rfl (by decide) _ _ _ X₄ fun vl tk3 hvl _ => spliced_nil ?_) rfl
  have X₅ := X₄.toks (tk := tk3)
  have W₅ := W.at S X₅
  refine ⟨W₅.k, ?_⟩
  have e2 : (xL h f).map AV.int ++ List.replicate f.length (AV.int (digit h 1)) = nums false (x2L h f) := by
    show _ = (x2L h f).map AV.int
    unfold x2L
    rw [List.map_append, List.map_replicate]
  have l1 : IsAV s₃.heap D₃ (nums false (x2L h f)) := by rw [← e2]; exact (X₅.lists D₃ _ List.mem_cons_self).av
  have l2 : IsAV s₃.heap lg (nums false (legL h f)) := X₅.ll (List.mem_cons_of_mem _ (List.mem_cons_of_mem _ (List.mem_cons_of_mem _ ml)))
  have ok := (C.x2 (h := h)).line (C.leg (h := h)) (by have := C.lo; omega)
  have X₆ := X₅.weak (ρ' := names29 h f c d0 d1 d2 dx dz dy dl zl yl td du lg size other stray) (ls' := lists15 h f g e cells kf t1 b1 t2 b2 size other stray dl a1 a2 c d0 d1 d2 dx dz dy zl yl td du lg) (fun _ _ h => h) fun p hp => List.mem_cons_of_mem _ (List.mem_cons_of_mem _ (List.mem_cons_of_mem _ hp))
  have np : PinsOk cs (lists15 h f g e cells kf t1 b1 t2 b2 size other stray dl a1 a2 c d0 d1 d2 dx dz dy zl yl td du lg) := pinsOk_np fun a fp h' hm => by
    rcases List.mem_cons.mp hm with q | q
    · cases q
    · exact lists14_np a fp h' q
  have hvs : Reps [.ref D₃, .ref lg] [.ref D₃, vl] := .cons (.ref D₃) (.cons hvl .nil)
  by_cases hz : size * digit h 4 = 0
  · refine call_tie0 S W₅ LA.hh (by have := LA.room; omega) LA.frames (LA.chain X₅) l1 l2 hvs ok (by rw [last_xx C, last_yy C]; grind) fun s₄ af => ?_
    have X₇ := X₆.call af np
    refine Pur.nm (av := cosV h size) rfl (by decide) _ _ _ X₇ fun vc tk4 hvc _ => ?_
    unfold cosV at hvc
    rw [if_pos hz] at hvc
    apply hvc.e0 rfl
    exact RcAt.none_none prog w E _ (k _ (X₇.toks.weak sub_nil fun p hp => by cases hp))
  · refine call_tie S W₅ LA.hh (by have := LA.room; omega) l1 l2 hvs ok flv_bits (fun x y z hx hy hzz => by
      rw [last_xx C] at hx
      rw [last_xy C] at hzz
      exact cos_res C hz x y z hx (by
        have := last_yy (h := h) C
        rw [(C.x2 (h := h)).len] at this
        rw [(C.x2 (h := h)).len] at hy
        rw [this] at hy; exact hy) hzz) fun v s₄ hv af => ?_
    have X₇ := X₆.call af np
    cases hv with | bits _ t =>
    refine Pur.nm (av := cosV h size) rfl (by decide) _ _ _ X₇ fun vc tk4 hvc _ => ?_
    unfold cosV at hvc
    rw [if_neg hz] at hvc
    cases hvc with | qi _ _ t' ht' =>
    refine rceq_ff ?_ prog w E _ (k _ (X₇.toks.weak sub_nil fun p hp => by cases hp))
    refine cmp_self ?_
    unfold ofFrac
    exact PySem.W.isNaN_pack _ (PySem.W.roundMag_le _ _)
end
end Mine
end
section
set_option maxRecDepth 100000
set_option exponentiation.threshold 3000
namespace Mine
open PySem PySem.Float64 PySem.W PySem.Calls PyProof.Rows PySem.SeqAt
section
variable {prog : Program} {w : World} {A : Around} {E : Value → Shared → Prop} {s : Shared} {env : Env} {h0 : Heap} {g0 : Array GenState} {o0 : OsState} {ls : List (Addr × HV)} {mg mb : Str → Option Value} {cs : List (Addr × Addr)} {K : Frag} {Q : Flow → Shared → Prop}
/-- from the rest of the points on -/
theorem law_tail {c d0 d1 d2 dx dz dy dl a1 a2 : Addr} {cells f g e : List Int} {h size other stray t1 b1 t2 b2 : Int} {kf : Bool} (S : Static K cs mg mb) (W : Wd K cs mg mb h0) (L : LawEnv env) (LA : LawA A env) (G : Gl (tabs cs) env h0 mg mb) (C : Cols f g e size other stray) (B : LB h f g e t1 b1 t2 b2) (hn : f.length = cells.length + 1)
    (X : At (tabs cs) (TT cs) h0 g0 o0 env (names18 h c d0 d1 d2 dx dz dy dl size other stray) (lists10 h f g e cells kf t1 b1 t2 b2 dl a1 a2 c d0 d1 d2 dx dz dy) s)
    (k : ∀ s', At (tabs cs) (TT cs) h0 g0 o0 env [] [] s' → Q (.ret (.bool true)) s') :
    wpAny (model prog w) A (execs (dLaw.body.drop 12) env) Q E s := by
  refine law_12 S L G C X fun s X => ?_
  refine law_14 S W L LA G C X fun s X => ?_
  refine law_15 S L LA G C B X fun zl s X => ?_
  refine law_16 S L LA G C B X fun yl s X => ?_
  refine law_17 S W L LA G C X fun s X => ?_
  refine law_18 S W L LA G C X fun td s X => ?_
  refine law_19 L LA C X fun du s X => ?_
  refine law_20 S W L LA G C hn X fun s X => ?_
  refine law_21 S W L LA G C X fun s X => ?_
  refine law_22 L LA X fun s X => ?_
  refine law_23 L LA C X fun lg s X => ?_
  refine law_24 L LA C X fun s X => ?_
  exact law_25 S W L LA G C X k
theorem law_body {a : Addr} {sc : List Int} (S : Static K cs mg mb) (W : Wd K cs mg mb h0) (L : LawEnv env) (LA : LawA A env) (G : Gl (tabs cs) env h0 mg mb) (hsz : sc.length ≤ 63)
    (X : At (tabs cs) (TT cs) h0 g0 o0 env [("script", .ref a)] [(a, .list (sc.map .int))] s)
    (k : ∀ s', At (tabs cs) (TT cs) h0 g0 o0 env [] [] s' → Q (.ret (.bool true)) s') :
    wpAny (model prog w) A (execs dLaw.body env) Q E s := by
  have hlen := cells_len sc
  have hb := cells_small sc
  have hroom : A.depth + 6 < recursionLimit := by have := LA.room; omega
  have n0 : (0 : Int) < (cellsOf sc).length + 1 := by omega
  have C := cols_of sc ((headOf sc).fmod ((cellsOf sc).length + 1)) (Int.fmod_nonneg_of_pos _ n0) (Int.fmod_lt_of_pos _ n0)
  have hn : (columnN (cellsOf sc) 0 ((headOf sc).fmod ((cellsOf sc).length + 1))).length = (cellsOf sc).length + 1 := columnN_len _ _ _
  refine law_0 L LA.hh hsz X fun c s X => ?_
  refine law_1 S L G LA.hh hsz X fun s X => ?_
  refine law_2 S L G LA.hh X fun s X => ?_
  refine law_3 S W L G LA.hh hroom (by omega) hb X fun d0 d1 d2 s X => ?_
  refine law_4 S W L G LA.hh hroom (by omega) hb X fun s X => ?_
  generalize columnN (cellsOf sc) 0 ((headOf sc).fmod ((cellsOf sc).length + 1)) = f at *
  generalize columnN (cellsOf sc) 1 ((headOf sc).fmod ((cellsOf sc).length + 1)) = g at *
  generalize columnN (cellsOf sc) 2 ((headOf sc).fmod ((cellsOf sc).length + 1)) = e at *
  generalize sizeN (cellsOf sc) 0 (cellsOf sc).length = size at *
  generalize sizeN (cellsOf sc) 1 (cellsOf sc).length = other at *
  generalize sizeN (cellsOf sc) 2 (cellsOf sc).length = stray at *
  have hf : f.length ≤ 100 := by have := C.hi; omega
  refine law_5 L LA.hh hf X fun dx s X => ?_
  refine law_6 S L G LA.hh hf C.tri.lg X fun dz s X => ?_
  refine law_7 S L G LA.hh hf C.tri.lg C.tri.le X fun dy s X => ?_
  refine law_8 L X fun s X => ?_
  by_cases hs : size = 0
  · refine law_9z S W L LA G C hs X fun dl s X => ?_
    refine law_10z S W L LA hs X fun dl a1 a2 s X => ?_
    exact law_tail S W L LA G C (lb_false C hs) hn X k
  · refine law_9 S W L LA G C hs X fun dl a1 a2 s X => ?_
    refine law_10 S W L LA hs X fun s X => ?_
    exact law_tail S W L LA G C (lb_true C) hn X k
end
end Mine
end
section
set_option maxRecDepth 100000
set_option exponentiation.threshold 3000
namespace Mine
open PySem PySem.Float64 PySem.W PySem.Calls PyProof.Rows PySem.SeqAt
section
variable {prog : Program} {w : World} {A : Around} {E : Value → Shared → Prop} {s : Shared} {mg mb : Str → Option Value} {cs : List (Addr × Addr)} {K : Frag} {Q : Value → Shared → Prop}
theorem law_names : ∀ p ∈ dLaw.scope.names, p.2 = .cell → p.1 ∈ [("cells" : Str), "head", "base", "middle", "tilt", "one", "two", "rest", "lines", "near", "far"] := by decide
theorem call_law {b a : Addr} {o : Obj} {pm cd doc : Value} {sc : List Int} (S : Static K cs mg mb) (W : Wd K cs mg mb s.heap) (hA : A.handled = none) (hroom : A.depth + 12 < recursionLimit) (hfr : A.frames = some []) (hu : A.units + 5 < cLine)
    (ho : s.heap.get? b = some o) (hd : o.data = .func (docDef dLaw.name dLaw.params dLaw.body dLaw.scope pm cd doc)) (hcd : s.heap.CodeRec cd dLaw.name) (hsz : sc.length ≤ 63) (hl : IsAV s.heap a (sc.map .int))
    (k : ∀ s', After (tabs cs) (TT cs) s s' → Q (.bool true) s') : wpAny (model prog w) A (call (.ref b) [.ref a]) Q E s := by
  refine enterC W.w (by omega) ho hd hcd rfl (binds := [("script", .ref a)]) (ρ := [("script", .ref a)]) (ls := [(a, .list (sc.map .int))]) (BindsTo.of_eq rfl)
    (loc_of (by show ∀ n ∈ [("script" : Str)], dLaw.scope.names.lookup n = some .local; decide)) rfl rfl rfl (fun x av hx => ?_) (fun b' l hm => ?_) (fun s' G X => ?_) rfl rfl rfl
  · rw [List.lookup_cons] at hx
    by_cases e : x = "script"
    · subst e
      rw [beq_self_eq_true] at hx
      cases hx
      exact ⟨_, rfl, rfl, .ref a⟩
    · rw [beq_eq_false_iff_ne.mpr e] at hx
      cases hx
  · cases List.mem_singleton.mp hm; exact hl
  · refine law_body (h0 := s.heap) S W ⟨rfl, (by intro q; cases q), fun x hx => ?_⟩ ⟨hA, (by show A.depth + 1 + 10 < _; omega), frames_of hfr, rfl, (by show A.units + 3 + 1 < _; omega)⟩ G hsz X fun s'' X' => k s'' X'.out
    have := law_names _ (lookup_mem hx) rfl
    simp only [List.mem_cons, List.not_mem_nil, or_false] at this
    rcases this with rfl | rfl | rfl | rfl | rfl | rfl | rfl | rfl | rfl | rfl | rfl <;> exact ⟨_, rfl⟩
end
end Mine
end
section
set_option maxRecDepth 100000
namespace Mine
open PySem PySem.W PySem.Calls PyProof.Rows

noncomputable def docV (b : List Stmt) (t : Nat) : Value := match docOf b with | some x => .str x t | none => .none
noncomputable def fnO (d : DefRec) (q : Str) (pm : Value) (c : Addr) (t : Nat) (dV kV : Value) : Obj :=
  { cls := .type "function", data := .func { docDef d.name d.params d.body d.scope pm (.ref c) (docV d.body t) with qualname := q, defaults := dV, kwdefaults := kV } }
noncomputable def en (P : Params) (x : Str) (t : Nat) (v : Value) : DictEntry := ⟨PyData.keyHash P x, .str x t, v⟩
/-- the objects behind the top that law's call meets -/
noncomputable def kTop (P : Params) : Frag := [
  (2, { cls := .none, data := .dict #[en P "\x69mport.loaded.math" 189 (.bool true), en P "class._frozen_importlib_external._LoaderBasics" 194 (.ref 16), en P "watched.\x69mport" 210 (.ref 20), en P "class._frozen_importlib_external.FileLoader" 211 (.ref 22), en P "class._frozen_importlib_external.ExtensionFileLoader" 232 (.ref 27), en P "class._frozen_importlib.ModuleSpec" 260 (.ref 33), en P "sys.modules.booked-epoch" 289 (.int 3 0), en P "\x69mport.later-laid.math" 365 (.bool true), en P "watched.library" 367 (.ref 38), en P "watched.library-objects" 0 (.str "\x0d" 0)] 10 }),
  (3, { cls := .type "dict", data := .dict #[en P "__name__" 165 (.str "law_ij0063_01" 972), en P "__doc__" 166 (.none), en P "__package__" 167 (.none), en P "__loader__" 168 (.builtin "__main__.__loader__#opaque"), en P "__spec__" 169 (.none), en P "__annotations__" 170 (.ref 6), en P "__builtins__" 171 (.ref 4), en P "__file__" 173 (.str "/claim/cut.py" 172), en P "__cached__" 174 (.none), en P "fsum" 373 (.builtin "math.fsum"), en P "isfinite" 376 (.builtin "math.isfinite"), en P "isinf" 379 (.builtin "math.isinf"), en P "sqrt" 382 (.builtin "math.sqrt"), en P "sumprod" 385 (.builtin "math.sumprod"), en P "_wall" 398 (.ref 49), en P "_tuplegetter" 457 (.ref 88), en P "StatisticsError" 475 (.ref 102), en P "_MAXSIZE" 479 (.int 9223372036854775807 478), en P "_is_int" 487 (.ref 112), en P "_pull" 494 (.ref 119), en P "_same" 502 (.ref 126), en P "groupby" 593 (.ref 167), en P "_grouper" 647 (.ref 212), en P "_count_kind" 655 (.ref 224), en P "count" 720 (.ref 265), en P "itemgetter" 784 (.ref 310), en P "_rank" 814 (.ref 321), en P "_sqrtprod" 826 (.ref 328), en P "covariance" 839 (.ref 335), en P "correlation" 848 (.ref 341), en P "LinearRegression" 963 (.ref 409), en P "linear_regression" 971 (.ref 418), en P "_law_column" 987 (.ref 425), en P "_law_size" 997 (.ref 432), en P "_law_line" 1007 (.ref 439), en P "_law_tie" 1016 (.ref 446), en P "law" 1022 (.ref 451)] 37 }),
  (4, { cls := .type "module", dict := some (0), data := .plain }),
  (64, { cls := .type "tuple", data := .seq #[.none] 0 }),
  (70, { cls := .type "code", data := .fields #[.str "__get__" 422, .str "_tuplegetter.__get__" 423, .str "/claim/cut.py" 424, .int 12 0, .int 3 0, .int 0 0, .int 0 0, .int 3 0, .ref 65, .bool true, .int 386 0, .ref 66, .none, .ref 67, .ref 68, .ref 69, .int 428 0, .int 12 0, .str "/claim/cut.py" 429] }),
  (71, fnO dGet "_tuplegetter.__get__" (.str "cpy313.statistics" 399) 70 0 (.ref 64) (.none)),
  (87, { cls := .type "dict", data := .dict #[en P "__module__" 408 (.str "cpy313.statistics" 399), en P "__firstlineno__" 412 (.int 6 411), en P "__init__" 421 (.ref 63), en P "__get__" 430 (.ref 71), en P "__set__" 439 (.ref 78), en P "__delete__" 447 (.ref 85), en P "__static_attributes__" 450 (.ref 86), en P "__dict__" 452 (.ref 89), en P "__weakref__" 454 (.ref 90), en P "__doc__" 455 (.none)] 4 }),
  (88, { cls := .type "type", data := .cls { name := "_tuplegetter", bases := [.type "object"], mro := [.ref 88, .type "object"], ns := 87, qualname := "_tuplegetter", hasDict := true, slotNames := [], subclasses := [], abstract := false, collection := none, hasDel := false }, slots := #[none, none, some (.str "_tuplegetter" 401), some (.str "_tuplegetter" 409), some (.builtin "object.__new__"), some (.bool true)] }),
  (101, { cls := .type "dict", data := .dict #[en P "__module__" 465 (.str "cpy313.statistics" 399), en P "__firstlineno__" 469 (.int 24 468), en P "__static_attributes__" 470 (.ref 100), en P "__weakref__" 472 (.ref 103), en P "__doc__" 473 (.none)] 3 }),
  (102, { cls := .type "type", data := .cls { name := "StatisticsError", bases := [.type "ValueError"], mro := [.ref 102, .type "ValueError", .type "Exception", .type "BaseException", .type "object"], ns := 101, qualname := "StatisticsError", hasDict := true, slotNames := [], subclasses := [], abstract := false, collection := none, hasDel := false }, slots := #[some (.ref 93), none, some (.str "StatisticsError" 458), some (.str "StatisticsError" 466), some (.builtin "ValueError.__new__"), some (.bool true)] }),
  (327, { cls := .type "code", data := .fields #[.str "_sqrtprod" 815, .str "_sqrtprod" 816, .str "/claim/cut.py" 817, .int 231 0, .int 2 0, .int 0 0, .int 0 0, .int 3 0, .ref 322, .bool true, .int 386 0, .ref 323, .none, .ref 324, .ref 325, .ref 326, .int 823 0, .int 231 0, .str "/claim/cut.py" 824] }),
  (328, fnO dSq "_sqrtprod" (.str "cpy313.statistics" 785) 327 825 (.none) (.none)),
  (334, { cls := .type "code", data := .fields #[.str "covariance" 827, .str "covariance" 828, .str "/claim/cut.py" 829, .int 246 0, .int 2 0, .int 2 0, .int 0 0, .int 3 0, .ref 329, .bool true, .int 386 0, .ref 330, .none, .ref 331, .ref 332, .ref 333, .int 836 0, .int 246 0, .str "/claim/cut.py" 837] }),
  (335, fnO dCov "covariance" (.str "cpy313.statistics" 785) 334 838 (.none) (.none)),
  (336, { cls := .type "dict", data := .dict #[en P "method" 841 (.str "linear" 840)] 1 }),
  (340, { cls := .type "code", data := .fields #[.str "correlation" 842, .str "correlation" 843, .str "/claim/cut.py" 844, .int 272 0, .int 2 0, .int 2 0, .int 1 0, .int 3 0, .ref 337, .bool true, .int 386 0, .ref 338, .none, .none, .none, .ref 339, .int 845 0, .int 272 0, .str "/claim/cut.py" 846] }),
  (341, fnO dCorr "correlation" (.str "cpy313.statistics" 785) 340 847 (.none) (.ref 336)),
  (358, { cls := .type "code", data := .fields #[.str "__new__" 869, .str "LinearRegression.__new__" 870, .str "/claim/cut.py" 871, .int 324 0, .int 3 0, .int 0 0, .int 0 0, .int 3 0, .ref 353, .bool true, .int 386 0, .ref 354, .none, .ref 355, .ref 356, .ref 357, .int 875 0, .int 324 0, .str "/claim/cut.py" 876] }),
  (359, fnO dNew "LinearRegression.__new__" (.str "cpy313.statistics" 785) 358 877 (.none) (.none)),
  (400, { cls := .type "dict", data := .dict #[en P "index" 945 (.int 0 939), en P "__doc__" 947 (.str "Alias for field number 0" 940)] 2 }),
  (401, { cls := .ref 88, dict := some (400), data := .plain }),
  (403, { cls := .type "dict", data := .dict #[en P "index" 955 (.int 1 949), en P "__doc__" 957 (.str "Alias for field number 1" 950)] 2 }),
  (404, { cls := .ref 88, dict := some (403), data := .plain }),
  (408, { cls := .type "dict", data := .dict #[en P "__module__" 856 (.str "cpy313.statistics" 785), en P "__firstlineno__" 860 (.int 318 859), en P "__doc__" 862 (.str "LinearRegression(slope, intercept)" 861), en P "__slots__" 864 (.ref 350), en P "_fields" 867 (.ref 351), en P "_field_defaults" 868 (.ref 352), en P "__new__" 878 (.ref 410), en P "_make" 900 (.ref 368), en P "_replace" 911 (.ref 377), en P "__replace__" 912 (.ref 377), en P "__repr__" 920 (.ref 384), en P "_asdict" 927 (.ref 391), en P "__getnewargs__" 935 (.ref 398), en P "__match_args__" 938 (.ref 399), en P "slope" 948 (.ref 401), en P "intercept" 958 (.ref 404), en P "__static_attributes__" 959 (.ref 406)] 2 }),
  (409, { cls := .type "type", data := .cls { name := "LinearRegression", bases := [.type "tuple"], mro := [.ref 409, .type "tuple", .type "object"], ns := 408, qualname := "LinearRegression", hasDict := false, slotNames := [], subclasses := [], abstract := false, collection := none, hasDel := false }, slots := #[some (.ref 342), none, some (.str "LinearRegression" 849), some (.str "LinearRegression" 857), some (.none), some (.bool false)] }),
  (410, { cls := .type "staticmethod", data := .fields #[.ref 359] }),
  (413, { cls := .type "dict", data := .dict #[en P "proportional" 964 (.bool false)] 1 }),
  (417, { cls := .type "code", data := .fields #[.str "linear_regression" 965, .str "linear_regression" 966, .str "/claim/cut.py" 967, .int 360 0, .int 2 0, .int 2 0, .int 1 0, .int 3 0, .ref 414, .bool true, .int 386 0, .ref 415, .none, .none, .none, .ref 416, .int 968 0, .int 360 0, .str "/claim/cut.py" 969] }),
  (418, fnO dLR "linear_regression" (.str "cpy313.statistics" 785) 417 970 (.none) (.ref 413)),
  (424, { cls := .type "code", data := .fields #[.str "_law_column" 974, .str "_law_column" 975, .str "/claim/cut.py" 976, .int 417 0, .int 3 0, .int 0 0, .int 0 0, .int 3 0, .ref 419, .bool true, .int 386 0, .ref 420, .none, .ref 421, .ref 422, .ref 423, .int 985 0, .int 417 0, .str "/claim/cut.py" 986] }),
  (425, fnO dColumn "_law_column" (.str "law_ij0063_01" 972) 424 0 (.none) (.none)),
  (431, { cls := .type "code", data := .fields #[.str "_law_size" 988, .str "_law_size" 989, .str "/claim/cut.py" 990, .int 427 0, .int 2 0, .int 0 0, .int 0 0, .int 3 0, .ref 426, .bool true, .int 386 0, .ref 427, .none, .ref 428, .ref 429, .ref 430, .int 995 0, .int 427 0, .str "/claim/cut.py" 996] }),
  (432, fnO dSize "_law_size" (.str "law_ij0063_01" 972) 431 0 (.none) (.none)),
  (438, { cls := .type "code", data := .fields #[.str "_law_line" 998, .str "_law_line" 999, .str "/claim/cut.py" 1000, .int 433 0, .int 3 0, .int 0 0, .int 0 0, .int 3 0, .ref 433, .bool true, .int 386 0, .ref 434, .none, .ref 435, .ref 436, .ref 437, .int 1005 0, .int 433 0, .str "/claim/cut.py" 1006] }),
  (439, fnO dLine "_law_line" (.str "law_ij0063_01" 972) 438 0 (.none) (.none)),
  (445, { cls := .type "code", data := .fields #[.str "_law_tie" 1008, .str "_law_tie" 1009, .str "/claim/cut.py" 1010, .int 441 0, .int 2 0, .int 0 0, .int 0 0, .int 3 0, .ref 440, .bool true, .int 386 0, .ref 441, .none, .ref 442, .ref 443, .ref 444, .int 1014 0, .int 441 0, .str "/claim/cut.py" 1015] }),
  (446, fnO dTie "_law_tie" (.str "law_ij0063_01" 972) 445 0 (.none) (.none))]
/-- the two code tables that the call may fill -/
noncomputable def tabTop : Frag := [
  (330, { cls := .none, data := .fields #[] }),
  (415, { cls := .none, data := .fields #[] })]
end Mine
end
section
set_option maxRecDepth 100000
set_option Elab.async false
namespace Mine
open PySem PySem.W PySem.Calls PyProof.Rows

noncomputable def strKey (e : DictEntry) : Bool := match e.key with | .str _ _ => true | _ => false
theorem strKeys_of {es : Array DictEntry} (h : es.toList.all strKey = true) : StrKeys es := fun e he => by
  have := List.all_eq_true.mp h e (Array.mem_toList_iff.mpr he)
  unfold strKey at this
  split at this
  · exact ⟨_, _, by assumption⟩
  · cases this
noncomputable def esIn (K : Frag) (a : Addr) : Array DictEntry := match K.lookup a with | some ⟨_, _, .dict es _, _⟩ => es | _ => #[]

theorem lookup_fst {a : Addr} {o : Obj} : ∀ {l : Frag}, l.lookup a = some o → a ∈ l.map (·.1)
  | [], h => by cases h
  | (b, x) :: r, h => by
    rw [List.lookup_cons] at h
    by_cases e : a = b
    · subst e; exact List.mem_cons_self
    · rw [beq_eq_false_iff_ne.mpr e] at h; exact List.mem_cons_of_mem _ (lookup_fst h)
section
variable {P : Params} {cs : List (Addr × Addr)} {mg mb : Str → Option Value}
theorem kok_top (h : ∀ a ∈ tabs cs, a = 330 ∨ a = 415) : KOk (tabs cs) (kTop P) := by
  intro a o e
  have hm : a ∈ (kTop P).map (·.1) := lookup_fst e
  have hk : (kTop P).map (·.1) = [2, 3, 4, 64, 70, 71, 87, 88, 101, 102, 327, 328, 334, 335, 336, 340, 341, 358, 359, 400, 401, 403, 404, 408, 409, 410, 413, 417, 418, 424, 425, 431, 432, 438, 439, 445, 446] := by kernel_rfl
  rw [hk] at hm
  refine ⟨fun ht => ?_, ?_⟩
  · rcases h a ht with e | e <;> subst e <;> revert hm <;> decide
  · have : ∀ x ∈ [2, 3, 4, 64, 70, 71, 87, 88, 101, 102, 327, 328, 334, 335, 336, 340, 341, 358, 359, 400, 401, 403, 404, 408, 409, 410, 413, 417, 418, 424, 425, 431, 432, 438, 439, 445, 446], x < nT := by decide
    exact this a hm
theorem named_top : Named (kTop P) 409 410 359 where
  obj := ⟨_, _, _, _, rfl, rfl, rfl, rfl⟩
  call := by kernel_rfl
  typ := by kernel_rfl
  reads := by kernel_rfl
  new := by kernel_rfl
  sm := by kernel_rfl
  init := by kernel_rfl
theorem getter_top (D : Addr) (i : Int) (h : D = 401 ∧ i = 0 ∨ D = 404 ∧ i = 1) : Getter (kTop P) 88 D i := by
  rcases h with ⟨rfl, rfl⟩ | ⟨rfl, rfl⟩
  · exact ⟨⟨_, _, 400, rfl, rfl, rfl, rfl, rfl, 939, by kernel_rfl⟩, by kernel_rfl⟩
  · exact ⟨⟨_, _, 403, rfl, rfl, rfl, rfl, rfl, 949, by kernel_rfl⟩, by kernel_rfl⟩
theorem field_top0 : Field (kTop P) 409 88 401 71 "slope" 0 where
  cls := ⟨_, rfl, rfl⟩
  hga := by kernel_rfl
  hgh := by kernel_rfl
  attr := by kernel_rfl
  get := by kernel_rfl
  set := by kernel_rfl
  gt := getter_top _ _ (.inl ⟨rfl, rfl⟩)
theorem field_top1 : Field (kTop P) 409 88 404 71 "intercept" 1 where
  cls := ⟨_, rfl, rfl⟩
  hga := by kernel_rfl
  hgh := by kernel_rfl
  attr := by kernel_rfl
  get := by kernel_rfl
  set := by kernel_rfl
  gt := getter_top _ _ (.inr ⟨rfl, rfl⟩)
theorem static_top (hcs : CsOk cs) (ht : ∀ a ∈ tabs cs, a = 330 ∨ a = 415) (h1 : (334, 330) ∈ cs) (h2 : (417, 415) ∈ cs)
    (hg : ∀ x, mg x = nsFind (esIn (kTop P) 3) x) (hb : ∀ x : Str, x ≠ "__name__" → mb x = bootBuiltins x) : Static (kTop P) cs mg mb := by
  have out : ∀ a : Addr, a ≠ 330 → a ≠ 415 → a ∉ tabs cs := fun a p q h => (ht a h).elim p q
  exact {
    csok := hcs
    kok := kok_top ht
    gf := ⟨⟨(hg _).trans (by kernel_rfl), (hb _ (by decide)).trans (by kernel_rfl)⟩, ⟨(hg _).trans (by kernel_rfl), (hb _ (by decide)).trans (by kernel_rfl)⟩, (hg _).trans (by kernel_rfl), (hg _).trans (by kernel_rfl)⟩
    gs := ⟨(hg _).trans (by kernel_rfl), (hg _).trans (by kernel_rfl), (hg _).trans (by kernel_rfl)⟩
    gg := ⟨⟨(hg _).trans (by kernel_rfl), (hb _ (by decide)).trans (by kernel_rfl)⟩, ⟨(hg _).trans (by kernel_rfl), (hb _ (by decide)).trans (by kernel_rfl)⟩, ⟨(hg _).trans (by kernel_rfl), (hb _ (by decide)).trans (by kernel_rfl)⟩⟩
    float := ⟨(hg _).trans (by kernel_rfl), (hb _ (by decide)).trans (by kernel_rfl)⟩
    zde := ⟨(hg _).trans (by kernel_rfl), (hb _ (by decide)).trans (by kernel_rfl)⟩
    err := (hg _).trans (by kernel_rfl)
    errK := ⟨_, _, _, _, _, _, _, _, _, _, _, _, _, _, _, _, _, rfl, rfl, rfl, strKeys_of (by kernel_rfl), by kernel_rfl⟩
    errP := ⟨out _ (by decide) (by decide), out _ (by decide) (by decide)⟩
    lrc := (hg _).trans (by kernel_rfl)
    named := named_top
    base := ⟨_, rfl, rfl⟩
    new := ⟨⟨_, _, rfl⟩, ⟨_, _, 870, rfl, rfl, rfl⟩⟩
    slope := field_top0
    icept := field_top1
    get := ⟨⟨_, _, rfl⟩, ⟨_, _, 423, rfl, rfl, rfl⟩⟩
    getD := ⟨_, 0, rfl, rfl⟩
    bm := ⟨(hg _).trans (by kernel_rfl), by decide, _, rfl, rfl, rfl, rfl⟩
    sq := ⟨(hg _).trans (by kernel_rfl), ⟨⟨_, _, rfl⟩, ⟨_, _, 816, rfl, rfl, rfl⟩⟩⟩
    cov := ⟨(hg _).trans (by kernel_rfl), ⟨⟨_, _, rfl⟩, ⟨_, _, 828, rfl, rfl, rfl⟩⟩, h1⟩
    corr := ⟨(hg _).trans (by kernel_rfl), ⟨⟨_, _, rfl⟩, ⟨_, _, 843, rfl, rfl, rfl⟩⟩⟩
    corrD := ⟨_, _, _, 840, rfl, rfl, strKeys_of (by kernel_rfl), by kernel_rfl⟩
    lr := ⟨(hg _).trans (by kernel_rfl), ⟨⟨_, _, rfl⟩, ⟨_, _, 966, rfl, rfl, rfl⟩⟩, h2⟩
    col := ⟨(hg _).trans (by kernel_rfl), ⟨⟨_, _, rfl⟩, ⟨_, _, 975, rfl, rfl, rfl⟩⟩⟩
    size := ⟨(hg _).trans (by kernel_rfl), ⟨⟨_, _, rfl⟩, ⟨_, _, 989, rfl, rfl, rfl⟩⟩⟩
    line := ⟨(hg _).trans (by kernel_rfl), ⟨⟨_, _, rfl⟩, ⟨_, _, 999, rfl, rfl, rfl⟩⟩⟩
    tie := ⟨(hg _).trans (by kernel_rfl), ⟨⟨_, _, rfl⟩, ⟨_, _, 1009, rfl, rfl, rfl⟩⟩⟩
    zip := ⟨(hg _).trans (by kernel_rfl), (hb _ (by decide)).trans (by kernel_rfl)⟩
    sum := ⟨(hg _).trans (by kernel_rfl), (hb _ (by decide)).trans (by kernel_rfl)⟩
    booked := ⟨_, _, _, rfl, rfl, strKeys_of (by kernel_rfl), by kernel_rfl⟩ }
end
end Mine
end
section
set_option maxRecDepth 100000
set_option Elab.async false
namespace Mine
open PySem PySem.W PySem.Calls PyProof.Rows

noncomputable abbrev rowL : RowW := PySem.Challenge.rw_ij0063_01.row.toRowW

/-- what the argument's shape says -/
theorem no {p : Prop} (h : false = true) : p := absurd h Bool.false_ne_true
theorem ints_of_has : ∀ {xs : List WData}, WShape.hasItems [] xs .int = true → ∃ ns : List Int, xs = ns.map .int
  | [], _ => ⟨[], rfl⟩
  | x :: xs, h => by
    obtain ⟨h1, h2⟩ := Bool.and_eq_true_iff.mp (show (WShape.has [] x .int && WShape.hasItems [] xs .int) = true from h)
    obtain ⟨ns, rfl⟩ := ints_of_has h2
    cases x with
    | int n => exact ⟨n :: ns, rfl⟩
    | none => exact no h1
    | bool _ => exact no h1
    | str _ => exact no h1
    | list _ => exact no h1
    | tuple _ => exact no h1
    | dict _ => exact no h1
    | float _ => exact no h1
    | bytes _ => exact no h1
    | bytearray _ => exact no h1
    | set _ => exact no h1
    | frozenset _ => exact no h1
    | obj _ _ => exact no h1
noncomputable def preB (b : Bool) : Bool := match (match (match (some b).map WData.bool with | some (.bool b) => some (WData.bool (!b)) | _ => none) with
    | some (.bool false) => some (WData.bool false)
    | some (.bool true) => (match some (WData.bool true) with | some (.bool x) => some (WData.bool x) | _ => none)
    | _ => none) with
  | some (.bool true) => true
  | _ => false
theorem one_list {x : WData} (h : (WShape.has [] x (.list .int) && WShape.hasAll [] [] []) = true) : ∃ xs, x = .list xs ∧ WShape.hasItems [] xs .int = true := by
  have h1 := (Bool.and_eq_true_iff.mp h).1
  cases x with
  | list xs => exact ⟨xs, rfl, (Bool.or_false _).symm.trans h1⟩
  | none => exact no h1
  | bool _ => exact no h1
  | str _ => exact no h1
  | int _ => exact no h1
  | tuple _ => exact no h1
  | dict _ => exact no h1
  | float _ => exact no h1
  | bytes _ => exact no h1
  | bytearray _ => exact no h1
  | set _ => exact no h1
  | frozenset _ => exact no h1
  | obj _ _ => exact no h1
theorem pre_is {args : List WData} (h : rowL.claim.pre args = true) : ∃ ns : List Int, args = [.list (ns.map .int)] ∧ ns.length ≤ 63 := by
  obtain ⟨h1, h2⟩ := Bool.and_eq_true_iff.mp (show (WShape.hasAll [] args [.list .int] && PySem.Challenge.rw_ij0063_01.pre.holds [] { args := args }) = true from h)
  match args, h1, h2 with
  | [], h1, _ => exact no h1
  | [x], h1, h2 =>
    obtain ⟨xs, rfl, h3⟩ := one_list h1
    obtain ⟨ns, rfl⟩ := ints_of_has h3
    refine ⟨ns, rfl, ?_⟩
    have h4 : preB (decide ((63 : Int) < ((ns.map WData.int).length : Int))) = true := h2
    rw [List.length_map] at h4
    cases hd : decide ((63 : Int) < (ns.length : Int)) with
    | true => rw [hd] at h4; exact no h4
    | false => exact Nat.le_of_not_lt fun q => of_decide_eq_false hd (Int.ofNat_lt.mpr q)
  | x :: y :: r, h1, _ => exact no ((Bool.and_eq_true_iff.mp h1).2 : WShape.hasAll [] (y :: r) [] = true)
theorem post_is {args : List WData} : rowL.claim.post args (.bool true) args = true := by kernel_rfl

theorem reps_of_reads {cl : Str → Option Addr} {h : Heap} : ∀ {ns : List Int} {vs : List Value} {as : List Addr}, ReadsAllW [] cl h vs (ns.map .int) as → Reps (ns.map .int) vs
  | [], _, _, h => by cases h; exact .nil
  | n :: ns, _, _, h => by
    cases h with
    | cons h1 h2 =>
      cases h1
      exact .cons (.int _ _) (reps_of_reads h2)
end Mine
end
section
set_option maxRecDepth 100000
set_option Elab.async false
namespace Mine
open PySem PySem.W PySem.Calls PyProof.Rows

noncomputable def YP (w : World) (h : Heap) : Prop := (kTop w.params).In h ∧ tabTop.In h

/-- the last object of a heap -/
theorem last_from {h : Heap} {a : Nat} {o : Obj} (e : h.get? a = some o) : ∀ k : Nat, (∀ (b : Nat) (o : Obj), h.get? b = some o → b ≤ a + k) → ∃ n : Nat, a ≤ n ∧ (∃ o, h.get? n = some o) ∧ ∀ (b : Nat) (o : Obj), h.get? b = some o → b ≤ n
  | 0, l => ⟨a, Nat.le_refl _, ⟨o, e⟩, l⟩
  | k + 1, l => by
    cases hg : h.get? (a + k + 1) with
    | some o' => exact ⟨a + k + 1, by omega, ⟨o', hg⟩, l⟩
    | none =>
      refine last_from e k fun b o' e' => ?_
      have h1 := l b o' e'
      have h2 : b ≠ a + k + 1 := by rintro rfl; rw [hg] at e'; cases e'
      omega
theorem last_obj {h : Heap} {a : Nat} {o : Obj} (e : h.get? a = some o) : ∃ n : Nat, a ≤ n ∧ (∃ o, h.get? n = some o) ∧ ∀ (b : Nat) (o : Obj), h.get? b = some o → b ≤ n :=
  last_from e h.objs.size fun b o' e' => by have : b < h.objs.size := Heap.lt_size e'; omega

noncomputable def csOf (n : Nat) : List (Addr × Addr) := (334, 330) :: (417, 415) :: List.replicate (n - 1) (334, 330)
theorem csOf_mem {n : Nat} {p : Addr × Addr} (h : p ∈ csOf n) : p = (334, 330) ∨ p = (417, 415) := by
  unfold csOf at h
  rcases List.mem_cons.mp h with h | h
  · exact .inl h
  · rcases List.mem_cons.mp h with h | h
    · exact .inr h
    · exact .inl (List.eq_of_mem_replicate h)
theorem csOf_tabs {n : Nat} {a : Addr} (h : a ∈ tabs (csOf n)) : a = 330 ∨ a = 415 := by
  obtain ⟨p, hp, rfl⟩ := List.mem_map.mp h
  rcases csOf_mem hp with rfl | rfl
  · exact .inl rfl
  · exact .inr rfl
theorem csOf_ok {n : Nat} : CsOk (csOf n) := by
  refine ⟨fun p hp q hq => ?_, fun p hp q hq e => ?_⟩
  · rcases csOf_mem hp with rfl | rfl <;> rcases csOf_mem hq with rfl | rfl <;> decide
  · rcases csOf_mem hp with rfl | rfl <;> rcases csOf_mem hq with rfl | rfl <;> first | rfl | (exfalso; revert e; decide)
theorem csOf_top {n : Nat} (h : 451 ≤ n) : topOf (tabs (csOf n)) = n := by
  unfold topOf
  have e : (tabs (csOf n)).length = n + 1 := by
    unfold tabs csOf
    rw [List.length_map, List.length_cons, List.length_cons, List.length_replicate]
    omega
  rw [e, Nat.add_sub_cancel]
  exact Nat.max_eq_right h
theorem tab_330 {w : World} {h : Heap} (Y : YP w h) : h.IsCode 334 330 #[] ∧ h.TableAt 334 330 #[] := by
  have t : h.get? 330 = some { cls := .none, data := .fields #[] } := Y.2 330 _ rfl
  exact ⟨⟨_, _, _, _, _, _, _, _, _, _, Y.1 334 _ rfl, rfl, rfl, rfl, rfl, rfl, rfl, t, rfl, trivial, by decide⟩, ⟨⟨_, _, Y.1 334 _ rfl, rfl, rfl, rfl⟩, t⟩⟩
theorem tab_415 {w : World} {h : Heap} (Y : YP w h) : h.IsCode 417 415 #[] ∧ h.TableAt 417 415 #[] := by
  have t : h.get? 415 = some { cls := .none, data := .fields #[] } := Y.2 415 _ rfl
  exact ⟨⟨_, _, _, _, _, _, _, _, _, _, Y.1 417 _ rfl, rfl, rfl, rfl, rfl, rfl, rfl, t, rfl, trivial, by decide⟩, ⟨⟨_, _, Y.1 417 _ rfl, rfl, rfl, rfl⟩, t⟩⟩
theorem tt_top {w : World} {h : Heap} {n : Nat} (Y : YP w h) : TT (csOf n) h := by
  intro p hp
  rcases csOf_mem hp with rfl | rfl
  · exact ⟨by decide, by decide, _, tab_330 Y⟩
  · exact ⟨by decide, by decide, _, tab_415 Y⟩

/-- what stood before the call stands behind it, but for the two code tables, which grew -/
theorem oldK_of {w : World} {h h' : Heap} {n : Nat} (Y : YP w h) (hn : 451 ≤ n) (last : ∀ b o, h.get? b = some o → b ≤ n) (g : Grow (tabs (csOf n)) h h') (t : TT (csOf n) h') : OldK h h' := by
  have old : ∀ b o, h.get? b = some o → b ∉ tabs (csOf n) → h'.get? b = some o := fun b o e hb => by
    obtain ⟨o', e', k⟩ := g b o hb e
    rcases k with rfl | ⟨⟨x, _⟩, _⟩
    · exact e'
    · rw [csOf_top hn] at x
      exact absurd (last b o e) (Nat.not_le.mpr x)
  have tab : ∀ c P, (c, P) ∈ csOf n → h.TableAt c P #[] → asItWas h h' P { cls := .none, data := .fields #[] } ∧ ∃ o', h'.get? P = some o' := fun c P hm ht => by
    obtain ⟨_, _, ps, _, x⟩ := t _ hm
    exact ⟨.inr (.inl ⟨ht.isCodeTable, rfl, #[], ps, rfl, by rw [Array.empty_append]; exact x.2⟩), _, x.2⟩
  have at0 := tab_330 Y
  have at1 := tab_415 Y
  have both : ∀ b o, h.get? b = some o → asItWas h h' b o ∧ ∃ o', h'.get? b = some o' := fun b o e => by
    by_cases hb : b ∈ tabs (csOf n)
    · rcases csOf_tabs hb with rfl | rfl
      · have z := tab 334 330 List.mem_cons_self at0.2
        have : o = { cls := .none, data := .fields #[] } := Option.some.inj (e.symm.trans at0.2.2)
        subst this
        exact z
      · have z := tab 417 415 (List.mem_cons_of_mem _ List.mem_cons_self) at1.2
        have : o = { cls := .none, data := .fields #[] } := Option.some.inj (e.symm.trans at1.2.2)
        subst this
        exact z
    · exact ⟨.inl (old b o e hb), o, old b o e hb⟩
  exact ⟨fun b o e => (both b o e).1, fun b o e => (both b o e).2⟩

theorem world_top {q : Program} {loose : List Str} {R : WRecords} {XP : (Str → Option Value) → Heap → Prop} {w : World} {s₀ : Shared} {mg mb : Str → Option Value} {h : Heap} {n : Nat} (G : Ground q loose R XP w s₀ mg mb h) (Y : YP w h) (hn : 451 ≤ n) (ho : ∃ o, h.get? n = some o) :
    Wd (kTop w.params) (csOf n) mg mb h := by
  refine ⟨⟨G.T.g, G.T.b, G.T.nolimit, ?_, ?_, tt_top Y, ?_, ?_, ?_⟩, Y.1⟩
  · rw [csOf_top hn]
    intro hm
    have hn' : 451 ≤ (n : Nat) := hn
    rcases csOf_tabs hm with e | e
    · have e' : (n : Nat) = 330 := e
      omega
    · have e' : (n : Nat) = 415 := e
      omega
  · rw [csOf_top hn]; exact ho
  · intro hm; rcases csOf_tabs hm with e | e <;> revert e <;> decide
  · intro hm; rcases csOf_tabs hm with e | e <;> revert e <;> decide
  · intro hm; rcases csOf_tabs hm with e | e <;> revert e <;> decide
theorem ns_in {K : Frag} {h : Heap} {a : Addr} {mg : Str → Option Value} (X : K.In h) (g : h.Ns a mg) (hs : (K.lookup a).isSome = true) : ∀ x, mg x = nsFind (esIn K a) x := by
  obtain ⟨o, es, ep, h1, h2, h3, h4⟩ := g
  cases hk : K.lookup a with
  | none => rw [hk] at hs; cases hs
  | some o' =>
    have e : o = o' := Option.some.inj (h1.symm.trans (X _ _ hk))
    subst e
    intro x
    have q : esIn K a = es := by
      unfold esIn
      rw [hk]
      obtain ⟨c, d, dt, sl⟩ := o
      dsimp only at h2
      subst h2
      rfl
    rw [q]; exact (h4 x).symm
theorem static_ground {q : Program} {loose : List Str} {R : WRecords} {XP : (Str → Option Value) → Heap → Prop} {w : World} {s₀ : Shared} {mg mb : Str → Option Value} {h : Heap} {n : Nat} (G : Ground q loose R XP w s₀ mg mb h) (Y : YP w h) :
    Static (kTop w.params) (csOf n) mg mb :=
  static_top csOf_ok (fun a ha => csOf_tabs ha) List.mem_cons_self (List.mem_cons_of_mem _ List.mem_cons_self) (ns_in Y.1 G.T.g (by kernel_rfl)) fun x hx => G.T.builtins x hx
theorem law_at {q : Program} {loose : List Str} {R : WRecords} {XP : (Str → Option Value) → Heap → Prop} {w : World} {s₀ : Shared} {mg mb : Str → Option Value} {h : Heap} (G : Ground q loose R XP w s₀ mg mb h) (Y : YP w h) : mg "law" = some (.ref 451) :=
  (ns_in Y.1 G.T.g (by kernel_rfl) "law").trans (by kernel_rfl)
theorem reads_list {cl : Str → Option Addr} {h : Heap} {ns : List Int} {vals : List Value} {as : List Addr} (hrd : ReadsAllW [] cl h vals [.list (ns.map .int)] as) : ∃ b, vals = [.ref b] ∧ IsAV h b (ns.map .int) := by
  cases hrd with
  | cons r1 r2 =>
    cases r2
    cases r1 with
    | list hb hc hdat hrs => exact ⟨_, rfl, _, ⟨_, hb, hc, _, by rw [Array.toArray_toList]; exact hdat⟩, reps_of_reads hrs⟩

theorem law_walk {q : Program} {loose : List Str} {XP : (Str → Option Value) → Heap → Prop} : WalkO q loose XP YP rowL dLaw [] fun f vs => PySem.call f vs := by
  intro w s₀ s₁ mg mb G Y a o pm cd doc dV kV ho hd hcd hD hmg hgens args vals as hpre hlay hrd hwl hlo
  obtain ⟨ns, rfl, hlen⟩ := pre_is hpre
  have hdV : dV = .none := hD.pos.elim (fun x => x.2) fun x => absurd rfl x.1
  have hkV : kV = .none := hD.kw.elim (fun x => x.2) fun x => absurd rfl x.1
  subst hdV hkV
  obtain ⟨b, rfl, hl⟩ := reads_list hrd
  obtain ⟨top, htop, hobj, hlast⟩ := last_obj (Y.1 446 _ rfl)
  have htop' : 451 ≤ top := by
    have e1 : mg dLaw.name = some (.ref 451) := dLaw_name ▸ law_at G Y
    have e2 : a = 451 := by have := hmg.symm.trans e1; injection this with this; injection this
    exact e2 ▸ hlast a o ho
  refine call_law (cs := csOf top) (static_ground (n := top) G Y) (world_top G Y htop' hobj) rfl (by decide +kernel) rfl (by decide +kernel) ho hd hcd hlen hl fun s' A => ?_
  refine ⟨.inl ⟨_, _, [], rfl, fun cls => rfl, .bool true, post_is, fun _ => ⟨List.nodup_nil, fun a ha => by cases ha⟩⟩, oldK_of Y htop' hlast A.grow A.tb, A.os, A.gens ?_⟩
  rw [hgens]
  exact fun y hy => by simp at hy
end Mine
end
section
set_option maxRecDepth 1000000
set_option Elab.async false
namespace Mine
open PySem PySem.W
noncomputable abbrev pw : Program := PySem.Challenge.pw_ij0063_01

noncomputable def impG (st : SharedT → Thread → Option (SharedT × Thread)) (ex : Thread → Option (List Value)) : Nat → SharedT → Thread → Option SharedT
  | 0, _, _ => none
  | n + 1, s, t => match ex t with
    | some [] => some s
    | some (_ :: _) => none
    | none => match st s t with
      | some (s', t') => impG st ex n s' t'
      | none => none
noncomputable def topG (st : SharedT → Thread → Option (SharedT × Thread)) (ok : Thread → Bool) : Nat → SharedT → Thread → Option SharedT
  | 0, _, _ => none
  | n + 1, s, t => match through t with
    | true => some s
    | false => match ok t with
      | false => none
      | true => match st s t with
        | some (s', t') => topG st ok n s' t'
        | none => none
noncomputable def reList : List Obj → BT → Nat → Option BT
  | [], T, _ => some T
  | o :: r, T, n => match ((T.ins n o).get n).isSome with
    | true => reList r (T.ins n o) (n + 1)
    | false => none
noncomputable def reT (s : Shared) : Option SharedT := (reList s.heap.objs.toList .nil 0).map fun T => ⟨T, s.heap.objs.size, s.heap.life, s.gens, s.drawn, s.toks, s.os⟩

noncomputable abbrev stepQ := PySem.W.Fast.tw10156331382660048174
noncomputable abbrev denQ := PySem.W.Fast.tw11892475500146522536
noncomputable abbrev tabQ := PySem.W.Fast.tw14364793385576792824
noncomputable abbrev okQ := PySem.W.Fast.tw6613529449190102663
noncomputable abbrev exQ := PySem.W.Fast.tw3805553451399329143
noncomputable abbrev fenceQ := PySem.W.Fast.tw14289696077712309145
noncomputable abbrev startQ := PySem.W.Fast.tw1435165496053646825
noncomputable abbrev seenQ := PySem.W.Fast.tw4187177175401517315
noncomputable abbrev nsMapQ := PySem.W.Fast.tw8920871248978507458
noncomputable abbrev modsQ := PySem.W.Fast.tw5923862056798008813
noncomputable def s00 : SharedT := ⟨.nil, 0, {}, #[], {}, 1, (startQ (opening pw)).1.os⟩
noncomputable def opQ (w : World) : Option SharedT := impG (stepQ (denQ tabQ) (opening pw) w) exQ 8000 s00 (startQ (opening pw)).2
noncomputable def fenQ (w : World) : Option Shared := (opQ w).bind fun s => fenceQ pw s.abs
noncomputable def fenT (w : World) : Option SharedT := (fenQ w).bind reT
noncomputable def topQ (w : World) : Option SharedT := (fenT w).bind fun s => topG (stepQ (denQ tabQ) pw w) (okQ s.n (nsMapQ s.abs.heap mainGlobals "__annotations__")) 8000 s (topStub pw)

/-- the view: the line of modules and the law -/
noncomputable def qv : Program := view pw [0, 28]
noncomputable def loose : List Str := ["_wall", "_tuplegetter", "StatisticsError", "_MAXSIZE", "_is_int", "_pull", "_same", "groupby", "_grouper", "_count_kind", "count", "itemgetter", "_rank", "_sqrtprod", "covariance", "correlation", "LinearRegression", "linear_regression", "_law_column", "_law_size", "_law_line", "_law_tie"].map Str.ofString
noncomputable def mods : List Str := importedModules pw.main.body
noncomputable def evalQ {α : Type} (Yf : Shared → α) (w : World) :=
  (fenT w).bind fun s => (topG (stepQ (denQ tabQ) pw w) (okQ s.n (nsMapQ s.abs.heap mainGlobals "__annotations__")) 8000 s (topStub pw)).map fun s' =>
    ((s.abs.heap.isNs mainGlobals && s.abs.gens.size == 0) && (staticsOk mods s.abs.heap s'.abs.heap && namesBound pw s'.abs.heap && gensDone s'.abs && laidKept s.abs.heap s'.abs.heap), seenQ qv loose mods (fun _ => true) true s'.abs, Yf s'.abs)

theorem impG_spec {tb : String → Option Builtin} {p : Program} {w : World} : ∀ {n : Nat} {s s' : SharedT} {t : Thread}, impG (stepT (denote tb) p w) Thread.atExitBegin n s t = some s' → importEnds tb p w n s.abs t = some s'.abs
  | 0, _, _, _, h => by cases h
  | n + 1, s, s', t, h => by
    unfold impG at h
    unfold importEnds
    cases he : t.atExitBegin with
    | some l =>
      rw [he] at h
      cases l with
      | nil => cases h; rfl
      | cons _ _ => cases h
    | none =>
      rw [he] at h
      cases hs : stepT (denote tb) p w s t with
      | none => rw [hs] at h; cases h
      | some r => obtain ⟨s₂, t₂⟩ := r; rw [hs] at h; dsimp only; rw [stepT_spec hs]; exact impG_spec h
theorem topG_spec {tb : String → Option Builtin} {p : Program} {w : World} {n₀ : Nat} {ann : Option Value} : ∀ {n : Nat} {s s' : SharedT} {t : Thread}, topG (stepT (denote tb) p w) (stepOk n₀ ann) n s t = some s' → topRun tb p w n₀ ann n s.abs t = some s'.abs
  | 0, _, _, _, h => by cases h
  | n + 1, s, s', t, h => by
    unfold topG at h
    unfold topRun
    cases he : through t with
    | true => rw [he] at h; cases h; rfl
    | false =>
      rw [he] at h
      cases hk : stepOk n₀ ann t with
      | false => rw [hk] at h; cases h
      | true =>
        rw [hk] at h
        cases hs : stepT (denote tb) p w s t with
        | none => rw [hs] at h; cases h
        | some r => obtain ⟨s₂, t₂⟩ := r; rw [hs] at h; dsimp only; rw [stepT_spec hs]; exact topG_spec h
theorem reList_spec {life : Life} : ∀ (l : List Obj) (T : BT) (n : Nat) (T' : BT), reList l T n = some T' → absHeap T' (n + l.length) life = ⟨(absHeap T n life).objs ++ l.toArray, life⟩
  | [], T, n, T', h => by cases h; show absHeap T n life = ⟨(absHeap T n life).objs ++ #[], life⟩; rw [Array.append_empty]; rfl
  | o :: r, T, n, T', h => by
    unfold reList at h
    cases hg : ((T.ins n o).get n).isSome with
    | false => rw [hg] at h; cases h
    | true =>
      rw [hg] at h
      have := reList_spec (life := life) r _ _ _ h
      rw [List.length_cons, show n + (r.length + 1) = n + 1 + r.length by omega, this, absHeap_ins hg]
      show (⟨((absHeap T n life).objs.push o) ++ r.toArray, life⟩ : Heap) = _
      congr 1
      apply Array.ext'
      simp
theorem reT_spec {s : Shared} {sT : SharedT} (h : reT s = some sT) : sT.abs = s := by
  obtain ⟨T, hT, rfl⟩ := Option.map_eq_some_iff.mp h
  have := reList_spec (life := s.heap.life) _ _ _ _ hT
  obtain ⟨⟨objs, life⟩, gens, drawn, toks, os⟩ := s
  show (⟨absHeap T objs.size life, gens, drawn, toks, os⟩ : Shared) = _
  have e : absHeap T objs.size life = ⟨objs, life⟩ := by
    rw [Nat.zero_add] at this
    have h2 : absHeap T objs.size life = absHeap T objs.toList.length life := by rw [Array.length_toList]
    rw [h2]
    refine this.trans ?_
    congr 1
    apply Array.ext'
    show ((absHeap .nil 0 life).objs ++ objs.toList.toArray).toList = objs.toList
    unfold absHeap BT.list
    simp
  rw [e]

noncomputable def evalG {α : Type} (p q : Program) (loose : List Str) (Yf : Shared → α) (w : World) :=
  ((((impG (stepT (denote treeTable) (opening p) w) Thread.atExitBegin 8000 ⟨.nil, 0, {}, #[], {}, 1, (start (opening p)).1.os⟩ (start (opening p)).2).bind fun s => fenceModules? p s.abs).bind reT).bind fun s => (topG (stepT (denote treeTable) p w) (stepOk s.n (s.abs.heap.nsMap mainGlobals "__annotations__")) 8000 s (topStub p)).map fun s' =>
    ((s.abs.heap.isNs mainGlobals && s.abs.gens.size == 0) && (staticsOk (importedModules p.main.body) s.abs.heap s'.abs.heap && namesBound p s'.abs.heap && gensDone s'.abs && laidKept s.abs.heap s'.abs.heap), openSeen q loose (importedModules p.main.body) (fun _ => true) true s'.abs, Yf s'.abs))
theorem left_gen {α : Type} {p q : Program} {loose : List Str} {Yf : Shared → α} {Ya : World → α} (h : ∀ w, evalG p q loose Yf w = some (true, openGood q loose, Ya w)) : LeftO p q loose (fun _ => true) Yf Ya 8000 := by
  intro w
  have h := h w
  unfold evalG at h
  obtain ⟨sT, h3, h2⟩ := Option.bind_eq_some_iff.mp h
  obtain ⟨s₀, h1, h4⟩ := Option.bind_eq_some_iff.mp h3
  obtain ⟨s1, h5, h6⟩ := Option.bind_eq_some_iff.mp h1
  obtain ⟨s', h7, h8⟩ := Option.map_eq_some_iff.mp h2
  have a1 := impG_spec h5
  have hs : sT.abs = s₀ := reT_spec h4
  have hn : sT.n = s₀.heap.objs.size := by
    obtain ⟨T, hT, rfl⟩ := Option.map_eq_some_iff.mp h4
    rfl
  have a2 := topG_spec h7
  rw [hs, hn] at a2
  rw [hs] at h8
  obtain ⟨b1, b2⟩ := Prod.mk.inj h8
  obtain ⟨b2, b3⟩ := Prod.mk.inj b2
  obtain ⟨c1, c2⟩ := Bool.and_eq_true_iff.mp b1
  have s00abs : (⟨.nil, 0, {}, #[], {}, 1, (start (opening p)).1.os⟩ : SharedT).abs = (start (opening p)).1 := by
    unfold SharedT.abs absHeap BT.list start
    simp
  rw [s00abs] at a1
  have f1 : fencedOpening treeTable p w 8000 = some s₀ := by
    unfold fencedOpening
    rw [a1]; exact h6
  have f2 : topFrom treeTable p w 8000 s₀ = some s'.abs := by
    unfold topFrom
    rw [c1, a2]
    show (match (staticsOk (importedModules p.main.body) s₀.heap s'.abs.heap && namesBound p s'.abs.heap && gensDone s'.abs && laidKept s₀.heap s'.abs.heap) with | true => some s'.abs | false => none) = some s'.abs
    rw [c2]
  unfold openEnds
  rw [f1]
  show (topFrom treeTable p w 8000 s₀).map _ = _
  rw [f2]
  show some (openSeen q loose (importedModules p.main.body) (fun _ => true) true s'.abs, Yf s'.abs) = _
  rw [b2, b3]
theorem evalQ_eq {α : Type} (Yf : Shared → α) (w : World) : evalQ Yf w = evalG pw qv loose Yf w := by
  have e1 : stepQ = @stepT := PySem.W.Fast.te10156331382660048174.symm
  have e2 : denQ = @denote := PySem.W.Fast.te11892475500146522536.symm
  have e3 : tabQ = treeTable := PySem.W.Fast.te14364793385576792824.symm
  have e4 : okQ = @stepOk := PySem.W.Fast.te6613529449190102663.symm
  have e5 : exQ = @Thread.atExitBegin := PySem.W.Fast.te3805553451399329143.symm
  have e6 : fenceQ = @fenceModules? := PySem.W.Fast.te14289696077712309145.symm
  have e7 : startQ = @start := PySem.W.Fast.te1435165496053646825.symm
  have e8 : seenQ = @openSeen := PySem.W.Fast.te4187177175401517315.symm
  have e9 : nsMapQ = @Heap.nsMap := PySem.W.Fast.te8920871248978507458.symm
  unfold evalQ fenT fenQ opQ s00 evalG mods
  rw [e1, e2, e3, e4, e5, e6, e7, e8, e9]
theorem left {α : Type} {Yf : Shared → α} {Ya : World → α} (h : ∀ w, evalQ Yf w = some (true, openGood qv loose, Ya w)) : LeftO pw qv loose (fun _ => true) Yf Ya 8000 :=
  left_gen fun w => (evalQ_eq Yf w).symm.trans (h w)
end Mine
end
section
set_option maxRecDepth 1000000
set_option Elab.async false
namespace Mine
open PySem PySem.W PySem.Calls PyProof.Rows
noncomputable def asK : List Addr := [2, 3, 4, 64, 70, 71, 87, 88, 101, 102, 327, 328, 334, 335, 336, 340, 341, 358, 359, 400, 401, 403, 404, 408, 409, 410, 413, 417, 418, 424, 425, 431, 432, 438, 439, 445, 446]
noncomputable def asT : List Addr := [330, 415]
noncomputable def Yf (s : Shared) : List (Option Obj) × List (Option Obj) := (asK.map s.heap.get?, asT.map s.heap.get?)
noncomputable def Ya (w : World) : List (Option Obj) × List (Option Obj) := ((kTop w.params).map fun p => some p.2, tabTop.map fun p => some p.2)
theorem evalQ_top (w : World) : evalQ Yf w = some (true, openGood qv loose, Ya w) := by kernel_rfl
end Mine
end
section
set_option maxRecDepth 1000000
set_option Elab.async false
namespace Mine
open PySem PySem.W PySem.Calls PyProof.Rows
theorem yp_of (w : World) (s : Shared) (e : Yf s = Ya w) : YP w s.heap := ⟨Frag.in_of (as := asK) (by kernel_rfl) (congrArg Prod.fst e), Frag.in_of (as := asT) rfl (congrArg Prod.snd e)⟩
theorem yp_keeps (w : World) (h h' : Heap) (Y : YP w h) (k : ∀ b o, h.get? b = some o → h'.get? b = some o) : YP w h' := ⟨Frag.In.keeps Y.1 k, Frag.In.keeps Y.2 k⟩
theorem def_law : defOf qv "law" = some (dLaw, []) := by kernel_rfl
theorem said_law : PySem.Challenge.rw_ij0063_01.wellSaid = true := by kernel_rfl
theorem prom_law : PySem.Challenge.rw_ij0063_01.row.toRowW.promised := ⟨[.list []], by kernel_rfl, by kernel_rfl⟩
end Mine
end
open PySem PySem.W PySem.Calls PyProof.Rows
set_option maxRecDepth 1000000 in
theorem PySem.Challenge.cw_ij0063_01_holds : PySem.Challenge.rw_ij0063_01.Holds :=
  PySem.W.holds_law Mine.said_law fun said =>
    PySem.W.holds_open (q := Mine.qv) (loose := Mine.loose) (Xt := fun _ => true) (XP := fun _ _ => True) (Yf := Mine.Yf) (Ya := Mine.Ya) (YP := Mine.YP) (d := Mine.dLaw) (kwd := []) (N := 8000)
      (Mine.left Mine.evalQ_top) Mine.yp_of Mine.yp_keeps (fun _ _ => trivial) (fun _ _ _ _ _ => trivial) Mine.def_law (by kernel_rfl) (by kernel_rfl) (fun s _ => PySem.W.recFacts_of (R := []) (s := s) rfl) (by rfl) said (by kernel_rfl) ⟨rfl, rfl, rfl, rfl, rfl, by decide +kernel⟩ Mine.prom_law Mine.law_walk
