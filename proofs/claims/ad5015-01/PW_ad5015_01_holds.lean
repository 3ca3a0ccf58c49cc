import PyProof.Rows.All
import Wide.All
import OpenK.AllK
import Wide.FinOn
import Lean
import PySem.Challenge.RW_ad5015_01
set_option Elab.async false
set_option rowWalk.seconds 0
section
open PySem PySem.W PyProof.Rows
namespace Mine
set_option maxRecDepth 100000 in
set_option maxHeartbeats 8000000 in
open_top hd for PySem.Challenge.rw_ad5015_01
end Mine
end
section
open PySem PySem.Float64
namespace Mine

def Fin (x : UInt64) : Prop := ∃ a m e, decode x = .fin a m e
def G : Int := 2 ^ 1054
def w (x : UInt64) : Int := val x / G
theorem G_pos : 0 < G := by unfold G; exact Int.pow_pos (by decide)
theorem U_eq : (2 : Int) ^ 1074 = 1048576 * G := by unfold G; rw [show 1074 = 20 + 1054 from rfl, Int.pow_add]; rfl
theorem H_eq : (2 : Int) ^ 1073 = 524288 * G := by unfold G; rw [show 1073 = 19 + 1054 from rfl, Int.pow_add]; rfl
theorem le_w {x : UInt64} {n : Int} : n ≤ w x ↔ n * G ≤ val x := Int.le_ediv_iff_mul_le G_pos
theorem w_lt {x : UInt64} {n : Int} : w x < n ↔ val x < n * G := Int.ediv_lt_iff_lt_mul G_pos
theorem w_le {x : UInt64} {n : Int} (h : val x ≤ n * G) : w x ≤ n := by
  have h2 : w x < n + 1 := w_lt.mpr (by have := G_pos; rw [Int.add_mul]; omega)
  omega
theorem w_of {x : UInt64} {n : Int} (h : val x = n * G) : w x = n := by
  have h1 := le_w.mpr (Int.le_of_eq h.symm)
  have h2 := w_le (Int.le_of_eq h)
  omega

theorem up (n : Nat) (h0 : 0 < n) (h : n ≤ 2 ^ 53) : ∃ j, j ≤ 52 ∧ 2 ^ 52 ≤ n * 2 ^ j ∧ n * 2 ^ j ≤ 2 ^ 53 := by
  by_cases h5 : n = 2 ^ 53
  · exact ⟨0, by omega, by omega, by omega⟩
  · have hne : n ≠ 0 := by omega
    have h1 := Nat.log2_self_le hne
    have h2 : n < 2 ^ (n.log2 + 1) := Nat.lt_log2_self
    have hl : n.log2 ≤ 52 := by
      have : n.log2 < 53 := (Nat.log2_lt hne).mpr (by omega)
      omega
    refine ⟨52 - n.log2, by omega, ?_, ?_⟩
    · calc 2 ^ 52 = 2 ^ n.log2 * 2 ^ (52 - n.log2) := by rw [← Nat.pow_add]; congr 1; omega
        _ ≤ _ := Nat.mul_le_mul_right _ h1
    · calc n * 2 ^ (52 - n.log2) ≤ 2 ^ (n.log2 + 1) * 2 ^ (52 - n.log2) := Nat.mul_le_mul_right _ (Nat.le_of_lt h2)
        _ = 2 ^ 53 := by rw [← Nat.pow_add]; congr 1; omega

theorem rep (n k : Nat) (hn : n ≤ 2 ^ 53) (hk : 60 ≤ k) (hk2 : k ≤ 1900) : ∃ t, t < infMag ∧ V t = n * 2 ^ k := by
  by_cases h0 : n = 0
  · subst h0
    exact ⟨0, by decide, by rw [V_zero]; omega⟩
  · obtain ⟨j, hj, h1, h2⟩ := up n (by omega) hn
    refine ⟨(k - j) * 2 ^ 52 + n * 2 ^ j, ?_, ?_⟩
    · have hi : infMag = 2047 * 2 ^ 52 := rfl
      rw [hi]; omega
    · rw [V_at h2 (.inl h1), Nat.mul_assoc, ← Nat.pow_add]
      congr 2; omega

theorem right_mono {r : UInt64} {neg : Bool} {W D : Nat} (h : Right r neg W D) (hD : 0 < D) (hno : W ≤ D * 2 ^ 1200) :
    ∃ t, r = pack neg t ∧ t < infMag ∧ (∀ t₀, D * V t₀ ≤ W → V t₀ ≤ V t) ∧ (∀ t₀, W ≤ D * V t₀ → V t ≤ V t₀) := by
  obtain ⟨t, hr, hle, hinf, hn⟩ := h
  have hlt : t < infMag := by
    rcases Nat.lt_or_eq_of_le hle with h | h
    · exact h
    · exfalso
      have h2 := hinf.mp h
      have h3 : D * (2 * 2 ^ 1200) < D * ((2 ^ 54 - 1) * 2 ^ 2045) := by
        refine Nat.mul_lt_mul_of_pos_left ?_ hD
        calc 2 * 2 ^ 1200 = 2 ^ 1201 := by rw [show (1201 : Nat) = 1 + 1200 from rfl, Nat.pow_add]
          _ ≤ 2 ^ 2045 := Nat.pow_le_pow_right (by decide) (by decide)
          _ < (2 ^ 54 - 1) * 2 ^ 2045 := by
            have := Nat.two_pow_pos 2045
            generalize (2 : Nat) ^ 2045 = q at *
            omega
      have h4 : D * (2 * 2 ^ 1200) = 2 * (D * 2 ^ 1200) := Nat.mul_left_comm _ _ _
      generalize D * ((2 ^ 54 - 1) * 2 ^ 2045) = A at *
      generalize D * 2 ^ 1200 = B at *
      omega
  have hn := hn hlt
  refine ⟨t, hr, hlt, fun t₀ h0 => ?_, fun t₀ h0 => ?_⟩
  · rcases Nat.lt_or_ge (V t) (V t₀) with hl | hl
    · exfalso
      have h5 := (hn t₀).1
      have h6 := Nat.mul_lt_mul_of_pos_left hl hD
      unfold PySem.Float64.dist at h5
      omega
    · exact hl
  · rcases Nat.lt_or_ge (V t₀) (V t) with hl | hl
    · exfalso
      have h5 := (hn t₀).1
      have h6 := Nat.mul_lt_mul_of_pos_left hl hD
      unfold PySem.Float64.dist at h5
      omega
    · exact hl

theorem V_inj {a b : Nat} (h : V a = V b) : a = b := by
  rcases Nat.lt_trichotomy a b with h1 | h1 | h1
  · have := V_lt h1; omega
  · exact h1
  · have := V_lt h1; omega

theorem right_exact {r : UInt64} {neg : Bool} {W D t₀ : Nat} (h : Right r neg W D) (hD : 0 < D) (hno : W ≤ D * 2 ^ 1200) (h0 : D * V t₀ = W) : r = pack neg t₀ := by
  obtain ⟨t, hr, _, h1, h2⟩ := right_mono h hD hno
  have a := h1 t₀ (by omega)
  have b := h2 t₀ (by omega)
  rw [hr, V_inj (show V t = V t₀ by omega)]

theorem fin_pack (neg : Bool) {t : Nat} (h : t < infMag) : Fin (pack neg t) := by
  obtain ⟨m, e, hd, _⟩ := decode_pack neg h
  exact ⟨_, _, _, hd⟩

theorem right_fin {r : UInt64} {neg : Bool} {W D : Nat} (h : Right r neg W D) (hD : 0 < D) (hno : W ≤ D * 2 ^ 1200) : Fin r := by
  obtain ⟨t, hr, hlt, _⟩ := right_mono h hD hno
  exact hr ▸ fin_pack neg hlt

theorem G_nat : ((2 ^ 1054 : Nat) : Int) = G := by unfold G; exact Int.natCast_pow 2 1054

theorem right_w {r : UInt64} {neg : Bool} {W D : Nat} (h : Right r neg W D) (hD : 0 < D) (hno : W ≤ D * 2 ^ 1200) (n : Int) (hn : n.natAbs ≤ 2 ^ 53) :
    (n * G * D ≤ sgn neg W → n ≤ w r) ∧ (sgn neg W ≤ n * G * D → val r ≤ n * G) := by
  obtain ⟨t, hr, hlt, h1, h2⟩ := right_mono h hD hno
  obtain ⟨t₀, _, hV⟩ := rep n.natAbs 1054 hn (by decide) (by decide)
  have hval : val r = sgn neg (V t) := hr ▸ val_pack neg hlt
  have hVi : ((V t₀ : Nat) : Int) = (n.natAbs : Int) * G := by rw [hV, Int.natCast_mul, G_nat]
  have k1 := h1 t₀
  have k2 := h2 t₀
  have hG := G_pos
  have hDi : (0 : Int) < D := by omega
  have c1 : ((D * V t₀ : Nat) : Int) = (n.natAbs : Int) * G * D := by rw [Int.natCast_mul, hVi, Int.mul_comm]
  refine ⟨fun h => le_w.mpr ?_, fun h => ?_⟩
  · rw [hval]
    rcases Int.le_total 0 n with hs | hs
    · have e : (n.natAbs : Int) = n := by omega
      rw [e] at c1 hVi
      rw [← hVi]
      unfold sgn at h ⊢
      cases neg
      · simp only [Bool.false_eq_true, if_false] at h ⊢
        have := k1 (by omega)
        omega
      · simp only [if_true] at h ⊢
        have : W = 0 := by
          have : 0 ≤ n * G * D := Int.mul_nonneg (Int.mul_nonneg hs (Int.le_of_lt hG)) (Int.le_of_lt hDi)
          omega
        have h3 := k2 (by omega)
        have h4 : D * V t₀ = 0 := by omega
        have h5 : V t₀ = 0 := by rcases Nat.mul_eq_zero.mp h4 with h | h <;> omega
        omega
    · have e : (n.natAbs : Int) = -n := by omega
      rw [e] at c1 hVi
      have e2 : n * G = -((V t₀ : Nat) : Int) := by rw [hVi, Int.neg_mul]; omega
      have e3 : n * G * D = -((D * V t₀ : Nat) : Int) := by rw [c1, Int.neg_mul, Int.neg_mul]; omega
      rw [e2]; rw [e3] at h
      unfold sgn at h ⊢
      cases neg
      · simp only [Bool.false_eq_true, if_false] at h ⊢
        omega
      · simp only [if_true] at h ⊢
        have := k2 (by omega)
        omega
  · rw [hval]
    rcases Int.le_total 0 n with hs | hs
    · have e : (n.natAbs : Int) = n := by omega
      rw [e] at c1 hVi
      rw [← hVi]
      unfold sgn at h ⊢
      cases neg
      · simp only [Bool.false_eq_true, if_false] at h ⊢
        have := k2 (by omega)
        omega
      · simp only [if_true] at h ⊢
        omega
    · have e : (n.natAbs : Int) = -n := by omega
      rw [e] at c1 hVi
      have e2 : n * G = -((V t₀ : Nat) : Int) := by rw [hVi, Int.neg_mul]; omega
      have e3 : n * G * D = -((D * V t₀ : Nat) : Int) := by rw [c1, Int.neg_mul, Int.neg_mul]; omega
      rw [e2]; rw [e3] at h
      unfold sgn at h ⊢
      cases neg
      · simp only [Bool.false_eq_true, if_false] at h ⊢
        have h3 : W = 0 := by omega
        have h4 : D * V t₀ = 0 := by omega
        have h5 : V t₀ = 0 := by rcases Nat.mul_eq_zero.mp h4 with h | h <;> omega
        have := k2 (by omega)
        omega
      · simp only [if_true] at h ⊢
        have := k1 (by omega)
        omega

/-! halves -/
def hf (k : Int) : UInt64 := ofFrac (decide (k < 0)) k.natAbs 2
theorem sgn_natAbs' (k c : Int) (hc : 0 < c) : sgn (decide (k * c < 0)) (k * c).natAbs = k * c := by
  unfold sgn
  by_cases h : k * c < 0
  · simp only [h, decide_true, if_true]; omega
  · simp only [h, decide_false, Bool.false_eq_true, if_false]; omega
theorem neg_mul_lt (k c : Int) (hc : 0 < c) : k * c < 0 ↔ k < 0 := by
  constructor
  · intro h
    rcases Int.lt_or_le k 0 with h1 | h1
    · exact h1
    · have := Int.mul_nonneg h1 (Int.le_of_lt hc); omega
  · intro h; exact Int.mul_neg_of_neg_of_pos h hc
theorem pow_nat (n : Nat) : ((2 ^ n : Nat) : Int) = (2 : Int) ^ n := Int.natCast_pow 2 n

theorem small_le {n : Nat} (hn : n ≤ 2 ^ 53) (k : Nat) (hk : k ≤ 1100) : n * 2 ^ k ≤ 1 * 2 ^ 1200 := by
  calc n * 2 ^ k ≤ 2 ^ 53 * 2 ^ k := Nat.mul_le_mul_right _ hn
    _ = 2 ^ (53 + k) := by rw [← Nat.pow_add]
    _ ≤ 2 ^ 1200 := Nat.pow_le_pow_right (by decide) (by omega)
    _ = 1 * 2 ^ 1200 := (Nat.one_mul _).symm

theorem half_eq (n : Nat) : n * 2 ^ 1074 * 1 = n * 2 ^ 1073 * 2 := by rw [Nat.mul_one, Nat.mul_assoc, ← Nat.pow_succ]
theorem hf_of_right {r : UInt64} {k : Int} (hk : k.natAbs ≤ 2 ^ 53) (h : Right r (decide (k < 0)) (k.natAbs * 2 ^ 1073) 1) : r = hf k := by
  obtain ⟨t, _, hV⟩ := rep k.natAbs 1073 hk (by decide) (by decide)
  have hs := small_le hk 1073 (by decide)
  have h1 := right_exact (t₀ := t) h (by decide) hs (by rw [hV, Nat.one_mul])
  have h2 : Right (hf k) (decide (k < 0)) (k.natAbs * 2 ^ 1073) 1 := ofFrac_right (by decide) (half_eq _) (by decide)
  have h3 := right_exact (t₀ := t) h2 (by decide) hs (by rw [hV, Nat.one_mul])
  rw [h1, h3]

theorem hf_dec (k : Int) (hk : k.natAbs ≤ 2 ^ 53) : ∃ m e, decode (hf k) = .fin (decide (k < 0)) m e ∧ val (hf k) = k * 2 ^ 1073 := by
  obtain ⟨t, ht, hV⟩ := rep k.natAbs 1073 hk (by decide) (by decide)
  have hs := small_le hk 1073 (by decide)
  have h2 : Right (hf k) (decide (k < 0)) (k.natAbs * 2 ^ 1073) 1 := ofFrac_right (by decide) (half_eq _) (by decide)
  have h3 := right_exact (t₀ := t) h2 (by decide) hs (by rw [hV, Nat.one_mul])
  obtain ⟨m, e, hd, _⟩ := decode_pack (decide (k < 0)) ht
  refine ⟨m, e, h3 ▸ hd, ?_⟩
  rw [h3, val_pack _ ht, hV]
  unfold sgn
  rw [Int.natCast_mul, pow_nat]
  by_cases h : k < 0
  · simp only [h, decide_true, if_true]
    have : (k.natAbs : Int) = -k := by omega
    rw [this, Int.neg_mul]; omega
  · simp only [h, decide_false, Bool.false_eq_true, if_false]
    have : (k.natAbs : Int) = k := by omega
    rw [this]

theorem hf_fin (k : Int) (hk : k.natAbs ≤ 2 ^ 53) : Fin (hf k) := by
  obtain ⟨m, e, h, _⟩ := hf_dec k hk
  exact ⟨_, _, _, h⟩
theorem hf_val (k : Int) (hk : k.natAbs ≤ 2 ^ 53) : val (hf k) = k * 2 ^ 1073 := by
  obtain ⟨m, e, _, h⟩ := hf_dec k hk
  exact h
theorem hf_w (k : Int) (hk : k.natAbs ≤ 2 ^ 53) : w (hf k) = 524288 * k := by
  refine w_of ?_
  rw [hf_val k hk, H_eq, Int.mul_left_comm, Int.mul_assoc]
theorem P_pos : (0 : Int) < 2 ^ 1073 := Int.pow_pos (by decide)
theorem natAbs_mul_pow (k : Int) (n : Nat) : (k * 2 ^ n).natAbs = k.natAbs * 2 ^ n := by
  rw [Int.natAbs_mul, Int.natAbs_pow]; rfl

theorem hf_zero : hf 0 = zero false := by decide +kernel

theorem hf_add (a b : Int) (ha : a.natAbs ≤ 2 ^ 53) (hb : b.natAbs ≤ 2 ^ 53) (hab : (a + b).natAbs ≤ 2 ^ 53) : add (hf a) (hf b) = hf (a + b) := by
  obtain ⟨m, e, hd, hv⟩ := hf_dec a ha
  obtain ⟨m', e', hd', hv'⟩ := hf_dec b hb
  have h := add_right hd hd'
  rw [hv, hv', ← Int.add_mul] at h
  by_cases h0 : a + b = 0
  · rw [h.1 (by rw [h0, Int.zero_mul]), h0, hf_zero]
    congr 1
    by_cases ha0 : a < 0 <;> by_cases hb0 : b < 0 <;> simp [ha0, hb0] <;> omega
  · have h2 := h.2 (by
      intro hc
      rcases Int.mul_eq_zero.mp hc with h1 | h1
      · exact h0 h1
      · have := P_pos; omega)
    rw [natAbs_mul_pow] at h2
    have hsg : decide ((a + b) * 2 ^ 1073 < 0) = decide (a + b < 0) := by
      rw [decide_eq_decide]; exact neg_mul_lt _ _ P_pos
    rw [hsg] at h2
    exact hf_of_right hab h2

theorem hf_sub (a b : Int) (ha : a.natAbs ≤ 2 ^ 53) (hb : b.natAbs ≤ 2 ^ 53) (hab : (a - b).natAbs ≤ 2 ^ 53) : sub (hf a) (hf b) = hf (a - b) := by
  obtain ⟨m, e, hd, hv⟩ := hf_dec a ha
  obtain ⟨m', e', hd', hv'⟩ := hf_dec b hb
  have h := sub_right hd hd'
  rw [hv, hv', ← Int.sub_mul] at h
  by_cases h0 : a - b = 0
  · rw [h.1 (by rw [h0, Int.zero_mul]), h0, hf_zero]
    have : a = b := by omega
    subst this
    congr 1
    by_cases ha0 : a < 0 <;> simp [ha0]
  · have h2 := h.2 (by
      intro hc
      rcases Int.mul_eq_zero.mp hc with h1 | h1
      · exact h0 h1
      · have := P_pos; omega)
    rw [natAbs_mul_pow] at h2
    have hsg : decide ((a - b) * 2 ^ 1073 < 0) = decide (a - b < 0) := by
      rw [decide_eq_decide]; exact neg_mul_lt _ _ P_pos
    rw [hsg] at h2
    exact hf_of_right hab h2

theorem ofInt_hf (i : Int) (hi : (2 * i).natAbs ≤ 2 ^ 53) : ofInt i = hf (2 * i) := by
  have h := ofInt_right i
  refine hf_of_right hi ?_
  have e1 : decide (i < 0) = decide (2 * i < 0) := by rw [decide_eq_decide]; omega
  have e2 : (2 * i).natAbs * 2 ^ 1073 = i.natAbs * 2 ^ 1074 := by
    have h3 : (2 * i).natAbs = i.natAbs * 2 := by omega
    have h4 := half_eq i.natAbs
    rw [Nat.mul_one] at h4
    rw [h3, h4, Nat.mul_right_comm]
  rw [e2, ← e1]
  exact h

/-- the product with a positive whole number -/
theorem hf_mul (a b : Int) (ha : (2 * a).natAbs ≤ 2 ^ 53) (hb0 : 0 < b) (hb : (2 * b).natAbs ≤ 2 ^ 53) (hab : (2 * (a * b)).natAbs ≤ 2 ^ 53) : mul (hf (2 * a)) (hf (2 * b)) = hf (2 * (a * b)) := by
  obtain ⟨m, e, hd, hv⟩ := hf_dec (2 * a) ha
  obtain ⟨m', e', hd', hv'⟩ := hf_dec (2 * b) hb
  have h := mul_right hd hd'
  rw [hv, hv', natAbs_mul_pow, natAbs_mul_pow] at h
  have hsg : (decide (2 * a < 0) != decide (2 * b < 0)) = decide (2 * (a * b) < 0) := by
    have h1 : decide (2 * b < 0) = false := by simp; omega
    have h3 := neg_mul_lt a b hb0
    rw [h1, Bool.bne_false, decide_eq_decide]; omega
  rw [hsg] at h
  obtain ⟨t, _, hV⟩ := rep (2 * (a * b)).natAbs 1073 hab (by decide) (by decide)
  have hs := small_le hab 1073 (by decide)
  have hW : 2 ^ 1074 * V t = (2 * a).natAbs * 2 ^ 1073 * ((2 * b).natAbs * 2 ^ 1073) := by
    rw [hV, show (2 * (a * b)).natAbs = (2 * a).natAbs * b.natAbs by rw [← Int.natAbs_mul, Int.mul_assoc], show (2 * b).natAbs = b.natAbs * 2 by omega, show (2:Nat) ^ 1074 = 2 ^ 1073 * 2 from Nat.pow_succ ..]
    generalize (2:Nat) ^ 1073 = q
    generalize (2 * a).natAbs = x
    generalize b.natAbs = y
    ac_rfl
  have h1 := right_exact (t₀ := t) h (Nat.two_pow_pos _) (by
    rw [← hW, hV]
    refine Nat.mul_le_mul_left _ ?_
    have := hs
    rw [Nat.one_mul] at this
    exact this) hW
  have h2 : Right (hf (2 * (a * b))) (decide (2 * (a * b) < 0)) ((2 * (a * b)).natAbs * 2 ^ 1073) 1 := ofFrac_right (by decide) (half_eq _) (by decide)
  have h3 := right_exact (t₀ := t) h2 (by decide) hs (by rw [hV, Nat.one_mul])
  rw [h1, h3]

theorem ediv_ediv' (x y z : Int) (h : 0 ≤ y) : x / (y * z) = x / y / z := by rw [Int.ediv_ediv, if_neg (by omega)]; omega
/-! whole numbers out of floats -/
theorem floor_val {x : UInt64} {a : Bool} {m : Nat} {e : Int} (hx : decode x = .fin a m e) : floorOf a m e = val x / 2 ^ 1074 := by
  have he := decode_ge hx
  rw [val_eq hx, sgn_mul, pow_nat]
  unfold floorOf
  split
  · rename_i h
    have e1 : (e + 1074).toNat = e.toNat + 1074 := by omega
    rw [e1, Int.pow_add, ← Int.mul_assoc, Int.mul_ediv_cancel _ (Int.ne_of_gt (Int.pow_pos (by decide)))]
  · rename_i h
    have e1 : (1074 : Nat) = (-e).toNat + (e + 1074).toNat := by omega
    have e2 : (2 : Int) ^ 1074 = 2 ^ (-e).toNat * 2 ^ (e + 1074).toNat := by rw [← Int.pow_add, ← e1]
    rw [e2, Int.mul_ediv_mul_of_pos_left _ _ (Int.pow_pos (by decide)), Int.fdiv_eq_ediv_of_nonneg _ (Int.le_of_lt (Int.pow_pos (by decide)))]
theorem floor_w {x : UInt64} {a : Bool} {m : Nat} {e : Int} (hx : decode x = .fin a m e) : floorOf a m e = w x / 1048576 := by
  rw [floor_val hx, U_eq, Int.mul_comm, ediv_ediv' _ _ _ (Int.le_of_lt G_pos)]; rfl
theorem val_not {a : Bool} {m : Nat} {e : Int} {x : UInt64} (hx : decode x = .fin a m e) : floorOf (!a) m e = (-val x) / 2 ^ 1074 := by
  have hn := neg_decode hx
  rw [floor_val hn, neg_val hx]
theorem ceil_val {x : UInt64} {a : Bool} {m : Nat} {e : Int} (hx : decode x = .fin a m e) : ceilOf a m e = -((-val x) / 2 ^ 1074) := by
  unfold ceilOf
  rw [val_not hx]
theorem trunc_of_nonneg {x : UInt64} {a : Bool} {m : Nat} {e : Int} (hx : decode x = .fin a m e) (k : Int) (hk : val x = k * 2 ^ 1074) : truncOf a m e = k := by
  have hp : (2 : Int) ^ 1074 ≠ 0 := Int.ne_of_gt (Int.pow_pos (by decide))
  unfold truncOf
  split
  · rw [ceil_val hx, hk, ← Int.neg_mul, Int.mul_ediv_cancel _ hp]; omega
  · rw [floor_val hx, hk, Int.mul_ediv_cancel _ hp]
theorem ceil_of {x : UInt64} {a : Bool} {m : Nat} {e : Int} (hx : decode x = .fin a m e) (c : Int) (h1 : (c - 1) * 1048576 < w x) (h2 : val x ≤ c * 2 ^ 1074) : ceilOf a m e = c := by
  rw [ceil_val hx]
  have hp : (0 : Int) < 2 ^ 1074 := Int.pow_pos (by decide)
  have h3 : -c ≤ (-val x) / 2 ^ 1074 := (Int.le_ediv_iff_mul_le hp).mpr (by rw [Int.neg_mul]; omega)
  have h4 : (-val x) / 2 ^ 1074 < -c + 1 := (Int.ediv_lt_iff_lt_mul hp).mpr (by
    have h5 : ((c - 1) * 1048576 + 1) * G ≤ val x := le_w.mp (by omega)
    have hG := G_pos
    rw [U_eq]
    have h6 : (-c + 1) * (1048576 * G) = -((c - 1) * 1048576 * G) := by rw [← Int.mul_assoc, ← Int.neg_mul]; congr 1; omega
    rw [h6]
    rw [Int.add_mul] at h5
    clear hp h3 h2
    omega)
  clear hp h2 h1
  generalize (-val x) / 2 ^ 1074 = q at *
  omega
end Mine
end
section
open PySem PySem.Float64
namespace Mine

def DivP (r : UInt64) (a b : Int) : Prop := Fin r ∧ ∀ n : Int, n.natAbs ≤ 2 ^ 53 → (n * b ≤ a * 1048576 → n ≤ w r) ∧ (a * 1048576 ≤ n * b → val r ≤ n * G)

theorem divp_floor {r : UInt64} {a b : Int} (h : DivP r a b) (hb : 0 < b) (hb2 : b ≤ 1048576) (ha : a.natAbs ≤ 2 ^ 30) : w r / 1048576 = a / b := by
  have h1 := Int.ediv_mul_le a (Int.ne_of_gt hb)
  have h2 := Int.lt_ediv_add_one_mul_self a hb
  rw [Int.add_mul, Int.one_mul] at h2
  have hq : (a / b).natAbs ≤ 2 ^ 30 := Nat.le_trans (Int.natAbs_ediv_le_natAbs a b) ha
  have e1 : a / b * 1048576 * b = a / b * b * 1048576 := by rw [Int.mul_right_comm]
  have e2 : ((a / b + 1) * 1048576 - 1) * b = a / b * b * 1048576 + b * 1048576 - b := by
    rw [Int.sub_mul, Int.mul_right_comm, Int.add_mul, Int.add_mul]; omega
  have p1 := (h.2 (a / b * 1048576) (by omega)).1
  have p2 := (h.2 ((a / b + 1) * 1048576 - 1) (by omega)).2
  rw [e1] at p1
  rw [e2] at p2
  generalize a / b * b = z at *
  have q1 := p1 (by omega)
  have q2 := w_le (p2 (by omega))
  generalize a / b = q at *
  omega

theorem divp_ceil {r : UInt64} {a b : Int} (h : DivP r a b) (hb : 0 < b) (hb2 : b ≤ 1048576) (ha : a.natAbs ≤ 2 ^ 30) {s : Bool} {m : Nat} {e : Int} (hd : decode r = .fin s m e) : ceilOf s m e = -((-a) / b) := by
  have h1 := Int.ediv_mul_le (-a) (Int.ne_of_gt hb)
  have h2 := Int.lt_ediv_add_one_mul_self (-a) hb
  rw [Int.add_mul, Int.one_mul] at h2
  have hq : ((-a) / b).natAbs ≤ 2 ^ 30 := Nat.le_trans (Int.natAbs_ediv_le_natAbs (-a) b) (by omega)
  refine ceil_of hd _ ?_ ?_
  · have p1 := (h.2 ((-((-a) / b) - 1) * 1048576 + 1) (by omega)).1
    have e1 : ((-((-a) / b) - 1) * 1048576 + 1) * b = -((-a) / b * b) * 1048576 - b * 1048576 + b := by
      rw [Int.add_mul, Int.mul_right_comm, Int.sub_mul, Int.sub_mul, Int.neg_mul]; omega
    rw [e1] at p1
    generalize (-a) / b * b = z at *
    have := p1 (by omega)
    omega
  · have p2 := (h.2 (-((-a) / b) * 1048576) (by omega)).2
    have e1 : (-((-a) / b) * 1048576) * b = -((-a) / b * b) * 1048576 := by
      rw [Int.mul_right_comm, Int.neg_mul]
    rw [e1] at p2
    rw [U_eq, ← Int.mul_assoc]
    refine p2 ?_
    generalize (-a) / b * b = z at *
    omega

theorem sgn_val {x : UInt64} {a : Bool} {m : Nat} {e : Int} (hx : decode x = .fin a m e) (c : Nat) : sgn a ((val x).natAbs * c) = val x * c := by
  rw [sgn_mul, val_natAbs hx, ← val_eq hx]

theorem div_gen {x y : UInt64} {s : Bool} {m : Nat} {e : Int} {k : Nat} {f : Int} (hx : decode x = .fin s m e) (hy : decode y = .fin false k f) (hY : 0 < val y) (hno : (val x).natAbs * 2 ^ 1074 ≤ (val y).natAbs * 2 ^ 1200) :
    Fin (div x y) ∧ ∀ n : Int, n.natAbs ≤ 2 ^ 53 → (n * G * val y ≤ val x * 2 ^ 1074 → n ≤ w (div x y)) ∧ (val x * 2 ^ 1074 ≤ n * G * val y → val (div x y) ≤ n * G) := by
  have hk : k ≠ 0 := by
    rintro rfl
    rw [val_eq hy] at hY
    simp [sgn] at hY
  have h := div_right hx hy hk
  rw [Bool.bne_false] at h
  have hD : 0 < (val y).natAbs := by omega
  refine ⟨right_fin h hD hno, fun n hn => ?_⟩
  have h2 := right_w h hD hno n hn
  rw [sgn_val hx, pow_nat] at h2
  have e1 : ((val y).natAbs : Int) = val y := by omega
  rw [e1] at h2
  exact h2

theorem div_hf (k b : Int) (hk : k.natAbs ≤ 2 ^ 40) (hb : 0 < b) (hb2 : b ≤ 2 ^ 40) : Fin (div (hf k) (ofInt b)) ∧ ∀ n : Int, n.natAbs ≤ 2 ^ 53 → (n * b ≤ k * 524288 → n ≤ w (div (hf k) (ofInt b))) ∧ (k * 524288 ≤ n * b → val (div (hf k) (ofInt b)) ≤ n * G) := by
  rw [ofInt_hf b (by omega)]
  obtain ⟨m, e, hd, hv⟩ := hf_dec k (by omega)
  obtain ⟨m', e', hd', hv'⟩ := hf_dec (2 * b) (by omega)
  have h0 : decide (2 * b < 0) = false := by simp; omega
  rw [h0] at hd'
  have e1 : (2 * b) * 2 ^ 1073 = b * 2 ^ 1074 := by rw [H_eq, U_eq, ← Int.mul_assoc, ← Int.mul_assoc]; congr 1; omega
  rw [e1] at hv'
  have hP := P_pos
  have hU : (0 : Int) < 2 ^ 1074 := Int.pow_pos (by decide)
  have h := div_gen hd hd' (by rw [hv']; exact Int.mul_pos hb hU) (by
    rw [hv, hv', natAbs_mul_pow, natAbs_mul_pow]
    have h1 : k.natAbs * 2 ^ 1073 * 2 ^ 1074 ≤ 2 ^ 40 * 2 ^ 1073 * 2 ^ 1074 := Nat.mul_le_mul_right _ (Nat.mul_le_mul_right _ hk)
    refine Nat.le_trans h1 ?_
    have h2 : 1 * 2 ^ 1074 * 2 ^ 1200 ≤ b.natAbs * 2 ^ 1074 * 2 ^ 1200 := Nat.mul_le_mul_right _ (Nat.mul_le_mul_right _ (by omega))
    refine Nat.le_trans ?_ h2
    rw [Nat.one_mul, ← Nat.pow_add, ← Nat.pow_add, ← Nat.pow_add]
    exact Nat.pow_le_pow_right (by decide) (by decide))
  refine ⟨h.1, fun n hn => ?_⟩
  have h3 := h.2 n hn
  rw [hv, hv', H_eq] at h3
  have e2 : n * G * (b * 2 ^ 1074) = n * b * (G * 2 ^ 1074) := by rw [Int.mul_assoc, Int.mul_assoc, Int.mul_left_comm G]
  have e3 : k * (524288 * G) * 2 ^ 1074 = k * 524288 * (G * 2 ^ 1074) := by
    rw [← Int.mul_assoc k, Int.mul_assoc (k * 524288)]
  rw [e2, e3] at h3
  have hGU : 0 < G * 2 ^ 1074 := Int.mul_pos G_pos hU
  exact ⟨fun h => h3.1 (Int.mul_le_mul_of_nonneg_right h (Int.le_of_lt hGU)), fun h => h3.2 (Int.mul_le_mul_of_nonneg_right h (Int.le_of_lt hGU))⟩

theorem divp_hf (a b : Int) (ha : a.natAbs ≤ 2 ^ 30) (hb : 0 < b) (hb2 : b ≤ 1048576) : DivP (div (hf (2 * a)) (ofInt b)) a b := by
  have h := div_hf (2 * a) b (by omega) hb (by omega)
  refine ⟨h.1, fun n hn => ?_⟩
  have h2 := h.2 n hn
  have e : 2 * a * 524288 = a * 1048576 := by omega
  rw [e] at h2
  exact h2

/-- whole numbers' quotient -/
theorem divp_int (a b : Int) (ha : a.natAbs ≤ 2 ^ 30) (hb : 0 < b) (hb2 : b ≤ 1048576) : DivP (ofFrac (decide (a < 0) != decide (b < 0)) a.natAbs b.natAbs) a b := by
  have hb0 : decide (b < 0) = false := by simp; omega
  rw [hb0, Bool.bne_false]
  have hD : 0 < b.natAbs := by omega
  have h : Right (ofFrac (decide (a < 0)) a.natAbs b.natAbs) (decide (a < 0)) (a.natAbs * 2 ^ 1074) b.natAbs := ofFrac_right hD rfl hD
  have hno : a.natAbs * 2 ^ 1074 ≤ b.natAbs * 2 ^ 1200 := by
    have h1 : a.natAbs * 2 ^ 1074 ≤ 2 ^ 30 * 2 ^ 1074 := Nat.mul_le_mul_right _ ha
    have h2 : 1 * 2 ^ 1200 ≤ b.natAbs * 2 ^ 1200 := Nat.mul_le_mul_right _ (by omega)
    refine Nat.le_trans h1 (Nat.le_trans ?_ h2)
    rw [Nat.one_mul, ← Nat.pow_add]
    exact Nat.pow_le_pow_right (by decide) (by decide)
  refine ⟨right_fin h hD hno, fun n hn => ?_⟩
  have h2 := right_w h hD hno n hn
  have e1 : (b.natAbs : Int) = b := by omega
  have e2 : sgn (decide (a < 0)) (a.natAbs * 2 ^ 1074) = a * 2 ^ 1074 := by
    rw [sgn_mul, pow_nat]
    congr 1
    unfold sgn
    by_cases h : a < 0
    · simp only [h, decide_true, if_true]; omega
    · simp only [h, decide_false, Bool.false_eq_true, if_false]; omega
  rw [e1, e2, U_eq] at h2
  have e3 : n * G * b = n * b * G := Int.mul_right_comm ..
  have e4 : a * (1048576 * G) = a * 1048576 * G := (Int.mul_assoc ..).symm
  rw [e3, e4] at h2
  have hG := Int.le_of_lt G_pos
  exact ⟨fun h => h2.1 (Int.mul_le_mul_of_nonneg_right h hG), fun h => h2.2 (Int.mul_le_mul_of_nonneg_right h hG)⟩

theorem nearest_of {x : UInt64} {a : Bool} {m : Nat} {e : Int} (hx : decode x = .fin a m e) (p : Int) (h1 : (2 * p - 1) * 524288 < w x) (h2 : w x < (2 * p + 1) * 524288) : nearestOf a m e = p := by
  have he := decode_ge hx
  have hN := val_natAbs hx
  have hs : (shift m 1 e).1 * 2 ^ 1074 = m * 2 ^ (e + 1074).toNat * (shift m 1 e).2 := shift_one m e 1074 (by omega)
  have hd := shift_pos m 1 e (by decide)
  have k1 : ((2 * p - 1) * 524288 + 1) * G ≤ val x := le_w.mp (by omega)
  have k2 : val x < ((2 * p + 1) * 524288) * G := w_lt.mp h2
  have hG := G_pos
  unfold nearestOf
  simp only
  rw [← hN] at hs
  generalize (shift m 1 e).1 = n at *
  generalize (shift m 1 e).2 = d at *
  have hnear := halfEven_nearest n d hd p.natAbs
  generalize halfEven n d = q at *
  have hmul : ∀ j, PySem.Float64.dist n (d * j) * 2 ^ 1074 = d * PySem.Float64.dist (val x).natAbs (j * 2 ^ 1074) := by
    intro j
    generalize (2 : Nat) ^ 1074 = u at hs ⊢
    rw [Nat.mul_comm (PySem.Float64.dist n (d * j)), ← dist_mul, ← dist_mul, Nat.mul_comm u n, hs, Nat.mul_comm d (val x).natAbs, Nat.mul_comm u, Nat.mul_assoc]
  have h3 : d * PySem.Float64.dist (val x).natAbs (q * 2 ^ 1074) ≤ d * PySem.Float64.dist (val x).natAbs (p.natAbs * 2 ^ 1074) := by
    rw [← hmul, ← hmul]
    exact Nat.mul_le_mul_right _ hnear
  have h4 := Nat.le_of_mul_le_mul_left h3 hd
  have hU : ((2 ^ 1074 : Nat) : Int) = 1048576 * G := by rw [pow_nat, U_eq]
  have hsg : val x = sgn a (val x).natAbs := by rw [hN]; exact val_eq hx
  have hq : ((q * 2 ^ 1074 : Nat) : Int) = (q : Int) * 1048576 * G := by rw [Int.natCast_mul, hU, Int.mul_assoc]
  have hp : ((p.natAbs * 2 ^ 1074 : Nat) : Int) = (p.natAbs : Int) * 1048576 * G := by rw [Int.natCast_mul, hU, Int.mul_assoc]
  clear hmul h3 hnear hs hU
  unfold PySem.Float64.dist at h4
  generalize q * 2 ^ 1074 = Q at *
  generalize p.natAbs * 2 ^ 1074 = P at *
  have hqp : q = p.natAbs := by
    rcases Nat.lt_trichotomy q p.natAbs with h | h | h
    · exfalso
      have g1 : ((q : Int) + 1) * 1048576 * G ≤ (p.natAbs : Int) * 1048576 * G := Int.mul_le_mul_of_nonneg_right (by omega) (Int.le_of_lt hG)
      rcases Int.le_total 0 p with s | s
      · have e : (p.natAbs : Int) = p := by omega
        rw [e] at hp g1
        rw [Int.add_mul, Int.add_mul] at g1
        rw [Int.add_mul, Int.sub_mul, Int.sub_mul] at k1
        rw [Int.add_mul, Int.add_mul] at k2
        have c1 : 2 * p * 524288 * G = p * 1048576 * G := by congr 1; omega
        rw [c1] at k1 k2
        omega
      · have e : (p.natAbs : Int) = -p := by omega
        rw [e] at hp g1
        rw [Int.neg_mul, Int.neg_mul] at hp g1
        rw [Int.add_mul, Int.add_mul] at g1
        rw [Int.add_mul, Int.sub_mul, Int.sub_mul] at k1
        rw [Int.add_mul, Int.add_mul] at k2
        have c1 : 2 * p * 524288 * G = p * 1048576 * G := by congr 1; omega
        rw [c1] at k1 k2
        omega
    · exact h
    · exfalso
      have g1 : ((p.natAbs : Int) + 1) * 1048576 * G ≤ (q : Int) * 1048576 * G := Int.mul_le_mul_of_nonneg_right (by omega) (Int.le_of_lt hG)
      rcases Int.le_total 0 p with s | s
      · have e : (p.natAbs : Int) = p := by omega
        rw [e] at hp g1
        rw [Int.add_mul, Int.add_mul] at g1
        rw [Int.add_mul, Int.sub_mul, Int.sub_mul] at k1
        rw [Int.add_mul, Int.add_mul] at k2
        have c1 : 2 * p * 524288 * G = p * 1048576 * G := by congr 1; omega
        rw [c1] at k1 k2
        omega
      · have e : (p.natAbs : Int) = -p := by omega
        rw [e] at hp g1
        rw [Int.neg_mul, Int.neg_mul] at hp
        rw [Int.add_mul, Int.add_mul, Int.neg_mul, Int.neg_mul] at g1
        rw [Int.add_mul, Int.sub_mul, Int.sub_mul] at k1
        rw [Int.add_mul, Int.add_mul] at k2
        have c1 : 2 * p * 524288 * G = p * 1048576 * G := by congr 1; omega
        rw [c1] at k1 k2
        omega
  subst hqp
  rcases Int.lt_trichotomy p 0 with s | s | s
  · have hneg : val x < 0 := by
      have : (2 * p + 1) * 524288 * G ≤ (-1) * 524288 * G := Int.mul_le_mul_of_nonneg_right (by omega) (Int.le_of_lt hG)
      omega
    cases a
    · exfalso; unfold sgn at hsg; simp at hsg; omega
    · unfold sgn; simp; omega
  · subst s; unfold sgn; simp
  · have hpos : 0 < val x := by
      have : (1 * 524288 + 1) * G ≤ ((2 * p - 1) * 524288 + 1) * G := Int.mul_le_mul_of_nonneg_right (by omega) (Int.le_of_lt hG)
      omega
    cases a
    · unfold sgn; simp; omega
    · exfalso; unfold sgn at hsg; simp at hsg; omega
end Mine
end
section
open PySem PySem.Float64
namespace Mine

theorem fin_zero (b : Bool) : Fin (zero b) := fin_pack b (by decide)
theorem val_zero (b : Bool) : val (zero b) = 0 := by
  have := val_pack b (t := 0) (by decide)
  rw [V_zero] at this
  unfold zero
  rw [this]; unfold sgn; simp

theorem add_gen {x y : UInt64} (hx : Fin x) (hy : Fin y) (hno : (val x + val y).natAbs ≤ 2 ^ 1200) :
    Fin (add x y) ∧ ∀ n : Int, n.natAbs ≤ 2 ^ 53 → (n * G ≤ val x + val y → n ≤ w (add x y)) ∧ (val x + val y ≤ n * G → val (add x y) ≤ n * G) := by
  obtain ⟨a, m, e, hx⟩ := hx
  obtain ⟨b, k, f, hy⟩ := hy
  have h := add_right hx hy
  by_cases h0 : val x + val y = 0
  · have e1 := h.1 h0
    rw [e1, h0]
    exact ⟨fin_zero _, fun n _ => ⟨fun h => le_w.mpr (by rw [val_zero]; exact h), fun h => by rw [val_zero]; exact h⟩⟩
  · have h2 := h.2 h0
    have hno' : (val x + val y).natAbs ≤ 1 * 2 ^ 1200 := by rw [Nat.one_mul]; exact hno
    refine ⟨right_fin h2 (by decide) hno', fun n hn => ?_⟩
    have h3 := right_w h2 (by decide) hno' n hn
    have e1 : sgn (decide (val x + val y < 0)) (val x + val y).natAbs = val x + val y := by
      have := sgn_natAbs' (val x + val y) 1 (by decide)
      rw [Int.mul_one] at this
      exact this
    rw [e1] at h3
    simpa using h3

theorem sub_gen {x y : UInt64} (hx : Fin x) (hy : Fin y) (hno : (val x - val y).natAbs ≤ 2 ^ 1200) :
    Fin (sub x y) ∧ ∀ n : Int, n.natAbs ≤ 2 ^ 53 → (n * G ≤ val x - val y → n ≤ w (sub x y)) ∧ (val x - val y ≤ n * G → val (sub x y) ≤ n * G) := by
  obtain ⟨b, k, f, hy⟩ := hy
  have h := add_gen (x := x) (y := neg y) hx ⟨_, _, _, neg_decode hy⟩ (by rw [neg_val hy, ← Int.sub_eq_add_neg]; exact hno)
  rw [neg_val hy, ← Int.sub_eq_add_neg] at h
  unfold PySem.Float64.sub
  exact h

def TY : UInt64 := 4645133024903820211
def TM : Int := 6425408712209331
theorem TY_dec : ∃ m e, decode TY = .fin false m e ∧ val TY = TM * 2 ^ 1030 := by
  have h : decode TY = .fin false 6425408712209331 (-44) := by unfold decode; rfl
  refine ⟨_, _, h, ?_⟩
  rw [val_eq h, sgn_mul, pow_nat]
  rfl
theorem TY_fin : Fin TY := by
  obtain ⟨m, e, h, _⟩ := TY_dec
  exact ⟨_, _, _, h⟩
theorem TY_val : val TY = TM * 2 ^ 1030 := by
  obtain ⟨m, e, _, h⟩ := TY_dec
  exact h
theorem G_K : G = 16777216 * 2 ^ 1030 := by unfold G; rw [show 1054 = 24 + 1030 from rfl, Int.pow_add]; rfl
theorem K_pos : (0 : Int) < 2 ^ 1030 := Int.pow_pos (by decide)
theorem pow_le_1200 {v c : Nat} {k : Nat} (hv : v ≤ 2 ^ c) (hc : c + k ≤ 1200) : v * 2 ^ k ≤ 2 ^ 1200 := by
  calc v * 2 ^ k ≤ 2 ^ c * 2 ^ k := Nat.mul_le_mul_right _ hv
    _ = 2 ^ (c + k) := by rw [← Nat.pow_add]
    _ ≤ 2 ^ 1200 := Nat.pow_le_pow_right (by decide) hc

/-- the tropical years' product, n in units of 2^-20 -/
theorem mul_TY (i : Int) (hi : i.natAbs ≤ 2 ^ 30) : Fin (mul TY (ofInt i)) ∧ ∀ n : Int, n.natAbs ≤ 2 ^ 53 → (n * 16777216 ≤ TM * i → n ≤ w (mul TY (ofInt i))) ∧ (TM * i ≤ n * 16777216 → val (mul TY (ofInt i)) ≤ n * G) := by
  rw [ofInt_hf i (by omega)]
  obtain ⟨m, e, hd, hv⟩ := TY_dec
  obtain ⟨m', e', hd', hv'⟩ := hf_dec (2 * i) (by omega)
  have h := mul_right hd hd'
  have hD : 0 < 2 ^ 1074 := Nat.two_pow_pos _
  have hno : (val TY).natAbs * (val (hf (2 * i))).natAbs ≤ 2 ^ 1074 * 2 ^ 1200 := by
    rw [hv, hv', natAbs_mul_pow, natAbs_mul_pow]
    have h1 : TM.natAbs * 2 ^ 1030 ≤ 2 ^ 1100 := by
      have : TM.natAbs ≤ 2 ^ 53 := by decide
      calc TM.natAbs * 2 ^ 1030 ≤ 2 ^ 53 * 2 ^ 1030 := Nat.mul_le_mul_right _ this
        _ = 2 ^ 1083 := by rw [← Nat.pow_add]
        _ ≤ 2 ^ 1100 := Nat.pow_le_pow_right (by decide) (by decide)
    have h2 : (2 * i).natAbs * 2 ^ 1073 ≤ 2 ^ 1174 := by
      have : (2 * i).natAbs ≤ 2 ^ 53 := by omega
      calc (2 * i).natAbs * 2 ^ 1073 ≤ 2 ^ 53 * 2 ^ 1073 := Nat.mul_le_mul_right _ this
        _ = 2 ^ 1126 := by rw [← Nat.pow_add]
        _ ≤ 2 ^ 1174 := Nat.pow_le_pow_right (by decide) (by decide)
    calc TM.natAbs * 2 ^ 1030 * ((2 * i).natAbs * 2 ^ 1073) ≤ 2 ^ 1100 * 2 ^ 1174 := Nat.mul_le_mul h1 h2
      _ = 2 ^ 1074 * 2 ^ 1200 := by rw [← Nat.pow_add, ← Nat.pow_add]
  refine ⟨right_fin h hD hno, fun n hn => ?_⟩
  have h2 := right_w h hD hno n hn
  have e1 : sgn (false != decide (2 * i < 0)) ((val TY).natAbs * (val (hf (2 * i))).natAbs) = val TY * val (hf (2 * i)) := by
    have s1 := sgn_val hd' (val TY).natAbs
    have p1 : ((val TY).natAbs : Int) = val TY := by
      have : 0 ≤ val TY := by rw [hv]; exact Int.mul_nonneg (by decide) (Int.le_of_lt K_pos)
      omega
    rw [p1] at s1
    rw [Bool.false_bne, Nat.mul_comm, s1, Int.mul_comm]
  rw [e1, hv, hv', pow_nat] at h2
  have e2 : TM * 2 ^ 1030 * (2 * i * 2 ^ 1073) = TM * i * (2 ^ 1030 * 2 ^ 1074) := by
    have : (2 : Int) ^ 1074 = 2 ^ 1073 * 2 := Int.pow_succ ..
    rw [this]
    generalize (2 : Int) ^ 1073 = u
    generalize (2 : Int) ^ 1030 = v
    generalize TM = t
    ac_rfl
  have e3 : n * G * 2 ^ 1074 = n * 16777216 * (2 ^ 1030 * 2 ^ 1074) := by
    rw [G_K]
    generalize (2 : Int) ^ 1074 = u
    generalize (2 : Int) ^ 1030 = v
    ac_rfl
  rw [e2, e3] at h2
  have hp : (0 : Int) ≤ 2 ^ 1030 * 2 ^ 1074 := Int.mul_nonneg (Int.le_of_lt K_pos) (Int.le_of_lt (Int.pow_pos (by decide)))
  exact ⟨fun h => h2.1 (Int.mul_le_mul_of_nonneg_right h hp), fun h => h2.2 (Int.mul_le_mul_of_nonneg_right h hp)⟩

theorem div_TY (k : Int) (hk : k.natAbs ≤ 2 ^ 30) : Fin (div (hf k) TY) ∧ ∀ n : Int, n.natAbs ≤ 2 ^ 53 → (n * TM ≤ k * 9223372036854775808 → n ≤ w (div (hf k) TY)) ∧ (k * 9223372036854775808 ≤ n * TM → val (div (hf k) TY) ≤ n * G) := by
  obtain ⟨m, e, hd, hv⟩ := hf_dec k (by omega)
  obtain ⟨m', e', hd', hv'⟩ := TY_dec
  have hT : (0 : Int) < TM := by decide
  have h := div_gen hd hd' (by rw [hv']; exact Int.mul_pos hT K_pos) (by
    rw [hv, hv', natAbs_mul_pow, natAbs_mul_pow]
    have h1 : k.natAbs * 2 ^ 1073 * 2 ^ 1074 ≤ 2 ^ 30 * 2 ^ 1073 * 2 ^ 1074 := Nat.mul_le_mul_right _ (Nat.mul_le_mul_right _ hk)
    refine Nat.le_trans h1 ?_
    have h2 : 1 * 2 ^ 1030 * 2 ^ 1200 ≤ TM.natAbs * 2 ^ 1030 * 2 ^ 1200 := Nat.mul_le_mul_right _ (Nat.mul_le_mul_right _ (by decide))
    refine Nat.le_trans ?_ h2
    rw [Nat.one_mul, ← Nat.pow_add, ← Nat.pow_add, ← Nat.pow_add]
    exact Nat.pow_le_pow_right (by decide) (by decide))
  refine ⟨h.1, fun n hn => ?_⟩
  have h3 := h.2 n hn
  rw [hv, hv'] at h3
  have e2 : n * G * (TM * 2 ^ 1030) = n * TM * (16777216 * 2 ^ 1030 * 2 ^ 1030) := by
    rw [G_K]
    generalize (2 : Int) ^ 1030 = v
    generalize TM = t
    ac_rfl
  have e3 : k * 2 ^ 1073 * 2 ^ 1074 = k * 9223372036854775808 * (16777216 * 2 ^ 1030 * 2 ^ 1030) := by
    have a1 : (2 : Int) ^ 1073 = 2 ^ 1030 * 8796093022208 := by rw [show 1073 = 1030 + 43 from rfl, Int.pow_add]; rfl
    have a2 : (2 : Int) ^ 1074 = 2 ^ 1030 * 17592186044416 := by rw [show 1074 = 1030 + 44 from rfl, Int.pow_add]; rfl
    rw [a1, a2]
    generalize (2 : Int) ^ 1030 = v
    have a3 : k * (v * 8796093022208) * (v * 17592186044416) = k * (v * v) * (8796093022208 * 17592186044416) := by ac_rfl
    have a4 : k * 9223372036854775808 * (16777216 * v * v) = k * (v * v) * (9223372036854775808 * 16777216) := by ac_rfl
    rw [a3, a4, show (8796093022208 * 17592186044416 : Int) = 9223372036854775808 * 16777216 from by decide]
  rw [e2, e3] at h3
  have hp : (0 : Int) ≤ 16777216 * 2 ^ 1030 * 2 ^ 1030 := Int.mul_nonneg (Int.mul_nonneg (by decide) (Int.le_of_lt K_pos)) (Int.le_of_lt K_pos)
  exact ⟨fun h => h3.1 (Int.mul_le_mul_of_nonneg_right h hp), fun h => h3.2 (Int.mul_le_mul_of_nonneg_right h hp)⟩

theorem ofBin_right (neg : Bool) (M : Nat) (g : Int) (hg : -1074 ≤ g) : Right (ofBin neg M g) neg (M * 2 ^ (g + 1074).toNat) 1 := by
  unfold ofBin
  exact ofFrac_right (shift_pos _ _ _ (by decide)) (by rw [Nat.mul_one]; exact shift_one M g 1074 (by omega)) (by decide)
/-- what is left behind a division of whole floats -/
theorem mod_hf (a b : Int) (ha : a.natAbs ≤ 2 ^ 40) (hb : 0 < b) (hb2 : b ≤ 2 ^ 40) : (divmod (hf (2 * a)) (ofInt b)).2 = hf (2 * (a % b)) := by
  rw [ofInt_hf b (by omega)]
  obtain ⟨m, e, hd, hv⟩ := hf_dec (2 * a) (by omega)
  obtain ⟨k, f, hd', hv'⟩ := hf_dec (2 * b) (by omega)
  have hb0 : decide (2 * b < 0) = false := by simp; omega
  rw [hb0] at hd'
  have he := decode_ge hd
  have hf' := decode_ge hd'
  have hk : k ≠ 0 := by
    rintro rfl
    have := val_eq hd'
    rw [hv'] at this
    have h2 := Int.mul_pos (show 0 < 2 * b by omega) P_pos
    rw [this] at h2
    simp [sgn] at h2
  -- the rest of the sizes
  have hfm : fmod (hf (2 * a)) (hf (2 * b)) = ofBin (decide (2 * a < 0)) ((m * 2 ^ (e - min e f).toNat) % (k * 2 ^ (f - min e f).toNat)) (min e f) := by
    unfold fmod
    rw [hd, hd']
    simp only
    rw [if_neg (by simpa using hk)]
    unfold align sgn
    simp only [Bool.false_eq_true, if_false, Int.toNat_natCast]
  have hr : Right (fmod (hf (2 * a)) (hf (2 * b))) (decide (2 * a < 0)) ((val (hf (2 * a))).natAbs % (val (hf (2 * b))).natAbs) 1 := by
    rw [hfm]
    rw [val_natAbs hd, val_natAbs hd']
    have h1 := ofBin_right (decide (2 * a < 0)) ((m * 2 ^ (e - min e f).toNat) % (k * 2 ^ (f - min e f).toNat)) (min e f) (by omega)
    have e1 : (e + 1074).toNat = (e - min e f).toNat + (min e f + 1074).toNat := by omega
    have e2 : (f + 1074).toNat = (f - min e f).toNat + (min e f + 1074).toNat := by omega
    rw [e1, e2, Nat.pow_add, Nat.pow_add, ← Nat.mul_assoc, ← Nat.mul_assoc, Nat.mul_mod_mul_right]
    exact h1
  rw [hv, hv', natAbs_mul_pow, natAbs_mul_pow, Nat.mul_mod_mul_right] at hr
  have hrb : (2 * a).natAbs % (2 * b).natAbs = 2 * (a.natAbs % b.natAbs) := by
    rw [Int.natAbs_mul, Int.natAbs_mul]; exact Nat.mul_mod_mul_left ..
  rw [hrb] at hr
  have hlt : a.natAbs % b.natAbs < b.natAbs := Nat.mod_lt _ (by omega)
  generalize hq : a.natAbs % b.natAbs = q at *
  have hmod : (a : Int) % b = if a < 0 then (if q = 0 then 0 else b - q) else q := by
    have hbn : (b.natAbs : Int) = b := by omega
    have hqi : ((a.natAbs : Int)) % b = q := by rw [← hbn, ← Int.natCast_emod, hq]
    by_cases h : a < 0
    · rw [if_pos h]
      have e1 : a = -(a.natAbs : Int) := by omega
      rw [e1, Int.neg_emod]
      by_cases hz : q = 0
      · rw [if_pos hz, if_pos (by rw [Int.dvd_iff_emod_eq_zero, hqi, hz]; rfl)]
      · rw [if_neg hz, if_neg (by rw [Int.dvd_iff_emod_eq_zero, hqi]; omega), hqi]; omega
    · rw [if_neg h]
      have e1 : a = (a.natAbs : Int) := by omega
      rw [e1, hqi]
  by_cases hz : q = 0
  · subst hz
    have h0 : fmod (hf (2 * a)) (hf (2 * b)) = pack (decide (2 * a < 0)) 0 := right_exact hr (by decide) (by simp) (by rw [V_zero]; simp)
    have hm0 : a % b = 0 := by rw [hmod]; by_cases h : a < 0 <;> simp [h]
    unfold divmod
    rw [h0]
    simp only
    have hzz : isZero (pack (decide (2 * a < 0)) 0) = true := by cases decide (2 * a < 0) <;> decide +kernel
    rw [if_pos hzz, hm0]
    simp only
    have hsb : signBit (hf (2 * b)) = false := by
      obtain ⟨t, ht, hp⟩ : ∃ t, t < 2 ^ 63 ∧ hf (2 * b) = pack false t := by
        have h2 : Right (hf (2 * b)) (decide (2 * b < 0)) ((2 * b).natAbs * 2 ^ 1073) 1 := ofFrac_right (by decide) (half_eq _) (by decide)
        obtain ⟨t, hr, hlt, _⟩ := right_mono h2 (by decide) (small_le (by omega) 1073 (by decide))
        have hi : infMag = 2047 * 2 ^ 52 := rfl
        exact ⟨t, by omega, by rw [hr, hb0]⟩
      rw [hp]
      unfold signBit
      rw [pack_toNat false ht]
      simp; omega
    unfold copysign
    rw [if_neg (by decide +kernel), hsb]
    decide +kernel
  · have hr2 : fmod (hf (2 * a)) (hf (2 * b)) = hf (if a < 0 then -(2 * (q : Int)) else 2 * q) := by
      refine hf_of_right (by split <;> omega) ?_
      have e1 : decide ((if a < 0 then -(2 * (q : Int)) else 2 * q) < 0) = decide (2 * a < 0) := by
        rw [decide_eq_decide]; split <;> omega
      have e2 : (if a < 0 then -(2 * (q : Int)) else 2 * q).natAbs = 2 * q := by split <;> omega
      rw [e1, e2]
      exact hr
    have hnz : isZero (hf (if a < 0 then -(2 * (q : Int)) else 2 * q)) = false := by
      obtain ⟨m, e, hd, hv⟩ := hf_dec (if a < 0 then -(2 * (q : Int)) else 2 * q) (by split <;> omega)
      unfold isZero
      rw [hd]
      by_cases hm0 : m = 0
      · exfalso
        subst hm0
        have h5 := val_eq hd
        rw [hv] at h5
        have h6 : (if a < 0 then -(2 * (q : Int)) else 2 * q) * 2 ^ 1073 = 0 := by rw [h5]; simp [sgn]
        rcases Int.mul_eq_zero.mp h6 with h | h
        · split at h <;> omega
        · exact absurd h (Int.ne_of_gt P_pos)
      · obtain ⟨n, rfl⟩ := Nat.exists_eq_succ_of_ne_zero hm0
        rfl
    have hltz : ∀ c : Int, c.natAbs ≤ 2 ^ 53 → lt (hf c) (zero false) = decide (c < 0) := by
      intro c hc
      obtain ⟨m, e, hd, hv⟩ := hf_dec c hc
      have hz0 : ∃ m' e', decode (zero false) = .fin false m' e' := by
        obtain ⟨m', e', h', _⟩ := decode_pack false (t := 0) (by decide)
        exact ⟨m', e', h'⟩
      obtain ⟨m', e', hz'⟩ := hz0
      unfold lt
      rw [cmp_right hd hz', hv, val_zero]
      by_cases h : c < 0
      · have h3 := (neg_mul_lt c _ P_pos).mpr h
        simp only [h, decide_true]
        rw [Int.compare_eq_lt.mpr h3]; rfl
      · simp only [h, decide_false]
        have h3 : ¬ c * 2 ^ 1073 < 0 := fun hh => h ((neg_mul_lt c _ P_pos).mp hh)
        cases hcmp : compare (c * 2 ^ 1073) 0 with
        | lt => exact absurd (Int.compare_eq_lt.mp hcmp) h3
        | eq => rfl
        | gt => rfl
    unfold divmod
    rw [hr2]
    simp only
    rw [hnz, if_neg (by simp), hltz _ (by omega), hltz _ (by split <;> omega)]
    have hb1 : decide (2 * b < 0) = false := hb0
    rw [hb1, hmod]
    by_cases h : a < 0
    · simp only [h, if_true, hz, if_false]
      have e1 : decide (-(2 * (q : Int)) < 0) = true := by simp; omega
      rw [e1]
      simp only [bne_self_eq_false, Bool.false_bne, if_true]
      rw [hf_add _ _ (by omega) (by omega) (by omega)]
      congr 1; omega
    · simp only [h, if_false]
      have e1 : decide (2 * (q : Int) < 0) = false := by simp; omega
      rw [e1]
      simp
end Mine
end
section
open PySem PySem.Calls PyProof.Rows
namespace Mine
open PySem.Float64 in
theorem fin_nan {x : UInt64} (h : Fin x) : Float64.isNaN x = false := by
  obtain ⟨a, m, e, h⟩ := h
  unfold Float64.isNaN; rw [h]
theorem fin_inf {x : UInt64} (h : Fin x) : Float64.isInf x = false := by
  obtain ⟨a, m, e, h⟩ := h
  unfold Float64.isInf; rw [h]
theorem toInt_of {x : UInt64} (f : Bool → Nat → Int → Int) {a : Bool} {m : Nat} {e : Int} (h : Float64.decode x = .fin a m e) : Flt.toInt f x = f a m e := by
  unfold Flt.toInt; rw [h]

theorem hf_mul' (a b : Int) (ha : a.natAbs ≤ 2 ^ 40) (hb0 : 0 < b) (hb : b ≤ 2 ^ 40) (hab : (a * b).natAbs ≤ 2 ^ 53) : Float64.mul (hf a) (Float64.ofInt b) = hf (a * b) := by
  rw [ofInt_hf b (by omega)]
  obtain ⟨m, e, hd, hv⟩ := hf_dec a (by omega)
  obtain ⟨m', e', hd', hv'⟩ := hf_dec (2 * b) (by omega)
  have h := Float64.mul_right hd hd'
  rw [hv, hv', natAbs_mul_pow, natAbs_mul_pow] at h
  have hsg : (decide (a < 0) != decide (2 * b < 0)) = decide (a * b < 0) := by
    have h1 : decide (2 * b < 0) = false := by simp; omega
    have h3 := neg_mul_lt a b hb0
    rw [h1, Bool.bne_false, decide_eq_decide]; omega
  rw [hsg] at h
  obtain ⟨t, _, hV⟩ := rep (a * b).natAbs 1073 hab (by decide) (by decide)
  have hs := small_le hab 1073 (by decide)
  have hW : 2 ^ 1074 * Float64.V t = a.natAbs * 2 ^ 1073 * ((2 * b).natAbs * 2 ^ 1073) := by
    rw [hV, Int.natAbs_mul, show (2 * b).natAbs = b.natAbs * 2 by omega, show (2:Nat) ^ 1074 = 2 ^ 1073 * 2 from Nat.pow_succ ..]
    generalize (2:Nat) ^ 1073 = q
    generalize a.natAbs = x
    generalize b.natAbs = y
    ac_rfl
  have h1 := right_exact (t₀ := t) h (Nat.two_pow_pos _) (by
    rw [← hW, hV]
    refine Nat.mul_le_mul_left _ ?_
    have := hs
    rw [Nat.one_mul] at this
    exact this) hW
  have h2 : Float64.Right (hf (a * b)) (decide (a * b < 0)) ((a * b).natAbs * 2 ^ 1073) 1 := Float64.ofFrac_right (by decide) (half_eq _) (by decide)
  have h3 := right_exact (t₀ := t) h2 (by decide) hs (by rw [hV, Nat.one_mul])
  rw [h1, h3]

theorem div_floor_gen {r : UInt64} (k b : Int) (hb : 0 < b) (hb2 : b ≤ 524288) (hk : k.natAbs ≤ 2 ^ 30) (h : Fin r ∧ ∀ n : Int, n.natAbs ≤ 2 ^ 53 → (n * b ≤ k * 524288 → n ≤ w r) ∧ (k * 524288 ≤ n * b → Float64.val r ≤ n * G)) : DivP r k (2 * b) := by
  refine ⟨h.1, fun n hn => ?_⟩
  have h2 := h.2 n hn
  have e : n * (2 * b) = n * b * 2 := by rw [Int.mul_assoc]; congr 1; omega
  rw [e]
  exact ⟨fun g => h2.1 (by omega), fun g => h2.2 (by omega)⟩

theorem floor_div (a b : Int) (ha : a.natAbs ≤ 2 ^ 30) (hb : 0 < b) (hb2 : b ≤ 524288) : Flt.toInt Float64.floorOf (Float64.div (hf a) (Float64.ofInt b)) = a / (2 * b) := by
  have h := div_floor_gen a b hb hb2 ha (div_hf a b (by omega) hb (by omega))
  obtain ⟨s, m, e, hd⟩ := h.1
  rw [toInt_of _ hd, floor_w hd]
  exact divp_floor h (by omega) (by omega) ha
theorem ceil_div (a b : Int) (ha : a.natAbs ≤ 2 ^ 30) (hb : 0 < b) (hb2 : b ≤ 524288) : Flt.toInt Float64.ceilOf (Float64.div (hf a) (Float64.ofInt b)) = -((-a) / (2 * b)) := by
  have h := div_floor_gen a b hb hb2 ha (div_hf a b (by omega) hb (by omega))
  obtain ⟨s, m, e, hd⟩ := h.1
  rw [toInt_of _ hd]
  exact divp_ceil h (by omega) (by omega) ha hd

def qf (a b : Int) : UInt64 := Float64.ofFrac (decide (a < 0) != decide (b < 0)) a.natAbs b.natAbs
theorem floor_q (a b : Int) (ha : a.natAbs ≤ 2 ^ 30) (hb : 0 < b) (hb2 : b ≤ 524288) : Flt.toInt Float64.floorOf (qf a b) = a / b := by
  have h := divp_int a b ha hb (by omega)
  obtain ⟨s, m, e, hd⟩ := h.1
  show Flt.toInt _ (Float64.ofFrac _ _ _) = _
  rw [toInt_of _ hd, floor_w hd]
  exact divp_floor h hb (by omega) ha

/-- a value between two neighbours in units of 2^-20 -/
structure Bd (x : UInt64) (lo hi : Int) : Prop where
  fin : Fin x
  lo : lo * G ≤ Float64.val x
  hi : Float64.val x ≤ hi * G
theorem Bd.w_lo {x : UInt64} {lo hi : Int} (h : Bd x lo hi) : lo ≤ w x := le_w.mpr h.lo
theorem Bd.w_hi {x : UInt64} {lo hi : Int} (h : Bd x lo hi) : w x ≤ hi := w_le h.hi
theorem bd_hf (k : Int) (hk : k.natAbs ≤ 2 ^ 53) : Bd (hf k) (524288 * k) (524288 * k) := by
  have e : Float64.val (hf k) = 524288 * k * G := by rw [hf_val k hk, H_eq, Int.mul_left_comm, Int.mul_assoc]
  exact ⟨hf_fin k hk, Int.le_of_eq e.symm, Int.le_of_eq e⟩
theorem bd_int (i : Int) (hi : (2 * i).natAbs ≤ 2 ^ 53) : Bd (Float64.ofInt i) (1048576 * i) (1048576 * i) := by
  have h := bd_hf (2 * i) hi
  rw [← ofInt_hf i hi, show 524288 * (2 * i) = 1048576 * i by omega] at h
  exact h
theorem natAbs_G (v : Int) (lo hi : Int) (h1 : lo * G ≤ v) (h2 : v ≤ hi * G) (hl : lo.natAbs ≤ 2 ^ 54) (hh : hi.natAbs ≤ 2 ^ 54) : v.natAbs ≤ 2 ^ 1200 := by
  have h3 : v.natAbs ≤ 2 ^ 54 * 2 ^ 1054 := by
    have hG := G_pos
    have e : ((2 ^ 54 * 2 ^ 1054 : Nat) : Int) = 18014398509481984 * G := by rw [Int.natCast_mul, G_nat]; rfl
    have k1 : hi * G ≤ 18014398509481984 * G := Int.mul_le_mul_of_nonneg_right (by omega) (Int.le_of_lt hG)
    have k2 : (-18014398509481984) * G ≤ lo * G := Int.mul_le_mul_of_nonneg_right (by omega) (Int.le_of_lt hG)
    rw [Int.neg_mul] at k2
    generalize (2 ^ 54 * 2 ^ 1054 : Nat) = B at *
    omega
  refine Nat.le_trans h3 ?_
  rw [← Nat.pow_add]
  exact Nat.pow_le_pow_right (by decide) (by decide)
theorem bd_add {x y : UInt64} {a b c d : Int} (hx : Bd x a b) (hy : Bd y c d) (h1 : a.natAbs ≤ 2 ^ 50) (h2 : b.natAbs ≤ 2 ^ 50) (h3 : c.natAbs ≤ 2 ^ 50) (h4 : d.natAbs ≤ 2 ^ 50) : Bd (Float64.add x y) (a + c) (b + d) := by
  have k1 : (a + c) * G ≤ Float64.val x + Float64.val y := by rw [Int.add_mul]; exact Int.add_le_add hx.lo hy.lo
  have k2 : Float64.val x + Float64.val y ≤ (b + d) * G := by rw [Int.add_mul]; exact Int.add_le_add hx.hi hy.hi
  have h := add_gen hx.fin hy.fin (natAbs_G _ _ _ k1 k2 (by omega) (by omega))
  exact ⟨h.1, le_w.mp ((h.2 (a + c) (by omega)).1 k1), (h.2 (b + d) (by omega)).2 k2⟩
theorem bd_sub {x y : UInt64} {a b c d : Int} (hx : Bd x a b) (hy : Bd y c d) (h1 : a.natAbs ≤ 2 ^ 50) (h2 : b.natAbs ≤ 2 ^ 50) (h3 : c.natAbs ≤ 2 ^ 50) (h4 : d.natAbs ≤ 2 ^ 50) : Bd (Float64.sub x y) (a - d) (b - c) := by
  have k1 : (a - d) * G ≤ Float64.val x - Float64.val y := by rw [Int.sub_mul]; exact Int.sub_le_sub hx.lo hy.hi
  have k2 : Float64.val x - Float64.val y ≤ (b - c) * G := by rw [Int.sub_mul]; exact Int.sub_le_sub hx.hi hy.lo
  have h := sub_gen hx.fin hy.fin (natAbs_G _ _ _ k1 k2 (by omega) (by omega))
  exact ⟨h.1, le_w.mp ((h.2 (a - d) (by omega)).1 k1), (h.2 (b - c) (by omega)).2 k2⟩
theorem bd_floor {x : UInt64} {lo hi : Int} (h : Bd x lo hi) : lo / 1048576 ≤ Flt.toInt Float64.floorOf x ∧ Flt.toInt Float64.floorOf x ≤ hi / 1048576 := by
  obtain ⟨a, m, e, hd⟩ := h.fin
  rw [toInt_of _ hd, floor_w hd]
  have := h.w_lo
  have := h.w_hi
  omega
theorem bd_mul_TY (i lo hi : Int) (hi' : i.natAbs ≤ 2 ^ 30) (h1 : lo.natAbs ≤ 2 ^ 53) (h2 : hi.natAbs ≤ 2 ^ 53) (k1 : lo * 16777216 ≤ TM * i) (k2 : TM * i ≤ hi * 16777216) : Bd (Float64.mul TY (Float64.ofInt i)) lo hi := by
  have h := mul_TY i hi'
  exact ⟨h.1, le_w.mp ((h.2 lo h1).1 k1), (h.2 hi h2).2 k2⟩
theorem bd_TY : Bd TY 382984203 382984204 := by
  refine ⟨TY_fin, ?_, ?_⟩
  · rw [TY_val, G_K, ← Int.mul_assoc]
    exact Int.mul_le_mul_of_nonneg_right (by decide) (Int.le_of_lt K_pos)
  · rw [TY_val, G_K, ← Int.mul_assoc]
    exact Int.mul_le_mul_of_nonneg_right (by decide) (Int.le_of_lt K_pos)
/-- rounding a quotient by the tropical year -/
theorem round_TY (k p : Int) (hk : k.natAbs ≤ 2 ^ 30) (hp : p.natAbs ≤ 2 ^ 30) (h1 : ((2 * p - 1) * 524288 + 1) * TM ≤ k * 9223372036854775808) (h2 : k * 9223372036854775808 ≤ ((2 * p + 1) * 524288 - 1) * TM) : Flt.toInt Float64.nearestOf (Float64.div (hf k) TY) = p := by
  have h := div_TY k hk
  obtain ⟨a, m, e, hd⟩ := h.1
  rw [toInt_of _ hd]
  refine nearest_of hd p ?_ ?_
  · have := (h.2 ((2 * p - 1) * 524288 + 1) (by omega)).1 h1
    omega
  · have := w_le ((h.2 ((2 * p + 1) * 524288 - 1) (by omega)).2 h2)
    omega

theorem cmp_hf (k n : Int) (hk : k.natAbs ≤ 2 ^ 53) : Float64.cmpInt (hf k) n = some (compare k (2 * n)) := by
  obtain ⟨m, e, hd, hv⟩ := hf_dec k hk
  rw [Float64.cmpInt_right hd, hv]
  congr 1
  have e1 : n * 2 ^ 1074 = 2 * n * 2 ^ 1073 := by rw [U_eq, H_eq, ← Int.mul_assoc, ← Int.mul_assoc]; congr 1; omega
  rw [e1]
  rcases Int.lt_trichotomy k (2 * n) with h | h | h
  · rw [Int.compare_eq_lt.mpr h, Int.compare_eq_lt.mpr (Int.mul_lt_mul_of_pos_right h P_pos)]
  · rw [h, Int.compare_eq_eq.mpr rfl, Int.compare_eq_eq.mpr rfl]
  · rw [Int.compare_eq_gt.mpr h, Int.compare_eq_gt.mpr (Int.mul_lt_mul_of_pos_right h P_pos)]
theorem cmp_lt_x {x : UInt64} (hx : Fin x) (n : Int) : (Float64.cmpInt x n == some Ordering.lt) = decide (w x < 1048576 * n) := by
  obtain ⟨a, m, e, hd⟩ := hx
  rw [Float64.cmpInt_right hd, U_eq, ← Int.mul_assoc, Int.mul_comm n 1048576]
  by_cases h : w x < 1048576 * n
  · rw [Int.compare_eq_lt.mpr (w_lt.mp h)]; simp [h]
  · have h2 : ¬ Float64.val x < 1048576 * n * G := fun hh => h (w_lt.mpr hh)
    simp only [h, decide_false]
    cases hc : compare (Float64.val x) (1048576 * n * G) with
    | lt => exact absurd (Int.compare_eq_lt.mp hc) h2
    | eq => rfl
    | gt => rfl
theorem cmp_ge_x {x : UInt64} (hx : Fin x) (n : Int) : (Float64.cmpInt x n == some Ordering.gt || Float64.cmpInt x n == some Ordering.eq) = decide (1048576 * n ≤ w x) := by
  have h0 := cmp_lt_x hx n
  obtain ⟨a, m, e, hd⟩ := hx
  rw [Float64.cmpInt_right hd] at h0 ⊢
  by_cases h : 1048576 * n ≤ w x
  · have h1 : decide (w x < 1048576 * n) = false := by simp; omega
    rw [h1] at h0
    cases hc : compare (Float64.val x) (n * 2 ^ 1074) with
    | lt => rw [hc] at h0; cases h0
    | eq => simp [h]
    | gt => simp [h]
  · have h1 : decide (w x < 1048576 * n) = true := by simp; omega
    rw [h1] at h0
    cases hc : compare (Float64.val x) (n * 2 ^ 1074) with
    | lt => simp [h]
    | eq => rw [hc] at h0; cases h0
    | gt => rw [hc] at h0; cases h0

section
variable {prog : Program} {wd : World} {A : Around} {E : Value → Shared → Prop} {s : Shared} {Q : Value → Shared → Prop} {t u : Tok} {x y : UInt64} {a b n : Int}
theorem fits {n : Int} (hn : n.natAbs ≤ 549755813888) : n.natAbs < 2 ^ 1023 := Nat.lt_of_le_of_lt hn (Nat.lt_of_lt_of_le (show 549755813888 < 2 ^ 40 by decide) (Nat.pow_le_pow_right (by decide) (by decide)))
theorem r_sub_ff (hx : x = hf a) (hy : y = hf b) (ha : a.natAbs ≤ 1073741824) (hb : b.natAbs ≤ 1073741824) {c : Int} (he : (a - b) = c) (h : Q (.float (hf c) s.toks) { s with toks := s.toks + 1 }) : wpAny (model prog wd) A (binaryOp .Sub (.float x t) (.float y u)) Q E s := by
  subst he
  subst hx hy
  refine sub_float ?_
  rw [hf_sub a b (by omega) (by omega) (by omega)]; exact h
theorem r_add_fi (hx : x = hf a) (ha : a.natAbs ≤ 1073741824) (hn : n.natAbs ≤ 549755813888) {c : Int} (he : (a + 2 * n) = c) (h : Q (.float (hf c) s.toks) { s with toks := s.toks + 1 }) : wpAny (model prog wd) A (binaryOp .Add (.float x t) (.int n u)) Q E s := by
  subst he
  subst hx
  refine add_fi_fits (fits hn) ?_
  rw [ofInt_hf n (by omega), hf_add a (2 * n) (by omega) (by omega) (by omega)]; exact h
theorem r_sub_fi (hx : x = hf a) (ha : a.natAbs ≤ 1073741824) (hn : n.natAbs ≤ 549755813888) {c : Int} (he : (a - 2 * n) = c) (h : Q (.float (hf c) s.toks) { s with toks := s.toks + 1 }) : wpAny (model prog wd) A (binaryOp .Sub (.float x t) (.int n u)) Q E s := by
  subst he
  subst hx
  refine sub_fi_fits (fits hn) ?_
  rw [ofInt_hf n (by omega), hf_sub a (2 * n) (by omega) (by omega) (by omega)]; exact h
theorem r_add_if (hx : x = hf a) (ha : a.natAbs ≤ 1073741824) (hn : n.natAbs ≤ 549755813888) {c : Int} (he : (2 * n + a) = c) (h : Q (.float (hf c) s.toks) { s with toks := s.toks + 1 }) : wpAny (model prog wd) A (binaryOp .Add (.int n u) (.float x t)) Q E s := by
  subst he
  subst hx
  refine add_if_fits (fits hn) ?_
  rw [ofInt_hf n (by omega), hf_add (2 * n) a (by omega) (by omega) (by omega)]; exact h
theorem r_sub_if (hx : x = hf a) (ha : a.natAbs ≤ 1073741824) (hn : n.natAbs ≤ 549755813888) {c : Int} (he : (2 * n - a) = c) (h : Q (.float (hf c) s.toks) { s with toks := s.toks + 1 }) : wpAny (model prog wd) A (binaryOp .Sub (.int n u) (.float x t)) Q E s := by
  subst he
  subst hx
  refine sub_if_fits (fits hn) ?_
  rw [ofInt_hf n (by omega), hf_sub (2 * n) a (by omega) (by omega) (by omega)]; exact h
theorem r_mul_fi (hx : x = hf a) (ha : a.natAbs ≤ 1073741824) (hn : 0 < n) (hn2 : n ≤ 4096) {c : Int} (he : (a * n) = c) (h : Q (.float (hf c) s.toks) { s with toks := s.toks + 1 }) : wpAny (model prog wd) A (binaryOp .Mult (.float x t) (.int n u)) Q E s := by
  subst he
  subst hx
  refine mul_fi_fits (fits (by omega)) ?_
  rw [hf_mul' a n (by omega) hn (by omega) (by
    rw [Int.natAbs_mul]
    calc a.natAbs * n.natAbs ≤ 1073741824 * 4096 := Nat.mul_le_mul ha (by omega)
      _ ≤ 2 ^ 53 := by decide)]
  exact h
theorem over_not {n : Int} (hn : n.natAbs ≤ 549755813888) : ¬ Flt.Over n := fun h => Float64.ofInt_fits (fits hn) (Flt.inf_of_over h)
theorem r_div_fi (hn : 0 < n) (hn2 : n ≤ 524288) (h : Q (.float (Float64.div x (Float64.ofInt n)) s.toks) { s with toks := s.toks + 1 }) : wpAny (model prog wd) A (binaryOp .Div (.float x t) (.int n u)) Q E s :=
  AutoFloatOps.truediv_fi_2 (Float64.ofInt_fits (fits (by omega))) (fun x => absurd ((Flt.isZero_ofInt n).mp x) (by omega)) h
theorem r_mod_fi (hx : x = hf a) (ha : a.natAbs ≤ 1073741824) (h2 : a % 2 = 0) (hn : 0 < n) (hn2 : n ≤ 524288) {c : Int} (he : (a % (2 * n)) = c) (h : Q (.float (hf c) s.toks) { s with toks := s.toks + 1 }) : wpAny (model prog wd) A (binaryOp .Mod (.float x t) (.int n u)) Q E s := by
  subst he
  subst hx
  refine AutoFloatOps.mod_fi_2 (Float64.ofInt_fits (fits (by omega))) (fun x => absurd ((Flt.isZero_ofInt n).mp x) (by omega)) ?_
  obtain ⟨c, rfl⟩ : ∃ c, a = 2 * c := ⟨a / 2, by omega⟩
  rw [mod_hf c n (by omega) hn (by omega), ← Int.mul_emod_mul_of_pos _ _ (show (0 : Int) < 2 by decide)]
  exact h
theorem r_div_ii (hA : A.handled = none) (ha : a.natAbs ≤ 1073741824) (hb : 0 < b) (hb2 : b ≤ 524288) (h : Q (.float (qf a b) s.toks) { s with toks := s.toks + 1 }) : wpAny (model prog wd) A (binaryOp .Div (.int a t) (.int b u)) Q E s :=
  Flt.div_ii_fits hA (fits (by omega)) (fun h0 => absurd h0 (by omega)) fun _ _ => h
theorem r_add_xi (hn : n.natAbs ≤ 549755813888) (h : Q (.float (Float64.add x (Float64.ofInt n)) s.toks) { s with toks := s.toks + 1 }) : wpAny (model prog wd) A (binaryOp .Add (.float x t) (.int n u)) Q E s := add_fi_fits (fits hn) h
theorem r_floor (hA : A.handled = none) (hx : Fin x) (h : Q (.int (Flt.toInt Float64.floorOf x) s.toks) { s with toks := s.toks + 1 }) : wpAny (model prog wd) A (call (.builtin "math.floor") [.float x t]) Q E s :=
  Flt.call_floor_float hA (fun c => by rw [fin_nan hx] at c; cases c) (fun c => by rw [fin_inf hx] at c; cases c) fun _ => h
theorem r_ceil (hA : A.handled = none) (hx : Fin x) (h : Q (.int (Flt.toInt Float64.ceilOf x) s.toks) { s with toks := s.toks + 1 }) : wpAny (model prog wd) A (call (.builtin "math.ceil") [.float x t]) Q E s :=
  Flt.call_ceil_float hA (fun c => by rw [fin_nan hx] at c; cases c) (fun c => by rw [fin_inf hx] at c; cases c) fun _ => h
theorem r_round (hA : A.handled = none) (hx : Fin x) (h : Q (.int (Flt.toInt Float64.nearestOf x) s.toks) { s with toks := s.toks + 1 }) : wpAny (model prog wd) A (call (.builtin "round") [.float x t]) Q E s :=
  Flt.call_round_float hA (fun c => by rw [fin_nan hx] at c; cases c) (fun c => by rw [fin_inf hx] at c; cases c) fun _ => h
theorem r_trunc (hA : A.handled = none) (hx : Fin x) (h : Q (.int (Flt.toInt Float64.truncOf x) s.toks) { s with toks := s.toks + 1 }) : wpAny (model prog wd) A (call (.builtin "math.trunc") [.float x t]) Q E s :=
  Flt.call_trunc_float hA (fun c => by rw [fin_nan hx] at c; cases c) (fun c => by rw [fin_inf hx] at c; cases c) fun _ => h
theorem r_int (hA : A.handled = none) (hx : Fin x) (h : Q (.int (Flt.toInt Float64.truncOf x) s.toks) { s with toks := s.toks + 1 }) : wpAny (model prog wd) A (call (.type "int") [.float x t]) Q E s :=
  Flt.call_int_float3 hA (fun c => by rw [fin_nan hx] at c; cases c) (fun c => by rw [fin_inf hx] at c; cases c) fun _ => h
theorem r_floor_x (hA : A.handled = none) (hx : Fin x) (he : Flt.toInt Float64.floorOf x = n) (h : Q (.int n s.toks) { s with toks := s.toks + 1 }) : wpAny (model prog wd) A (call (.builtin "math.floor") [.float x t]) Q E s :=
  r_floor hA hx (by rw [he]; exact h)
theorem r_floor_h (hA : A.handled = none) (hx : x = hf a) (ha : a.natAbs ≤ 1073741824) {c : Int} (he : (a / 2) = c) (h : Q (.int c s.toks) { s with toks := s.toks + 1 }) : wpAny (model prog wd) A (call (.builtin "math.floor") [.float x t]) Q E s := by
  subst he
  subst hx
  refine r_floor hA (hf_fin a (by omega)) ?_
  obtain ⟨m, e, hd, _⟩ := hf_dec a (by omega)
  have : Flt.toInt Float64.floorOf (hf a) = a / 2 := by
    rw [toInt_of _ hd, floor_w hd, hf_w a (by omega)]; omega
  rw [this]; exact h
theorem r_floor_d (hA : A.handled = none) (hx : x = hf a) (ha : a.natAbs ≤ 1073741824) (hb : 0 < b) (hb2 : b ≤ 524288) {c : Int} (he : (a / (2 * b)) = c) (h : Q (.int c s.toks) { s with toks := s.toks + 1 }) : wpAny (model prog wd) A (call (.builtin "math.floor") [.float (Float64.div x (Float64.ofInt b)) t]) Q E s := by
  subst he
  subst hx
  refine r_floor hA (div_hf a b (by omega) hb (by omega)).1 ?_
  rw [floor_div a b (by omega) hb hb2]; exact h
theorem r_ceil_d (hA : A.handled = none) (hx : x = hf a) (ha : a.natAbs ≤ 1073741824) (hb : 0 < b) (hb2 : b ≤ 524288) {c : Int} (he : (-((-a) / (2 * b))) = c) (h : Q (.int c s.toks) { s with toks := s.toks + 1 }) : wpAny (model prog wd) A (call (.builtin "math.ceil") [.float (Float64.div x (Float64.ofInt b)) t]) Q E s := by
  subst he
  subst hx
  refine r_ceil hA (div_hf a b (by omega) hb (by omega)).1 ?_
  rw [ceil_div a b (by omega) hb hb2]; exact h
theorem r_floor_q (hA : A.handled = none) (ha : a.natAbs ≤ 1073741824) (hb : 0 < b) (hb2 : b ≤ 524288) {c : Int} (he : (a / b) = c) (h : Q (.int c s.toks) { s with toks := s.toks + 1 }) : wpAny (model prog wd) A (call (.builtin "math.floor") [.float (qf a b) t]) Q E s := by
  subst he
  refine r_floor hA (divp_int a b (by omega) hb (by omega)).1 ?_
  rw [floor_q a b (by omega) hb hb2]; exact h
theorem qf_bd (a b : Int) (ha : a.natAbs ≤ 2 ^ 30) (hb : 0 < b) (hb2 : b ≤ 524288) : Bd (qf a b) (a * 1048576 / b) (a * 1048576 / b + 1) := by
  have h := divp_int a b ha hb (by omega)
  have h1 := Int.ediv_mul_le (a * 1048576) (Int.ne_of_gt hb)
  have h2 := Int.lt_ediv_add_one_mul_self (a * 1048576) hb
  have hq : (a * 1048576 / b).natAbs ≤ 2 ^ 51 := Nat.le_trans (Int.natAbs_ediv_le_natAbs _ b) (by omega)
  exact ⟨h.1, le_w.mp ((h.2 _ (by omega)).1 h1), (h.2 _ (by omega)).2 (Int.le_of_lt h2)⟩
/-- the month's term of to_jd -/
theorem floor_month (m adj d : Int) (hm : 1 ≤ m ∧ m ≤ 12) (hadj : -2 ≤ adj ∧ adj ≤ 0) (hd : 0 ≤ d ∧ d ≤ 100) : Flt.toInt Float64.floorOf (Float64.add (Float64.add (qf (367 * m - 362) 12) (Float64.ofInt adj)) (Float64.ofInt d)) = (367 * m - 362) / 12 + adj + d := by
  have h1 := qf_bd (367 * m - 362) 12 (by omega) (by decide) (by decide)
  have h2 := bd_add h1 (bd_int adj (by omega)) (by omega) (by omega) (by omega) (by omega)
  have h3 := bd_add h2 (bd_int d (by omega)) (by omega) (by omega) (by omega) (by omega)
  have h4 := bd_floor h3
  omega
theorem r_floor_m (hA : A.handled = none) {m adj d : Int} (hm : 1 ≤ m ∧ m ≤ 12) (hadj : -2 ≤ adj ∧ adj ≤ 0) (hd : 0 ≤ d ∧ d ≤ 100) {c : Int} (he : ((367 * m - 362) / 12 + adj + d) = c) (h : Q (.int c s.toks) { s with toks := s.toks + 1 }) : wpAny (model prog wd) A (call (.builtin "math.floor") [.float (Float64.add (Float64.add (qf (367 * m - 362) 12) (Float64.ofInt adj)) (Float64.ofInt d)) t]) Q E s := by
  subst he
  refine r_floor hA ?_ ?_
  · have h1 := qf_bd (367 * m - 362) 12 (by omega) (by decide) (by decide)
    have h2 := bd_add h1 (bd_int adj (by omega)) (by omega) (by omega) (by omega) (by omega)
    exact (bd_add h2 (bd_int d (by omega)) (by omega) (by omega) (by omega) (by omega)).fin
  · rw [floor_month m adj d hm hadj hd]; exact h
theorem trunc_hf (a : Int) (ha : a.natAbs ≤ 1073741824) (h2 : a % 2 = 0) : Flt.toInt Float64.truncOf (hf a) = a / 2 := by
  obtain ⟨m, e, hd, hv⟩ := hf_dec a (by omega)
  rw [toInt_of _ hd]
  refine trunc_of_nonneg hd _ ?_
  rw [hv, H_eq, U_eq, ← Int.mul_assoc, ← Int.mul_assoc]; congr 1; omega
theorem r_trunc_h (hA : A.handled = none) (hx : x = hf a) (ha : a.natAbs ≤ 1073741824) (h2 : a % 2 = 0) {c : Int} (he : (a / 2) = c) (h : Q (.int c s.toks) { s with toks := s.toks + 1 }) : wpAny (model prog wd) A (call (.builtin "math.trunc") [.float x t]) Q E s := by
  subst he
  subst hx
  refine r_trunc hA (hf_fin a (by omega)) ?_
  rw [trunc_hf a ha h2]; exact h
theorem r_int_h (hA : A.handled = none) (hx : x = hf a) (ha : a.natAbs ≤ 1073741824) (h2 : a % 2 = 0) {c : Int} (he : (a / 2) = c) (h : Q (.int c s.toks) { s with toks := s.toks + 1 }) : wpAny (model prog wd) A (call (.type "int") [.float x t]) Q E s := by
  subst he
  subst hx
  refine r_int hA (hf_fin a (by omega)) ?_
  rw [trunc_hf a ha h2]; exact h
theorem r_round_TY (hA : A.handled = none) (hx : x = hf a) (hy : y = TY) (ha : a.natAbs ≤ 1073741824) (hn : n.natAbs ≤ 1073741824) (h1 : ((2 * n - 1) * 524288 + 1) * 6425408712209331 ≤ a * 9223372036854775808) (h2 : a * 9223372036854775808 ≤ ((2 * n + 1) * 524288 - 1) * 6425408712209331)
    (h : Q (.int n s.toks) { s with toks := s.toks + 1 }) : wpAny (model prog wd) A (call (.builtin "round") [.float (Float64.div x y) t]) Q E s := by
  subst hx hy
  refine r_round hA (div_TY a (by omega)).1 ?_
  rw [round_TY a n (by omega) (by omega) h1 h2]; exact h
theorem r_lt_fi (hx : x = hf a) (ha : a.natAbs ≤ 1073741824) {bb : Bool} (he : decide (a < 2 * n) = bb) (h : Q (.bool bb) s) : wpAny (model prog wd) A (compareOp .Lt (.float x t) (.int n u)) Q E s := by
  subst he
  subst hx
  refine lt_fi ?_
  rw [cmp_hf a n (by omega)]
  rcases Int.lt_trichotomy a (2 * n) with g | g | g
  · rw [Int.compare_eq_lt.mpr g]; rw [decide_eq_true g] at h; exact h
  · rw [Int.compare_eq_eq.mpr g]; rw [decide_eq_false (by omega)] at h; exact h
  · rw [Int.compare_eq_gt.mpr g]; rw [decide_eq_false (by omega)] at h; exact h
theorem r_le_fi (hx : x = hf a) (ha : a.natAbs ≤ 1073741824) {bb : Bool} (he : decide (a ≤ 2 * n) = bb) (h : Q (.bool bb) s) : wpAny (model prog wd) A (compareOp .LtE (.float x t) (.int n u)) Q E s := by
  subst he
  subst hx
  refine le_fi ?_
  rw [cmp_hf a n (by omega)]
  rcases Int.lt_trichotomy a (2 * n) with g | g | g
  · rw [Int.compare_eq_lt.mpr g]; rw [decide_eq_true (by omega)] at h; exact h
  · rw [Int.compare_eq_eq.mpr g]; rw [decide_eq_true (by omega)] at h; exact h
  · rw [Int.compare_eq_gt.mpr g]; rw [decide_eq_false (by omega)] at h; exact h
theorem r_gt_fi (hx : x = hf a) (ha : a.natAbs ≤ 1073741824) {bb : Bool} (he : decide (2 * n < a) = bb) (h : Q (.bool bb) s) : wpAny (model prog wd) A (compareOp .Gt (.float x t) (.int n u)) Q E s := by
  subst he
  subst hx
  refine gt_fi ?_
  rw [cmp_hf a n (by omega)]
  rcases Int.lt_trichotomy a (2 * n) with g | g | g
  · rw [Int.compare_eq_lt.mpr g]; rw [decide_eq_false (by omega)] at h; exact h
  · rw [Int.compare_eq_eq.mpr g]; rw [decide_eq_false (by omega)] at h; exact h
  · rw [Int.compare_eq_gt.mpr g]; rw [decide_eq_true (by omega)] at h; exact h
theorem r_gt_ix (hx : Fin x) {bb : Bool} (he : decide (w x < 1048576 * n) = bb) (h : Q (.bool bb) s) : wpAny (model prog wd) A (compareOp .Gt (.int n u) (.float x t)) Q E s :=
  by subst he; exact gt_if (by rw [cmp_lt_x hx]; exact h)
theorem r_le_ix (hx : Fin x) {bb : Bool} (he : decide (1048576 * n ≤ w x) = bb) (h : Q (.bool bb) s) : wpAny (model prog wd) A (compareOp .LtE (.int n u) (.float x t)) Q E s :=
  by subst he; exact le_if (by rw [cmp_ge_x hx]; exact h)
theorem r_lt_xi (hx : Fin x) {bb : Bool} (he : decide (w x < 1048576 * n) = bb) (h : Q (.bool bb) s) : wpAny (model prog wd) A (compareOp .Lt (.float x t) (.int n u)) Q E s :=
  by subst he; exact lt_fi (by rw [cmp_lt_x hx]; exact h)
theorem r_ne_ff (hx : x = hf a) (hy : y = hf b) (ha : a.natAbs ≤ 1073741824) (hb : b.natAbs ≤ 1073741824) (h : Q (.bool (decide (a ≠ b))) s) : wpAny (model prog wd) A (compareOp .NotEq (.float x t) (.float y u)) Q E s := by
  subst hx hy
  refine AutoFloatOps.ne_0 ?_
  obtain ⟨m, e, hd, hv⟩ := hf_dec a (by omega)
  obtain ⟨m', e', hd', hv'⟩ := hf_dec b (by omega)
  rw [Float64.cmp_right hd hd', hv, hv']
  rcases Int.lt_trichotomy a b with g | g | g
  · rw [Int.compare_eq_lt.mpr (Int.mul_lt_mul_of_pos_right g P_pos)]; rw [decide_eq_true (by omega)] at h; exact h
  · rw [g, Int.compare_eq_eq.mpr rfl]; rw [decide_eq_false (by omega)] at h; exact h
  · rw [Int.compare_eq_gt.mpr (Int.mul_lt_mul_of_pos_right g P_pos)]; rw [decide_eq_true (by omega)] at h; exact h
theorem r_mul_r {a b : Int} (hb : b.natAbs ≤ 1073741824) (h : Q (.int (a * b) s.toks) { s with toks := s.toks + 1 }) : wpAny (model prog wd) A (binaryOp .Mult (.int a t) (.int b u)) Q E s := mul_int h (IntMulOk.of_right (intBits_le_64 (by omega) (by omega)))
theorem r_mul_l {a b : Int} (ha : a.natAbs ≤ 1073741824) (h : Q (.int (a * b) s.toks) { s with toks := s.toks + 1 }) : wpAny (model prog wd) A (binaryOp .Mult (.int a t) (.int b u)) Q E s := mul_int h (IntMulOk.of_left (intBits_le_64 (by omega) (by omega)))
theorem TY_nz : ¬ Float64.isZero 4645133024903820211 = true := by decide +kernel
theorem r_div_TY (hy : y = 4645133024903820211) (h : Q (.float (Float64.div x y) s.toks) { s with toks := s.toks + 1 }) : wpAny (model prog wd) A (binaryOp .Div (.float x t) (.float y u)) Q E s := by
  subst hy
  exact AutoFloatOps.truediv_1 TY_nz h
theorem r_eq_y {a b : Int} (e : a = b) (h : Q (.bool true) s) : wpAny (model prog wd) A (compareOp .Eq (.int a t) (.int b u)) Q E s := eq_int (by rw [beq_iff_eq.mpr e]; exact h)
theorem r_eq_n {a b : Int} (e : a ≠ b) (h : Q (.bool false) s) : wpAny (model prog wd) A (compareOp .Eq (.int a t) (.int b u)) Q E s := eq_int (by rw [beq_eq_false_iff_ne.mpr e]; exact h)
theorem r_ne_y {a b : Int} (e : a ≠ b) (h : Q (.bool true) s) : wpAny (model prog wd) A (compareOp .NotEq (.int a t) (.int b u)) Q E s := ne_int (by rw [bne_iff_ne.mpr e]; exact h)
theorem r_ne_n {a b : Int} (e : a = b) (h : Q (.bool false) s) : wpAny (model prog wd) A (compareOp .NotEq (.int a t) (.int b u)) Q E s := ne_int (by subst e; rw [bne_self_eq_false]; exact h)
theorem r_lt_y {a b : Int} (e : a < b) (h : Q (.bool true) s) : wpAny (model prog wd) A (compareOp .Lt (.int a t) (.int b u)) Q E s := lt_int (by rw [decide_eq_true e]; exact h)
theorem r_lt_n {a b : Int} (e : ¬ a < b) (h : Q (.bool false) s) : wpAny (model prog wd) A (compareOp .Lt (.int a t) (.int b u)) Q E s := lt_int (by rw [decide_eq_false e]; exact h)
theorem r_le_y {a b : Int} (e : a ≤ b) (h : Q (.bool true) s) : wpAny (model prog wd) A (compareOp .LtE (.int a t) (.int b u)) Q E s := le_int (by rw [decide_eq_true e]; exact h)
theorem r_le_n {a b : Int} (e : ¬ a ≤ b) (h : Q (.bool false) s) : wpAny (model prog wd) A (compareOp .LtE (.int a t) (.int b u)) Q E s := le_int (by rw [decide_eq_false e]; exact h)
theorem r_gt_y {a b : Int} (e : b < a) (h : Q (.bool true) s) : wpAny (model prog wd) A (compareOp .Gt (.int a t) (.int b u)) Q E s := gt_int (by rw [decide_eq_true e]; exact h)
theorem r_gt_n {a b : Int} (e : ¬ b < a) (h : Q (.bool false) s) : wpAny (model prog wd) A (compareOp .Gt (.int a t) (.int b u)) Q E s := gt_int (by rw [decide_eq_false e]; exact h)
theorem r_add_ib {b : Bool} {k : Int} (he : n + (if b = true then (1 : Int) else 0) = k) (h : Q (.int k s.toks) { s with toks := s.toks + 1 }) : wpAny (model prog wd) A (binaryOp .Add (.int n t) (.bool b)) Q E s := add_int_bool (by rw [he]; exact h)
end
theorem half_c : (4602678819172646912 : UInt64) = hf 1 := by decide +kernel
theorem epg_c : (4700144277945057280 : UInt64) = hf 3442851 := by decide +kernel
theorem epp_c : (4701118784549683200 : UInt64) = hf 3896641 := by decide +kernel
theorem TY_c : (4645133024903820211 : UInt64) = TY := rfl
end Mine
end
section
open PySem PySem.W PyProof.Rows
namespace Mine

/-- a contract: what a call of f with vs hands back (r) and makes (tl), where pre holds of the ledger -/
def Con (w : World) (p : Program) (loose : List Str) (mean : ExcName → Option Value) (mg mb : Str → Option Value) (f : Value) (vs : List Value) (dn : Nat)
    (pre : List (Addr × Obj) → Prop) (Out : Value → List (Addr × Obj) → Prop) : Prop :=
  ∀ (dp un : Nat) (gd : Option (List Code)) (cn : Str) (cs : Scope) (a : Addr) (ccd : Value) (cl : List (Str × Addr)) (outer : List Env) (A₀ : Around) (base h₀ : Heap) (L : Addr) (m : Str → Option Value) (news : List (Addr × Obj)) (s : Shared) (Q E : Value → Shared → Prop),
    Below A₀ base outer h₀ → Fr h₀ L s.heap m → (hd.heap_39 w.params).In h₀ → News h₀ L s.heap news → Top p loose mean mg mb h₀ → cs.kind = .function → pre news →
    dp + dn < recursionLimit → un + 8 * dn < cLine →
    (∀ r tl h' tk', Fr h₀ L h' m → News h₀ L h' (tl ++ news) → (∀ q ∈ news, ∀ p ∈ tl, q.1 < p.1) → Out r tl → Q r { s with heap := h', toks := tk' }) →
    wpAny (model PySem.Challenge.rw_ad5015_01.row.prog w) (ktrTop dp un gd cn cs L a ccd cl outer) (call f vs) Q E s

section
variable {w : World} {p : Program} {loose : List Str} {mean : ExcName → Option Value} {mg mb : Str → Option Value} {f : Value} {vs : List Value} {dn : Nat} {pre : List (Addr × Obj) → Prop} {Out : Value → List (Addr × Obj) → Prop}
theorem con_use {dp un : Nat} {gd : Option (List Code)} {cn : Str} {cs : Scope} {a : Addr} {ccd : Value} {cl : List (Str × Addr)} {outer : List Env} {A₀ : Around} {base h₀ : Heap} {L : Addr} {m : Str → Option Value} {news : List (Addr × Obj)} {s : Shared} {Q E : Value → Shared → Prop}
    (c : Con w p loose mean mg mb f vs dn pre Out) (B : Below A₀ base outer h₀) (F : Fr h₀ L s.heap m) (X : (hd.heap_39 w.params).In h₀) (N : News h₀ L s.heap news) (T : Top p loose mean mg mb h₀) (hk : cs.kind = .function) (hp : pre news)
    (hd : dp + dn < recursionLimit) (hu : un + 8 * dn < cLine)
    (ret : ∀ r tl h' tk', Fr h₀ L h' m → News h₀ L h' (tl ++ news) → (∀ q ∈ news, ∀ p ∈ tl, q.1 < p.1) → Out r tl → Q r { s with heap := h', toks := tk' }) :
    wpAny (model PySem.Challenge.rw_ad5015_01.row.prog w) (ktrTop dp un gd cn cs L a ccd cl outer) (call f vs) Q E s := c _ _ _ _ _ _ _ _ _ _ _ _ _ _ _ _ _ _ B F X N T hk hp hd hu ret
end
theorem nil_app {M : Model} {A : Around} {E : Value → Shared → Prop} {s : Shared} {f : Value} {vs : List Value} {Q : Value → Shared → Prop} (h : wpAny M A (call f vs) Q E s) : wpAny M A (call f ([] ++ vs)) Q E s := h
theorem news_nil {h₀ h : Heap} {L : Addr} {news : List (Addr × Obj)} (N : News h₀ L h news) : News h₀ L h ([] ++ news) := N
theorem ord_nil {news : List (Addr × Obj)} : ∀ q ∈ news, ∀ p ∈ ([] : List (Addr × Obj)), q.1 < p.1 := fun _ _ _ h => nomatch h

theorem in_tupK {prog : Program} {w : World} {A : Around} {E : Value → Shared → Prop} {s : Shared} {K : Frag} {h₀ : Heap} {L : Addr} {m : Str → Option Value} {a : Addr} {n : Nat} {l : List Value} {dd : Option Addr} {sl : Array (Option Value)} {x : Int} {u : Tok} {ns : List Int} {b : Bool} {Q : Value → Shared → Prop}
    (F : Fr h₀ L s.heap m) (X₀ : K.In h₀) (hl : K.lookup a = some ⟨.type "tuple", dd, .seq l.toArray n, sl⟩) (hi : IntsAre l ns) (hb : ns.any (· == x) = b) (h : Q (.bool b) s) : wpAny (model prog w) A (compareOp .In (.int x u) (.ref a)) Q E s :=
  in_tuple_ints (tupK (X₀.keeps F.keep) hl) (by simpa using hi) (by rw [hb]; exact h)
theorem execs_append (l1 l2 : List Stmt) (env : Env) : execs (l1 ++ l2) env = (do match ← execs l1 env with | .next => execs l2 env | f => pure f) := by
  induction l1 with
  | nil => rw [List.nil_append, execs_nil, pure_bind]
  | cons st r ih =>
    rw [List.cons_append, execs_cons, execs_cons, bind_assoc]
    congr 1
    funext f
    cases f with
    | next => exact ih
    | cont => rw [pure_bind]
    | brk => rw [pure_bind]
    | ret v => rw [pure_bind]
/-- a body is walked in two parts -/
theorem execs_cut {M : Model} {A : Around} {E : Value → Shared → Prop} {s : Shared} {env : Env} {Q : Flow → Shared → Prop} (l1 l2 : List Stmt) (Mid : Shared → Prop)
    (h : wpAny M A (execs l1 env) (fun f s' => match f with | .next => Mid s' | f => Q f s') E s) (k : ∀ s', Mid s' → wpAny M A (execs l2 env) Q E s') : wpAny M A (execs (l1 ++ l2) env) Q E s := by
  rw [execs_append]
  refine wpAny_bind (wpAny_mono h (fun f s' g => ?_) fun _ _ g => g)
  cases f with
  | next => exact k s' g
  | cont => exact wpAny_pure g
  | brk => exact wpAny_pure g
  | ret v => exact wpAny_pure g
theorem fr_put {g h : Heap} {L : Addr} {m : Str → Option Value} {x : Str} {v : Value} (F : Fr g L h m) (e : m x = some v) : Fr g L h (fun y => if y = x then some v else m y) := by
  have : (fun y => if y = x then some v else m y) = m := by
    funext y
    by_cases h : y = x
    · rw [if_pos h, h, e]
    · rw [if_neg h]
  rw [this]; exact F
theorem put_eq {m m' : Str → Option Value} {x : Str} {v : Value} (e : m x = some v) (q : m' = m) : (fun y => if y = x then some v else m' y) = m := by
  subst q
  funext y
  by_cases h : y = x
  · rw [if_pos h, h, e]
  · rw [if_neg h]
theorem fr_cast {g h : Heap} {L : Addr} {m m' : Str → Option Value} (F : Fr g L h m) (q : m' = m) : Fr g L h m' := q ▸ F
/-- between two parts of a body: the frame's map is known by P alone -/
def Mid (g : Heap) (L : Addr) (s₁ : Shared) (news : List (Addr × Obj)) (P : (Str → Option Value) → Prop) (s' : Shared) : Prop :=
  ∃ h tk m, s' = { s₁ with heap := h, toks := tk } ∧ Fr g L h m ∧ News g L h news ∧ P m
theorem Mid.intro {g : Heap} {L : Addr} {s₁ : Shared} {news : List (Addr × Obj)} {P : (Str → Option Value) → Prop} {h : Heap} {tk : Nat} {m : Str → Option Value} (F : Fr g L h m) (N : News g L h news) (p : P m) : Mid g L s₁ news P { s₁ with heap := h, toks := tk } := ⟨_, _, _, rfl, F, N, p⟩
/-! the calendars in plain numbers -/
def leapB (y : Int) : Bool := decide (y % 4 = 0) && (decide (¬ y % 100 = 0) || decide (y % 400 = 0))
def mlen (l : Bool) (m : Int) : Int := if m = 2 then (if l then 29 else 28) else if m = 4 ∨ m = 6 ∨ m = 9 ∨ m = 11 then 30 else 31
def moff (l : Bool) (m : Int) : Int := (367 * m - 362) / 12 + (if m ≤ 2 then 0 else if l then -1 else -2)
def jan (y : Int) : Int := 1721426 + 365 * (y - 1) + (y - 1) / 4 - (y - 1) / 100 + (y - 1) / 400
end Mine
end
section
open PySem PySem.W PyProof.Rows
namespace Mine
theorem leapB_iff (y : Int) : leapB y = true ↔ (y % 4 = 0 ∧ (¬ y % 100 = 0 ∨ y % 400 = 0)) := by
  unfold leapB; simp
theorem leapB_no (y : Int) : leapB y = false ↔ ¬ (y % 4 = 0 ∧ (¬ y % 100 = 0 ∨ y % 400 = 0)) := by
  rw [← leapB_iff]; simp
def lp (l : Bool) : Int := if l then 1 else 0
theorem jan_succ (y : Int) : jan (y + 1) = jan y + 365 + lp (leapB y) := by
  unfold jan lp
  by_cases h : leapB y = true
  · rw [if_pos h]; rw [leapB_iff] at h; omega
  · rw [if_neg h]; rw [leapB_iff] at h; omega
theorem jan_mono (y z : Int) (h : y ≤ z) : jan y ≤ jan z := by unfold jan; omega
/-- day n is the day d of the month m of the year y -/
def IsDate (n y m d : Int) : Prop := (1 ≤ m ∧ m ≤ 12) ∧ (1 ≤ d ∧ d ≤ mlen (leapB y) m) ∧ jan y + moff (leapB y) m + d - 1 = n
theorem one_ok (l : Bool) (m : Int) : 1 ≤ (1 : Int) ∧ 1 ≤ mlen l m := by
  unfold mlen; refine ⟨by omega, ?_⟩
  split
  · split <;> omega
  · split <;> omega
theorem moff_end (l : Bool) (m : Int) (h : 1 ≤ m ∧ m ≤ 12) : 0 ≤ moff l m ∧ moff l m + mlen l m ≤ 365 + lp l := by
  unfold moff mlen lp
  cases l <;> simp only [if_true, if_false, Bool.false_eq_true] <;> omega
theorem moff_next (l : Bool) (m k : Int) (h : 1 ≤ m) (h2 : m < k) (h3 : k ≤ 12) : moff l m + mlen l m ≤ moff l k := by
  have hm : m = 1 ∨ m = 2 ∨ m = 3 ∨ m = 4 ∨ m = 5 ∨ m = 6 ∨ m = 7 ∨ m = 8 ∨ m = 9 ∨ m = 10 ∨ m = 11 := by omega
  unfold moff mlen
  cases l <;> simp only [if_true, if_false, Bool.false_eq_true] <;> rcases hm with rfl | rfl | rfl | rfl | rfl | rfl | rfl | rfl | rfl | rfl | rfl <;> simp <;> omega
theorem date_year {n y m d : Int} (h : IsDate n y m d) : jan y ≤ n ∧ n < jan (y + 1) := by
  obtain ⟨hm, hd, hn⟩ := h
  have := moff_end (leapB y) m hm
  rw [jan_succ]
  omega
theorem date_unique {n y m d y' m' d' : Int} (h : IsDate n y m d) (h' : IsDate n y' m' d') : y = y' ∧ m = m' ∧ d = d' := by
  have a := date_year h
  have b := date_year h'
  have hy : y = y' := by
    rcases Int.lt_trichotomy y y' with g | g | g
    · have := jan_mono (y + 1) y' (by omega); omega
    · exact g
    · have := jan_mono (y' + 1) y (by omega); omega
  subst hy
  obtain ⟨hm, hd, hn⟩ := h
  obtain ⟨hm', hd', hn'⟩ := h'
  have hmm : m = m' := by
    rcases Int.lt_trichotomy m m' with g | g | g
    · have := moff_next (leapB y) m m' hm.1 g hm'.2; omega
    · exact g
    · have := moff_next (leapB y) m' m hm'.1 g hm.2; omega
  subst hmm
  exact ⟨rfl, rfl, by omega⟩
/-- the year's place, as from_jd reckons it -/
theorem year_of {n q r1 c r2 u r3 i : Int} (h1 : (n - 1721426) / 146097 = q) (h2 : (n - 1721426) % 146097 = r1) (h3 : r1 / 36524 = c) (h4 : r1 % 36524 = r2) (h5 : r2 / 1461 = u) (h6 : r2 % 1461 = r3) (h7 : r3 / 365 = i) :
    (¬ (c = 4 ∨ i = 4) → jan (q * 400 + c * 100 + u * 4 + i + 1) ≤ n ∧ n < jan (q * 400 + c * 100 + u * 4 + i + 1) + 365) ∧
    ((c = 4 ∨ i = 4) → n = jan (q * 400 + c * 100 + u * 4 + i) + 365 ∧ leapB (q * 400 + c * 100 + u * 4 + i) = true) := by
  have b1 : 0 ≤ r1 ∧ r1 < 146097 := by omega
  have b2 : 0 ≤ r2 ∧ r2 < 36524 := by omega
  have b3 : 0 ≤ r3 ∧ r3 < 1461 := by omega
  have b4 : 0 ≤ c ∧ c ≤ 4 := by omega
  have b5 : 0 ≤ u ∧ u ≤ 24 := by omega
  have b6 : 0 ≤ i ∧ i ≤ 4 := by omega
  constructor
  · intro h
    have b7 : i ≤ 3 := by omega
    have b8 : c ≤ 3 := by omega
    have e1 : (q * 400 + c * 100 + u * 4 + i + 1 - 1) / 4 = 100 * q + 25 * c + u := by omega
    have e2 : (q * 400 + c * 100 + u * 4 + i + 1 - 1) / 100 = 4 * q + c := by omega
    have e3 : (q * 400 + c * 100 + u * 4 + i + 1 - 1) / 400 = q := by omega
    unfold jan
    rw [e1, e2, e3]
    omega
  · intro h
    rw [leapB_iff]
    unfold jan
    rcases h with rfl | rfl
    · have c1 : r2 = 0 := by omega
      subst c1
      have c2 : u = 0 := by omega
      have c3 : r3 = 0 := by omega
      subst c2 c3
      have c4 : i = 0 := by omega
      subst c4
      have e1 : (q * 400 + 4 * 100 + 0 * 4 + 0 - 1) / 4 = 100 * q + 99 := by omega
      have e2 : (q * 400 + 4 * 100 + 0 * 4 + 0 - 1) / 100 = 4 * q + 3 := by omega
      have e3 : (q * 400 + 4 * 100 + 0 * 4 + 0 - 1) / 400 = q := by omega
      rw [e1, e2, e3]
      omega
    · have c1 : r3 = 1460 := by omega
      subst c1
      have c2 : u ≤ 23 := by omega
      have c3 : c ≤ 3 := by omega
      have e1 : (q * 400 + c * 100 + u * 4 + 4 - 1) / 4 = 100 * q + 25 * c + u := by omega
      have e2 : (q * 400 + c * 100 + u * 4 + 4 - 1) / 100 = 4 * q + c := by omega
      have e3 : (q * 400 + c * 100 + u * 4 + 4 - 1) / 400 = q := by omega
      rw [e1, e2, e3]
      omega
/-- the month's place -/
theorem month_of (l : Bool) (yd adj k : Int) (hy : 0 ≤ yd ∧ yd < 365 + lp l) (hadj : adj = if yd < 58 + lp l then 0 else if l then 1 else 2) (hk : ((2 * yd + 2 * adj) * 12 + 2 * 373) / (2 * 367) = k) :
    (1 ≤ k ∧ k ≤ 12) ∧ 1 ≤ yd - moff l k + 1 ∧ yd - moff l k + 1 ≤ mlen l k := by
  unfold lp at *
  cases l
  · simp only [if_false, Bool.false_eq_true] at *
    by_cases h : yd < 58 + 0
    · rw [if_pos h] at hadj
      have hk1 : k = 1 ∨ k = 2 := by omega
      unfold moff mlen
      simp only [if_false, Bool.false_eq_true]
      omega
    · rw [if_neg h] at hadj
      have hk1 : 2 ≤ k ∧ k ≤ 12 := by omega
      refine ⟨by omega, ?_⟩
      have hk2 : k = 2 ∨ k = 3 ∨ k = 4 ∨ k = 5 ∨ k = 6 ∨ k = 7 ∨ k = 8 ∨ k = 9 ∨ k = 10 ∨ k = 11 ∨ k = 12 := by omega
      unfold moff mlen
      simp only [if_false, Bool.false_eq_true]
      rcases hk2 with rfl | rfl | rfl | rfl | rfl | rfl | rfl | rfl | rfl | rfl | rfl <;> simp <;> omega
  · simp only [if_true] at *
    by_cases h : yd < 58 + 1
    · rw [if_pos h] at hadj
      have hk1 : k = 1 ∨ k = 2 := by omega
      unfold moff mlen
      simp only [if_true]
      omega
    · rw [if_neg h] at hadj
      have hk1 : 2 ≤ k ∧ k ≤ 12 := by omega
      refine ⟨by omega, ?_⟩
      have hk2 : k = 2 ∨ k = 3 ∨ k = 4 ∨ k = 5 ∨ k = 6 ∨ k = 7 ∨ k = 8 ∨ k = 9 ∨ k = 10 ∨ k = 11 ∨ k = 12 := by omega
      unfold moff mlen
      simp only [if_true]
      rcases hk2 with rfl | rfl | rfl | rfl | rfl | rfl | rfl | rfl | rfl | rfl | rfl <;> simp <;> omega
end Mine
end
section
open PySem PySem.W PyProof.Rows
namespace Mine
def Hold (P : Prop) : Prop := P
theorem Hold.out {P : Prop} (h : Hold P) : P := h
section
variable {prog : Program} {w : World} {A : Around} {E : Value → Shared → Prop} {s s₁ : Shared} {env : Env} {h₀ : Heap} {x : Str} {body : List Stmt} {Q : Flow → Shared → Prop}
/-- after one turn of a loop over a list -/
def TurnQ (h₀ : Heap) (L : Addr) (s : Shared) (news : List (Addr × Obj)) (P : (Str → Option Value) → Prop) (Q : Flow → Shared → Prop) (f : Flow) (s' : Shared) : Prop :=
  match f with
  | .ret v => Q (.ret v) s'
  | .brk => Q .next s'
  | _ => Mid h₀ L s news P s'
theorem list_rest (Inv : List Value → (Str → Option Value) → Prop) {I : Addr} {lp : Addr × Obj} {news : List (Addr × Obj)} (hlp : lp ∈ news) (off : ∀ p ∈ news, p.1 < I)
    (turn : ∀ v r m, Inv (v :: r) m → ∀ it h tk, it.cls = .type "list_iterator" → Fr h₀ env.locals h (fun y => if y = x then some v else m y) → News h₀ env.locals h ((I, it) :: news) →
      wpAny (model prog w) A (execs body env) (TurnQ h₀ env.locals s ((I, it) :: news) (Inv r) Q) E { s with heap := h, toks := tk })
    (done : ∀ m, Inv [] m → ∀ h tk, Fr h₀ env.locals h m → News h₀ env.locals h news → Q .next { s with heap := h, toks := tk }) :
    ∀ l m, Inv l m → ListRest prog w A E h₀ env x body Q s I lp l m news := by
  intro l
  induction l with
  | nil => intro m hi; exact ListRest.zero (done m hi)
  | cons v r ih =>
    intro m hi
    refine ListRest.succ fun it h tk hc F N => wpAny_mono (turn v r m hi it h tk hc F N) (fun f s' q => ?_) fun _ _ e => e
    have fin : Mid h₀ env.locals s ((I, it) :: news) (Inv r) s' → UnrEnd h₀ env.locals { s with heap := h, toks := tk } I it (fun m' n' => lp ∈ n' ∧ ListRest prog w A E h₀ env x body Q s I lp r m' n') s' := by
      rintro ⟨h', tk', m', rfl, F', N', hi'⟩
      exact ⟨h', tk', m', news, rfl, F', N', fun p hp => Nat.ne_of_lt (off p hp), hlp, ih m' hi'⟩
    cases f with
    | next => exact fin q
    | cont => exact fin q
    | brk => exact q
    | ret v => exact q
theorem list_loop {ax : Addr} {lo : Obj} {vs : List Value} {n : Nat} {m₀ : Str → Option Value} {news : List (Addr × Obj)} (Inv : List Value → (Str → Option Value) → Prop)
    (hh : A.handled = none) (F : Fr h₀ env.locals s.heap m₀) (N : News h₀ env.locals s.heap news) (hm : (ax, lo) ∈ news) (hc : lo.cls = .type "list") (hd : lo.data = .seq vs.toArray n) (h0 : Inv vs m₀)
    (turn : ∀ I v r m, Inv (v :: r) m → ∀ it h tk, it.cls = .type "list_iterator" → Fr h₀ env.locals h (fun y => if y = x then some v else m y) → News h₀ env.locals h ((I, it) :: news) →
      wpAny (model prog w) A (execs body env) (TurnQ h₀ env.locals s ((I, it) :: news) (Inv r) Q) E { s with heap := h, toks := tk })
    (done : ∀ m, Inv [] m → ∀ h tk, Fr h₀ env.locals h m → News h₀ env.locals h news → Q .next { s with heap := h, toks := tk }) :
    wpAny (model prog w) A (pyIter (.ref ax)) (fun it s₂ => LoopAtV prog w A h₀ env x body Q E it s₂) E s :=
  iter_listUnr hh F N hm hc hd fun I off => list_rest Inv hm off (turn I) done vs m₀ h0
end
theorem fr_putc {g h : Heap} {L : Addr} {m m' : Str → Option Value} {x : Str} {v : Value} (F : Fr g L h (fun y => if y = x then some v else m y)) (q : m' = m) : Fr g L h (fun y => if y = x then some v else m' y) := q ▸ F
/-- the lengths of the months from the k-th on -/
def mrest (b : Bool) (k : Int) : Nat → List Int
  | 0 => []
  | f + 1 => mlen b k :: mrest b (k + 1) f
theorem ints_cons {v : Value} {r : List Value} {n : Int} {ns : List Int} (h : IntsAre (v :: r) (n :: ns)) : ∃ t, v = .int n t ∧ IntsAre r ns := by
  cases h with
  | cons n t h => exact ⟨t, rfl, h⟩
theorem ints_nil {v : Value} {r : List Value} (h : IntsAre (v :: r) []) : False := by cases h
/-- between two parts of the law's body -/
def MidL (g : Heap) (L : Addr) (s₁ : Shared) (P : (Str → Option Value) → List (Addr × Obj) → Prop) (s' : Shared) : Prop :=
  ∃ h tk m led, s' = { s₁ with heap := h, toks := tk } ∧ Fr g L h m ∧ News g L h led ∧ P m led
theorem MidL.intro {g : Heap} {L : Addr} {s₁ : Shared} {all : List (Addr × Obj)} {P : (Str → Option Value) → List (Addr × Obj) → Prop} {h : Heap} {tk : Nat} {m : Str → Option Value}
    (F : Fr g L h m) (N : News g L h all) (p : ∃ led, SubL led all ∧ P m led) : MidL g L s₁ P { s₁ with heap := h, toks := tk } :=
  let ⟨_, sub, p⟩ := p; ⟨_, _, _, _, rfl, F, fun q hq => N q (sub.mem q hq), p⟩
theorem ints6 {vs : List Value} {ns : List Int} (h : IntsAre vs ns) (l : ns.length = 6) : ∃ n0 n1 n2 n3 n4 n5 t0 t1 t2 t3 t4 t5, vs = [Value.int n0 t0, Value.int n1 t1, Value.int n2 t2, Value.int n3 t3, Value.int n4 t4, Value.int n5 t5] := by
  match ns, l, h with
  | [_, _, _, _, _, _], _, .cons _ _ (.cons _ _ (.cons _ _ (.cons _ _ (.cons _ _ (.cons _ _ .nil))))) => exact ⟨_, _, _, _, _, _, _, _, _, _, _, _, rfl⟩
theorem six (l : List Int) : (List.take 6 (List.take 6 l ++ [0, 0, 0, 0, 0, 0])).length = 6 := by
  simp only [List.length_take, List.length_append, List.length_cons, List.length_nil]; omega
theorem TurnQ.brk {h₀ : Heap} {L : Addr} {s : Shared} {news : List (Addr × Obj)} {P : (Str → Option Value) → Prop} {Q : Flow → Shared → Prop} {s' : Shared} (h : Q .next s') : TurnQ h₀ L s news P Q .brk s' := h
theorem TurnQ.next {h₀ : Heap} {L : Addr} {s : Shared} {news : List (Addr × Obj)} {P : (Str → Option Value) → Prop} {Q : Flow → Shared → Prop} {s' : Shared} (h : Hold (Mid h₀ L s news P s')) : TurnQ h₀ L s news P Q .next s' := h
theorem con_useL {w : World} {p : Program} {loose : List Str} {mean : ExcName → Option Value} {mg mb : Str → Option Value} {f : Value} {vs : List Value} {dn : Nat} {pre : List (Addr × Obj) → Prop} {Out : Value → List (Addr × Obj) → Prop}
    {cn : Str} {cs : Scope} {a : Addr} {ccd : Value} {A₀ : Around} {base h₀ : Heap} {L : Addr} {m : Str → Option Value} {news : List (Addr × Obj)} {s : Shared} {Q E : Value → Shared → Prop}
    (c : Con w p loose mean mg mb f vs dn pre Out) (B : Below A₀ base [] h₀) (F : Fr h₀ L s.heap m) (X : (hd.heap_39 w.params).In h₀) (N : News h₀ L s.heap news) (T : Top p loose mean mg mb h₀) (hk : cs.kind = .function) (hp : pre news)
    (hd : (callerA.deeper (envOfC cn cs L a ccd)).depth + dn < recursionLimit) (hu : (callerA.deeper (envOfC cn cs L a ccd)).units + 8 * dn < cLine)
    (ret : ∀ r tl h' tk', Fr h₀ L h' m → News h₀ L h' (tl ++ news) → (∀ q ∈ news, ∀ p ∈ tl, q.1 < p.1) → Out r tl → Q r { s with heap := h', toks := tk' }) :
    wpAny (model PySem.Challenge.rw_ad5015_01.row.prog w) (callerA.deeper (envOfC cn cs L a ccd)) (call f vs) Q E s :=
  c (callerA.deeper (envOfC cn cs L a ccd)).depth (callerA.deeper (envOfC cn cs L a ccd)).units (callerA.deeper (envOfC cn cs L a ccd)).guards cn cs a ccd (cellsFrom (L + 1) cs.names []) [] _ _ _ _ _ _ _ _ _ B F X N T hk hp hd hu ret
end Mine
end
section
open PySem PySem.W PyProof.Rows
namespace Mine
local macro_rules | `(tactic| walk_at "no such step 0") => `(tactic| fail)
local macro_rules | `(tactic| walk_at "no such step 1") => `(tactic| fail)
local macro_rules | `(tactic| walk_at "no such step 2") => `(tactic| fail)
local macro_rules | `(tactic| walk_at "no such step 3") => `(tactic| fail)
local macro_rules | `(tactic| walk_at "no such step 4") => `(tactic| fail)
local macro_rules | `(tactic| walk_at "no such step 5") => `(tactic| fail)
local macro_rules | `(tactic| walk_at "no such step 6") => `(tactic| fail)
local macro_rules | `(tactic| walk_at "no such step 7") => `(tactic| fail)
local macro_rules | `(tactic| walk_at "no such step 8") => `(tactic| fail)
local macro_rules | `(tactic| walk_at "no such step 9") => `(tactic| fail)
local macro_rules | `(tactic| walk_at "no such step 10") => `(tactic| fail)
local macro_rules | `(tactic| walk_at "no such step 11") => `(tactic| fail)
local macro_rules | `(tactic| walk_at "no such step 12") => `(tactic| fail)
local macro_rules | `(tactic| walk_at "no such step 13") => `(tactic| fail)
local macro_rules | `(tactic| walk_at "no such step 14") => `(tactic| fail)
local macro_rules | `(tactic| walk_at "no such step 15") => `(tactic| fail)
local macro_rules | `(tactic| walk_at "no such step 16") => `(tactic| fail)
local macro_rules | `(tactic| walk_at "no such step 17") => `(tactic| fail)
local macro_rules | `(tactic| walk_at "no such step 18") => `(tactic| fail)
local macro_rules | `(tactic| walk_at "no such step 19") => `(tactic| fail)
local macro_rules | `(tactic| walk_at "no such step 20") => `(tactic| fail)
local macro_rules | `(tactic| walk_at "no such step 21") => `(tactic| fail)
local macro_rules | `(tactic| walk_at "no such step 22") => `(tactic| fail)
local macro_rules | `(tactic| walk_at "no such step 23") => `(tactic| fail)
local macro_rules | `(tactic| walk_at "no such step 24") => `(tactic| fail)
local macro_rules | `(tactic| walk_at "no such step 25") => `(tactic| fail)
local macro_rules | `(tactic| walk_at "no such step 26") => `(tactic| fail)
local macro_rules | `(tactic| walk_at "no such step 27") => `(tactic| fail)
local macro_rules | `(tactic| walk_at "no such step 28") => `(tactic| fail)
local macro_rules | `(tactic| walk_at "no such step 29") => `(tactic| fail)
local macro_rules | `(tactic| walk_at "no such step 30") => `(tactic| fail)
local macro_rules | `(tactic| walk_at "no such step 31") => `(tactic| fail)
local macro_rules | `(tactic| walk_at "no such step 32") => `(tactic| fail)
local macro_rules | `(tactic| walk_at "no such step 33") => `(tactic| fail)
local macro_rules | `(tactic| walk_at "no such step 34") => `(tactic| fail)
local macro_rules | `(tactic| walk_at "no such step 35") => `(tactic| fail)
local macro_rules | `(tactic| walk_at "no such step 36") => `(tactic| fail)
local macro_rules | `(tactic| walk_at "no such step 37") => `(tactic| fail)
local macro_rules | `(tactic| walk_at "no such step 38") => `(tactic| fail)
local macro_rules | `(tactic| walk_at "no such step 39") => `(tactic| fail)
local macro_rules | `(tactic| walk_at "binaryOp Sub float float") => `(tactic| (k_here; (with_reducible show wpAny _ _ (binaryOp _ (Value.float _ _) (Value.float _ _)) _ _ _); ((with_reducible refine' r_sub_ff ?hx ?hy ?ha ?hb ?e ?_); (case hx => (with_reducible (first | exact rfl | exact half_c | exact epg_c | exact epp_c))); (case hy => (with_reducible (first | exact rfl | exact half_c | exact epg_c | exact epp_c))); (case ha => k_dflt (first | with_reducible assumption | decide | omega)); (case hb => k_dflt (first | with_reducible assumption | decide | omega)); (case e => (first | with_reducible assumption | (k_dflt (exact rfl)))); k_whole)))
local macro_rules | `(tactic| walk_at "binaryOp Add float int") => `(tactic| (k_here; (with_reducible show wpAny _ _ (binaryOp _ (Value.float _ _) (Value.int _ _)) _ _ _); first | ((with_reducible refine' r_add_fi ?hx ?ha ?hn ?e ?_); (case hx => (with_reducible (first | exact rfl | exact half_c | exact epg_c | exact epp_c))); (case ha => k_dflt (first | with_reducible assumption | decide | omega)); (case hn => k_dflt (first | with_reducible assumption | decide | omega)); (case e => (first | with_reducible assumption | (k_dflt (exact rfl)))); k_whole) | ((with_reducible refine' r_add_xi ?hn ?_); (case hn => k_dflt (first | with_reducible assumption | decide | omega)); k_whole)))
local macro_rules | `(tactic| walk_at "binaryOp Sub float int") => `(tactic| (k_here; (with_reducible show wpAny _ _ (binaryOp _ (Value.float _ _) (Value.int _ _)) _ _ _); ((with_reducible refine' r_sub_fi ?hx ?ha ?hn ?e ?_); (case hx => (with_reducible (first | exact rfl | exact half_c | exact epg_c | exact epp_c))); (case ha => k_dflt (first | with_reducible assumption | decide | omega)); (case hn => k_dflt (first | with_reducible assumption | decide | omega)); (case e => (first | with_reducible assumption | (k_dflt (exact rfl)))); k_whole)))
local macro_rules | `(tactic| walk_at "binaryOp Add int float") => `(tactic| (k_here; (with_reducible show wpAny _ _ (binaryOp _ (Value.int _ _) (Value.float _ _)) _ _ _); ((with_reducible refine' r_add_if ?hx ?ha ?hn ?e ?_); (case hx => (with_reducible (first | exact rfl | exact half_c | exact epg_c | exact epp_c))); (case ha => k_dflt (first | with_reducible assumption | decide | omega)); (case hn => k_dflt (first | with_reducible assumption | decide | omega)); (case e => (first | with_reducible assumption | (k_dflt (exact rfl)))); k_whole)))
local macro_rules | `(tactic| walk_at "binaryOp Sub int float") => `(tactic| (k_here; (with_reducible show wpAny _ _ (binaryOp _ (Value.int _ _) (Value.float _ _)) _ _ _); ((with_reducible refine' r_sub_if ?hx ?ha ?hn ?e ?_); (case hx => (with_reducible (first | exact rfl | exact half_c | exact epg_c | exact epp_c))); (case ha => k_dflt (first | with_reducible assumption | decide | omega)); (case hn => k_dflt (first | with_reducible assumption | decide | omega)); (case e => (first | with_reducible assumption | (k_dflt (exact rfl)))); k_whole)))
local macro_rules | `(tactic| walk_at "binaryOp Mult float int") => `(tactic| (k_here; (with_reducible show wpAny _ _ (binaryOp _ (Value.float _ _) (Value.int _ _)) _ _ _); ((with_reducible refine' r_mul_fi ?hx ?ha ?hn ?hm ?e ?_); (case hx => (with_reducible (first | exact rfl | exact half_c | exact epg_c | exact epp_c))); (case ha => k_dflt (first | with_reducible assumption | decide | omega)); (case hn => k_dflt (first | with_reducible assumption | decide | omega)); (case hm => k_dflt (first | with_reducible assumption | decide | omega)); (case e => (first | with_reducible assumption | (k_dflt (exact rfl)))); k_whole)))
local macro_rules | `(tactic| walk_at "binaryOp Div float int") => `(tactic| (k_here; (with_reducible show wpAny _ _ (binaryOp _ (Value.float _ _) (Value.int _ _)) _ _ _); ((with_reducible refine' r_div_fi ?hn ?hm ?_); (case hn => k_dflt (first | with_reducible assumption | decide | omega)); (case hm => k_dflt (first | with_reducible assumption | decide | omega)); k_whole)))
local macro_rules | `(tactic| walk_at "binaryOp Mod float int") => `(tactic| (k_here; (with_reducible show wpAny _ _ (binaryOp _ (Value.float _ _) (Value.int _ _)) _ _ _); ((with_reducible refine' r_mod_fi ?hx ?ha ?he ?hn ?hm ?e ?_); (case hx => (with_reducible (first | exact rfl | exact half_c | exact epg_c | exact epp_c))); (case ha => k_dflt (first | with_reducible assumption | decide | omega)); (case he => k_dflt (first | with_reducible assumption | decide | omega)); (case hn => k_dflt (first | with_reducible assumption | decide | omega)); (case hm => k_dflt (first | with_reducible assumption | decide | omega)); (case e => (first | with_reducible assumption | (k_dflt (exact rfl)))); k_whole)))
local macro_rules | `(tactic| walk_at "binaryOp Div int int") => `(tactic| (k_here; (with_reducible show wpAny _ _ (binaryOp _ (Value.int _ _) (Value.int _ _)) _ _ _); ((with_reducible refine' r_div_ii ?hA ?ha ?hn ?hm ?_); (case hA => k_dflt (exact rfl)); (case ha => k_dflt (first | with_reducible assumption | decide | omega)); (case hn => k_dflt (first | with_reducible assumption | decide | omega)); (case hm => k_dflt (first | with_reducible assumption | decide | omega)); k_whole)))
local macro_rules | `(tactic| walk_at "call builtin:math.floor") => `(tactic| (k_here; (with_reducible show wpAny _ _ (call (Value.builtin "math.floor") [Value.float _ _]) _ _ _); first | ((with_reducible refine' r_floor_x ?hA ?hx ?e ?_); (case hA => k_dflt (exact rfl)); (case hx => with_reducible assumption); (case e => with_reducible assumption); k_whole) | ((with_reducible refine' r_floor_m ?hA ?hm ?hadj ?hd ?e ?_); (case hA => k_dflt (exact rfl)); (case hm => k_dflt (first | with_reducible assumption | decide | omega)); (case hadj => k_dflt omega); (case hd => k_dflt omega); (case e => (first | with_reducible assumption | (k_dflt (exact rfl)))); k_whole) | ((with_reducible refine' r_floor_q ?hA ?ha ?hn ?hm ?e ?_); (case hA => k_dflt (exact rfl)); (case ha => k_dflt (first | with_reducible assumption | decide | omega)); (case hn => k_dflt (first | with_reducible assumption | decide | omega)); (case hm => k_dflt (first | with_reducible assumption | decide | omega)); (case e => (first | with_reducible assumption | (k_dflt (exact rfl)))); k_whole) | ((with_reducible refine' r_floor_d ?hA ?hx ?ha ?hn ?hm ?e ?_); (case hA => k_dflt (exact rfl)); (case hx => with_reducible exact rfl); (case ha => k_dflt (first | with_reducible assumption | decide | omega)); (case hn => k_dflt (first | with_reducible assumption | decide | omega)); (case hm => k_dflt (first | with_reducible assumption | decide | omega)); (case e => (first | with_reducible assumption | (k_dflt (exact rfl)))); k_whole) | ((with_reducible refine' r_floor_h ?hA ?hx ?ha ?e ?_); (case hA => k_dflt (exact rfl)); (case hx => with_reducible exact rfl); (case ha => k_dflt (first | with_reducible assumption | decide | omega)); (case e => (first | with_reducible assumption | (k_dflt (exact rfl)))); k_whole)))
local macro_rules | `(tactic| walk_at "call builtin:math.ceil") => `(tactic| (k_here; (with_reducible show wpAny _ _ (call (Value.builtin "math.ceil") [Value.float _ _]) _ _ _); ((with_reducible refine' r_ceil_d ?hA ?hx ?ha ?hn ?hm ?e ?_); (case hA => k_dflt (exact rfl)); (case hx => with_reducible exact rfl); (case ha => k_dflt (first | with_reducible assumption | decide | omega)); (case hn => k_dflt (first | with_reducible assumption | decide | omega)); (case hm => k_dflt (first | with_reducible assumption | decide | omega)); (case e => (first | with_reducible assumption | (k_dflt (exact rfl)))); k_whole)))
local macro_rules | `(tactic| walk_at "call builtin:math.trunc") => `(tactic| (k_here; (with_reducible show wpAny _ _ (call (Value.builtin "math.trunc") [Value.float _ _]) _ _ _); ((with_reducible refine' r_trunc_h ?hA ?hx ?ha ?he ?e ?_); (case hA => k_dflt (exact rfl)); (case hx => with_reducible exact rfl); (case ha => k_dflt (first | with_reducible assumption | decide | omega)); (case he => k_dflt (first | with_reducible assumption | decide | omega)); (case e => (first | with_reducible assumption | (k_dflt (exact rfl)))); k_whole)))
local macro_rules | `(tactic| walk_at "call type:int") => `(tactic| (k_here; (with_reducible show wpAny _ _ (call (Value.type "int") [Value.float _ _]) _ _ _); ((with_reducible refine' r_int_h ?hA ?hx ?ha ?he ?e ?_); (case hA => k_dflt (exact rfl)); (case hx => with_reducible exact rfl); (case ha => k_dflt (first | with_reducible assumption | decide | omega)); (case he => k_dflt (first | with_reducible assumption | decide | omega)); (case e => (first | with_reducible assumption | (k_dflt (exact rfl)))); k_whole)))
local macro_rules | `(tactic| walk_at "compareOp Lt float int") => `(tactic| (k_here; (with_reducible show wpAny _ _ (compareOp _ (Value.float _ _) (Value.int _ _)) _ _ _); first | ((with_reducible refine' r_lt_fi ?hx ?ha ?e ?_); (case hx => with_reducible exact rfl); (case ha => k_dflt (first | with_reducible assumption | decide | omega)); (case e => (first | with_reducible assumption | (k_dflt (exact rfl)))); k_whole) | ((with_reducible refine' r_lt_xi ?hx ?e ?_); (case hx => assumption); (case e => (first | with_reducible assumption | (k_dflt (exact rfl)))); k_whole)))
local macro_rules | `(tactic| walk_at "compareOp LtE float int") => `(tactic| (k_here; (with_reducible show wpAny _ _ (compareOp _ (Value.float _ _) (Value.int _ _)) _ _ _); ((with_reducible refine' r_le_fi ?hx ?ha ?e ?_); (case hx => with_reducible exact rfl); (case ha => k_dflt (first | with_reducible assumption | decide | omega)); (case e => (first | with_reducible assumption | (k_dflt (exact rfl)))); k_whole)))
local macro_rules | `(tactic| walk_at "compareOp Gt float int") => `(tactic| (k_here; (with_reducible show wpAny _ _ (compareOp _ (Value.float _ _) (Value.int _ _)) _ _ _); ((with_reducible refine' r_gt_fi ?hx ?ha ?e ?_); (case hx => with_reducible exact rfl); (case ha => k_dflt (first | with_reducible assumption | decide | omega)); (case e => (first | with_reducible assumption | (k_dflt (exact rfl)))); k_whole)))
local macro_rules | `(tactic| walk_at "compareOp Gt int float") => `(tactic| (k_here; (with_reducible show wpAny _ _ (compareOp _ (Value.int _ _) (Value.float _ _)) _ _ _); ((with_reducible refine' r_gt_ix ?hx ?e ?_); (case hx => assumption); (case e => (first | with_reducible assumption | (k_dflt (exact rfl)))); k_whole)))
local macro_rules | `(tactic| walk_at "compareOp LtE int float") => `(tactic| (k_here; (with_reducible show wpAny _ _ (compareOp _ (Value.int _ _) (Value.float _ _)) _ _ _); ((with_reducible refine' r_le_ix ?hx ?e ?_); (case hx => assumption); (case e => (first | with_reducible assumption | (k_dflt (exact rfl)))); k_whole)))
local macro_rules | `(tactic| walk_at "compareOp NotEq float float") => `(tactic| (k_here; (with_reducible show wpAny _ _ (compareOp _ (Value.float _ _) (Value.float _ _)) _ _ _); ((with_reducible refine' r_ne_ff ?hx ?hy ?ha ?hb ?_); (case hx => with_reducible exact rfl); (case hy => with_reducible exact rfl); (case ha => k_dflt (first | with_reducible assumption | decide | omega)); (case hb => k_dflt (first | with_reducible assumption | decide | omega)); k_whole)))
local macro_rules | `(tactic| walk_at "compareOp In int ref") => `(tactic| (k_here; (with_reducible show wpAny _ _ (compareOp _ (Value.int _ _) (Value.ref _)) _ _ _); ((with_reducible refine' in_tupK ?F ?X ?l ?i ?b ?_); (case F => k_asm); (case X => k_asm); (case l => k_is); (case i => (repeat constructor)); (case b => assumption); k_whole)))
local macro_rules | `(tactic| walk_at "compareOp Eq int int") => `(tactic| (k_here; with_reducible (first | refine r_eq_y (by assumption) ?_ | refine r_eq_n (by assumption) ?_)))
local macro_rules | `(tactic| walk_at "compareOp NotEq int int") => `(tactic| (k_here; with_reducible (first | refine r_ne_y (by assumption) ?_ | refine r_ne_n (by assumption) ?_)))
local macro_rules | `(tactic| walk_at "compareOp Lt int int") => `(tactic| (k_here; with_reducible (first | refine r_lt_y (by assumption) ?_ | refine r_lt_n (by assumption) ?_)))
local macro_rules | `(tactic| walk_at "compareOp LtE int int") => `(tactic| (k_here; with_reducible (first | refine r_le_y (by assumption) ?_ | refine r_le_n (by assumption) ?_)))
local macro_rules | `(tactic| walk_at "compareOp Gt int int") => `(tactic| (k_here; with_reducible (first | refine r_gt_y (by assumption) ?_ | refine r_gt_n (by assumption) ?_)))
local macro_rules | `(tactic| walk_at "binaryOp Add int bool") => `(tactic| (k_here; with_reducible (refine r_add_ib (by assumption) ?_)))
local macro_rules | `(tactic| walk_at "binaryOp Mult int int") => `(tactic| (k_here; first | (refine r_mul_r (by decide) ?_) | (refine r_mul_l (by decide) ?_) | (refine r_mul_r (by assumption) ?_) | (refine r_mul_l (by assumption) ?_)))
local macro_rules | `(tactic| walk_at "callWith ref") => `(tactic| (k_here; k_dflt (refine' callWith_F ?k1 ?_; (case k1 => exact FnAt.of (by k_asm) (by (first | assumption | exact List.mem_cons_of_mem _ (by assumption) | exact List.mem_cons_of_mem _ (List.mem_cons_of_mem _ (by assumption)) | exact List.mem_cons_of_mem _ (List.mem_cons_of_mem _ (List.mem_cons_of_mem _ (by assumption)))))); k_whole)))
local macro_rules | `(tactic| walk_at "FnAt") => `(tactic| (k_dflt (exact FnAt.of (by k_asm) (by (first | assumption | exact List.mem_cons_of_mem _ (by assumption) | exact List.mem_cons_of_mem _ (List.mem_cons_of_mem _ (by assumption)) | exact List.mem_cons_of_mem _ (List.mem_cons_of_mem _ (List.mem_cons_of_mem _ (by assumption))))))))
local macro_rules | `(tactic| walk_at "call ref") => `(tactic| (k_here; with_reducible refine nil_app ?_))
local macro_rules | `(tactic| walk_at "binaryOp Div float float") => `(tactic| (k_here; with_reducible (refine r_div_TY rfl ?_)))
local macro_rules | `(tactic| walk_at "call builtin:round") => `(tactic| (k_here; (with_reducible show wpAny _ _ (call (Value.builtin "round") [Value.float _ _]) _ _ _); ((with_reducible refine' r_round_TY ?hA ?hx ?hy ?ha ?hn ?h1 ?h2 ?_); (case hA => k_dflt (exact rfl)); (case hx => with_reducible exact rfl); (case hy => exact TY_c); (case h1 => with_reducible assumption); (case h2 => with_reducible assumption); (case ha => k_dflt (first | with_reducible assumption | omega)); (case hn => k_dflt (first | with_reducible assumption | omega)); k_whole)))
theorem leapB_f (y : Int) : leapB y = (y.fmod 4 == 0 && (y.fmod 100 != 0 || y.fmod 400 == 0)) := by
  unfold leapB
  rw [Int.fmod_eq_emod_of_nonneg _ (by decide), Int.fmod_eq_emod_of_nonneg _ (by decide), Int.fmod_eq_emod_of_nonneg _ (by decide), Bool.eq_iff_iff]
  simp
set_option maxRecDepth 100000 in
set_option maxHeartbeats 3000000 in
theorem c_isleap {w : World} {p : Program} {loose : List Str} {mean : ExcName → Option Value} {mg mb : Str → Option Value} (y : Int) (t : Tok) {b : Bool} (hb : leapB y = b) :
    Con w p loose mean mg mb (.ref 62) [.int y t] 1 (fun _ => True) (fun r tl => tl = [] ∧ r = .bool b) := by
  subst hb
  unfold Con
  k_fill
  intro dp un gd cn cs a ccd cl outer A₀ base h₀ L m news s Q E Bq Fq Xq Nq Tq hk hpre hd hu hret
  w_on
  w_top on
  refine wpAny_call ?_
  k_dflt cell_enter
  rename_i g1 L1 h1 FG F1 N1 BB X1 T1
  w_strict k_steps
  all_goals (refine hret _ [] _ _ (by assumption) (news_nil (by assumption)) ord_nil ⟨rfl, ?_⟩)
  all_goals (rw [leapB_f]; simp [*])
local macro_rules | `(tactic| walk_at "call ref") => `(tactic| (k_here; (with_reducible show wpAny _ _ (call (Value.ref 62) [Value.int _ _]) _ _ _); (refine' con_use (c_isleap _ _ (by first | with_reducible assumption | exact rfl)) ?k1 ?k2 ?k3 ?k4 ?k5 ?kK ?kp ?kd ?ku ?_; (case k1 => k_asm); (case k2 => k_asm); (case k3 => k_asm); (case k4 => k_asm); (case k5 => k_asm); (case kK => first | exact rfl | assumption); (case kp => trivial); (case kd => ktr_room); (case ku => ktr_units)); intro r9 tl9 h9 tk9 F9 N9 l9 ho9; obtain ⟨e9, ho9⟩ := ho9; subst e9; subst ho9; clear l9; (dsimp only [List.nil_append] at N9); (try dsimp only); (try k_fold)))
end Mine
end
section
open PySem PySem.W PyProof.Rows
namespace Mine
local macro_rules | `(tactic| walk_at "binaryOp Sub float float") => `(tactic| (k_here; (with_reducible show wpAny _ _ (binaryOp _ (Value.float _ _) (Value.float _ _)) _ _ _); ((with_reducible refine' r_sub_ff ?hx ?hy ?ha ?hb ?e ?_); (case hx => (with_reducible (first | exact rfl | exact half_c | exact epg_c | exact epp_c))); (case hy => (with_reducible (first | exact rfl | exact half_c | exact epg_c | exact epp_c))); (case ha => k_dflt (first | with_reducible assumption | decide | omega)); (case hb => k_dflt (first | with_reducible assumption | decide | omega)); (case e => (first | with_reducible assumption | (k_dflt (exact rfl)))); k_whole)))
local macro_rules | `(tactic| walk_at "binaryOp Add float int") => `(tactic| (k_here; (with_reducible show wpAny _ _ (binaryOp _ (Value.float _ _) (Value.int _ _)) _ _ _); first | ((with_reducible refine' r_add_fi ?hx ?ha ?hn ?e ?_); (case hx => (with_reducible (first | exact rfl | exact half_c | exact epg_c | exact epp_c))); (case ha => k_dflt (first | with_reducible assumption | decide | omega)); (case hn => k_dflt (first | with_reducible assumption | decide | omega)); (case e => (first | with_reducible assumption | (k_dflt (exact rfl)))); k_whole) | ((with_reducible refine' r_add_xi ?hn ?_); (case hn => k_dflt (first | with_reducible assumption | decide | omega)); k_whole)))
local macro_rules | `(tactic| walk_at "binaryOp Sub float int") => `(tactic| (k_here; (with_reducible show wpAny _ _ (binaryOp _ (Value.float _ _) (Value.int _ _)) _ _ _); ((with_reducible refine' r_sub_fi ?hx ?ha ?hn ?e ?_); (case hx => (with_reducible (first | exact rfl | exact half_c | exact epg_c | exact epp_c))); (case ha => k_dflt (first | with_reducible assumption | decide | omega)); (case hn => k_dflt (first | with_reducible assumption | decide | omega)); (case e => (first | with_reducible assumption | (k_dflt (exact rfl)))); k_whole)))
local macro_rules | `(tactic| walk_at "binaryOp Add int float") => `(tactic| (k_here; (with_reducible show wpAny _ _ (binaryOp _ (Value.int _ _) (Value.float _ _)) _ _ _); ((with_reducible refine' r_add_if ?hx ?ha ?hn ?e ?_); (case hx => (with_reducible (first | exact rfl | exact half_c | exact epg_c | exact epp_c))); (case ha => k_dflt (first | with_reducible assumption | decide | omega)); (case hn => k_dflt (first | with_reducible assumption | decide | omega)); (case e => (first | with_reducible assumption | (k_dflt (exact rfl)))); k_whole)))
local macro_rules | `(tactic| walk_at "binaryOp Sub int float") => `(tactic| (k_here; (with_reducible show wpAny _ _ (binaryOp _ (Value.int _ _) (Value.float _ _)) _ _ _); ((with_reducible refine' r_sub_if ?hx ?ha ?hn ?e ?_); (case hx => (with_reducible (first | exact rfl | exact half_c | exact epg_c | exact epp_c))); (case ha => k_dflt (first | with_reducible assumption | decide | omega)); (case hn => k_dflt (first | with_reducible assumption | decide | omega)); (case e => (first | with_reducible assumption | (k_dflt (exact rfl)))); k_whole)))
local macro_rules | `(tactic| walk_at "binaryOp Mult float int") => `(tactic| (k_here; (with_reducible show wpAny _ _ (binaryOp _ (Value.float _ _) (Value.int _ _)) _ _ _); ((with_reducible refine' r_mul_fi ?hx ?ha ?hn ?hm ?e ?_); (case hx => (with_reducible (first | exact rfl | exact half_c | exact epg_c | exact epp_c))); (case ha => k_dflt (first | with_reducible assumption | decide | omega)); (case hn => k_dflt (first | with_reducible assumption | decide | omega)); (case hm => k_dflt (first | with_reducible assumption | decide | omega)); (case e => (first | with_reducible assumption | (k_dflt (exact rfl)))); k_whole)))
local macro_rules | `(tactic| walk_at "binaryOp Div float int") => `(tactic| (k_here; (with_reducible show wpAny _ _ (binaryOp _ (Value.float _ _) (Value.int _ _)) _ _ _); ((with_reducible refine' r_div_fi ?hn ?hm ?_); (case hn => k_dflt (first | with_reducible assumption | decide | omega)); (case hm => k_dflt (first | with_reducible assumption | decide | omega)); k_whole)))
local macro_rules | `(tactic| walk_at "binaryOp Mod float int") => `(tactic| (k_here; (with_reducible show wpAny _ _ (binaryOp _ (Value.float _ _) (Value.int _ _)) _ _ _); ((with_reducible refine' r_mod_fi ?hx ?ha ?he ?hn ?hm ?e ?_); (case hx => (with_reducible (first | exact rfl | exact half_c | exact epg_c | exact epp_c))); (case ha => k_dflt (first | with_reducible assumption | decide | omega)); (case he => k_dflt (first | with_reducible assumption | decide | omega)); (case hn => k_dflt (first | with_reducible assumption | decide | omega)); (case hm => k_dflt (first | with_reducible assumption | decide | omega)); (case e => (first | with_reducible assumption | (k_dflt (exact rfl)))); k_whole)))
local macro_rules | `(tactic| walk_at "binaryOp Div int int") => `(tactic| (k_here; (with_reducible show wpAny _ _ (binaryOp _ (Value.int _ _) (Value.int _ _)) _ _ _); ((with_reducible refine' r_div_ii ?hA ?ha ?hn ?hm ?_); (case hA => k_dflt (exact rfl)); (case ha => k_dflt (first | with_reducible assumption | decide | omega)); (case hn => k_dflt (first | with_reducible assumption | decide | omega)); (case hm => k_dflt (first | with_reducible assumption | decide | omega)); k_whole)))
local macro_rules | `(tactic| walk_at "call builtin:math.floor") => `(tactic| (k_here; (with_reducible show wpAny _ _ (call (Value.builtin "math.floor") [Value.float _ _]) _ _ _); first | ((with_reducible refine' r_floor_x ?hA ?hx ?e ?_); (case hA => k_dflt (exact rfl)); (case hx => with_reducible assumption); (case e => with_reducible assumption); k_whole) | ((with_reducible refine' r_floor_m ?hA ?hm ?hadj ?hd ?e ?_); (case hA => k_dflt (exact rfl)); (case hm => k_dflt (first | with_reducible assumption | decide | omega)); (case hadj => k_dflt omega); (case hd => k_dflt omega); (case e => (first | with_reducible assumption | (k_dflt (exact rfl)))); k_whole) | ((with_reducible refine' r_floor_q ?hA ?ha ?hn ?hm ?e ?_); (case hA => k_dflt (exact rfl)); (case ha => k_dflt (first | with_reducible assumption | decide | omega)); (case hn => k_dflt (first | with_reducible assumption | decide | omega)); (case hm => k_dflt (first | with_reducible assumption | decide | omega)); (case e => (first | with_reducible assumption | (k_dflt (exact rfl)))); k_whole) | ((with_reducible refine' r_floor_d ?hA ?hx ?ha ?hn ?hm ?e ?_); (case hA => k_dflt (exact rfl)); (case hx => with_reducible exact rfl); (case ha => k_dflt (first | with_reducible assumption | decide | omega)); (case hn => k_dflt (first | with_reducible assumption | decide | omega)); (case hm => k_dflt (first | with_reducible assumption | decide | omega)); (case e => (first | with_reducible assumption | (k_dflt (exact rfl)))); k_whole) | ((with_reducible refine' r_floor_h ?hA ?hx ?ha ?e ?_); (case hA => k_dflt (exact rfl)); (case hx => with_reducible exact rfl); (case ha => k_dflt (first | with_reducible assumption | decide | omega)); (case e => (first | with_reducible assumption | (k_dflt (exact rfl)))); k_whole)))
local macro_rules | `(tactic| walk_at "call builtin:math.ceil") => `(tactic| (k_here; (with_reducible show wpAny _ _ (call (Value.builtin "math.ceil") [Value.float _ _]) _ _ _); ((with_reducible refine' r_ceil_d ?hA ?hx ?ha ?hn ?hm ?e ?_); (case hA => k_dflt (exact rfl)); (case hx => with_reducible exact rfl); (case ha => k_dflt (first | with_reducible assumption | decide | omega)); (case hn => k_dflt (first | with_reducible assumption | decide | omega)); (case hm => k_dflt (first | with_reducible assumption | decide | omega)); (case e => (first | with_reducible assumption | (k_dflt (exact rfl)))); k_whole)))
local macro_rules | `(tactic| walk_at "call builtin:math.trunc") => `(tactic| (k_here; (with_reducible show wpAny _ _ (call (Value.builtin "math.trunc") [Value.float _ _]) _ _ _); ((with_reducible refine' r_trunc_h ?hA ?hx ?ha ?he ?e ?_); (case hA => k_dflt (exact rfl)); (case hx => with_reducible exact rfl); (case ha => k_dflt (first | with_reducible assumption | decide | omega)); (case he => k_dflt (first | with_reducible assumption | decide | omega)); (case e => (first | with_reducible assumption | (k_dflt (exact rfl)))); k_whole)))
local macro_rules | `(tactic| walk_at "call type:int") => `(tactic| (k_here; (with_reducible show wpAny _ _ (call (Value.type "int") [Value.float _ _]) _ _ _); ((with_reducible refine' r_int_h ?hA ?hx ?ha ?he ?e ?_); (case hA => k_dflt (exact rfl)); (case hx => with_reducible exact rfl); (case ha => k_dflt (first | with_reducible assumption | decide | omega)); (case he => k_dflt (first | with_reducible assumption | decide | omega)); (case e => (first | with_reducible assumption | (k_dflt (exact rfl)))); k_whole)))
local macro_rules | `(tactic| walk_at "compareOp Lt float int") => `(tactic| (k_here; (with_reducible show wpAny _ _ (compareOp _ (Value.float _ _) (Value.int _ _)) _ _ _); first | ((with_reducible refine' r_lt_fi ?hx ?ha ?e ?_); (case hx => with_reducible exact rfl); (case ha => k_dflt (first | with_reducible assumption | decide | omega)); (case e => (first | with_reducible assumption | (k_dflt (exact rfl)))); k_whole) | ((with_reducible refine' r_lt_xi ?hx ?e ?_); (case hx => assumption); (case e => (first | with_reducible assumption | (k_dflt (exact rfl)))); k_whole)))
local macro_rules | `(tactic| walk_at "compareOp LtE float int") => `(tactic| (k_here; (with_reducible show wpAny _ _ (compareOp _ (Value.float _ _) (Value.int _ _)) _ _ _); ((with_reducible refine' r_le_fi ?hx ?ha ?e ?_); (case hx => with_reducible exact rfl); (case ha => k_dflt (first | with_reducible assumption | decide | omega)); (case e => (first | with_reducible assumption | (k_dflt (exact rfl)))); k_whole)))
local macro_rules | `(tactic| walk_at "compareOp Gt float int") => `(tactic| (k_here; (with_reducible show wpAny _ _ (compareOp _ (Value.float _ _) (Value.int _ _)) _ _ _); ((with_reducible refine' r_gt_fi ?hx ?ha ?e ?_); (case hx => with_reducible exact rfl); (case ha => k_dflt (first | with_reducible assumption | decide | omega)); (case e => (first | with_reducible assumption | (k_dflt (exact rfl)))); k_whole)))
local macro_rules | `(tactic| walk_at "compareOp Gt int float") => `(tactic| (k_here; (with_reducible show wpAny _ _ (compareOp _ (Value.int _ _) (Value.float _ _)) _ _ _); ((with_reducible refine' r_gt_ix ?hx ?e ?_); (case hx => assumption); (case e => (first | with_reducible assumption | (k_dflt (exact rfl)))); k_whole)))
local macro_rules | `(tactic| walk_at "compareOp LtE int float") => `(tactic| (k_here; (with_reducible show wpAny _ _ (compareOp _ (Value.int _ _) (Value.float _ _)) _ _ _); ((with_reducible refine' r_le_ix ?hx ?e ?_); (case hx => assumption); (case e => (first | with_reducible assumption | (k_dflt (exact rfl)))); k_whole)))
local macro_rules | `(tactic| walk_at "compareOp NotEq float float") => `(tactic| (k_here; (with_reducible show wpAny _ _ (compareOp _ (Value.float _ _) (Value.float _ _)) _ _ _); ((with_reducible refine' r_ne_ff ?hx ?hy ?ha ?hb ?_); (case hx => with_reducible exact rfl); (case hy => with_reducible exact rfl); (case ha => k_dflt (first | with_reducible assumption | decide | omega)); (case hb => k_dflt (first | with_reducible assumption | decide | omega)); k_whole)))
local macro_rules | `(tactic| walk_at "compareOp In int ref") => `(tactic| (k_here; (with_reducible show wpAny _ _ (compareOp _ (Value.int _ _) (Value.ref _)) _ _ _); ((with_reducible refine' in_tupK ?F ?X ?l ?i ?b ?_); (case F => k_asm); (case X => k_asm); (case l => k_is); (case i => (repeat constructor)); (case b => assumption); k_whole)))
local macro_rules | `(tactic| walk_at "compareOp Eq int int") => `(tactic| (k_here; with_reducible (first | refine r_eq_y (by assumption) ?_ | refine r_eq_n (by assumption) ?_)))
local macro_rules | `(tactic| walk_at "compareOp NotEq int int") => `(tactic| (k_here; with_reducible (first | refine r_ne_y (by assumption) ?_ | refine r_ne_n (by assumption) ?_)))
local macro_rules | `(tactic| walk_at "compareOp Lt int int") => `(tactic| (k_here; with_reducible (first | refine r_lt_y (by assumption) ?_ | refine r_lt_n (by assumption) ?_)))
local macro_rules | `(tactic| walk_at "compareOp LtE int int") => `(tactic| (k_here; with_reducible (first | refine r_le_y (by assumption) ?_ | refine r_le_n (by assumption) ?_)))
local macro_rules | `(tactic| walk_at "compareOp Gt int int") => `(tactic| (k_here; with_reducible (first | refine r_gt_y (by assumption) ?_ | refine r_gt_n (by assumption) ?_)))
local macro_rules | `(tactic| walk_at "binaryOp Add int bool") => `(tactic| (k_here; with_reducible (refine r_add_ib (by assumption) ?_)))
local macro_rules | `(tactic| walk_at "binaryOp Mult int int") => `(tactic| (k_here; first | (refine r_mul_r (by decide) ?_) | (refine r_mul_l (by decide) ?_) | (refine r_mul_r (by assumption) ?_) | (refine r_mul_l (by assumption) ?_)))
local macro_rules | `(tactic| walk_at "callWith ref") => `(tactic| (k_here; k_dflt (refine' callWith_F ?k1 ?_; (case k1 => exact FnAt.of (by k_asm) (by (first | assumption | exact List.mem_cons_of_mem _ (by assumption) | exact List.mem_cons_of_mem _ (List.mem_cons_of_mem _ (by assumption)) | exact List.mem_cons_of_mem _ (List.mem_cons_of_mem _ (List.mem_cons_of_mem _ (by assumption)))))); k_whole)))
local macro_rules | `(tactic| walk_at "FnAt") => `(tactic| (k_dflt (exact FnAt.of (by k_asm) (by (first | assumption | exact List.mem_cons_of_mem _ (by assumption) | exact List.mem_cons_of_mem _ (List.mem_cons_of_mem _ (by assumption)) | exact List.mem_cons_of_mem _ (List.mem_cons_of_mem _ (List.mem_cons_of_mem _ (by assumption))))))))
local macro_rules | `(tactic| walk_at "call ref") => `(tactic| (k_here; with_reducible refine nil_app ?_))
local macro_rules | `(tactic| walk_at "binaryOp Div float float") => `(tactic| (k_here; with_reducible (refine r_div_TY rfl ?_)))
local macro_rules | `(tactic| walk_at "call builtin:round") => `(tactic| (k_here; (with_reducible show wpAny _ _ (call (Value.builtin "round") [Value.float _ _]) _ _ _); ((with_reducible refine' r_round_TY ?hA ?hx ?hy ?ha ?hn ?h1 ?h2 ?_); (case hA => k_dflt (exact rfl)); (case hx => with_reducible exact rfl); (case hy => exact TY_c); (case h1 => with_reducible assumption); (case h2 => with_reducible assumption); (case ha => k_dflt (first | with_reducible assumption | omega)); (case hn => k_dflt (first | with_reducible assumption | omega)); k_whole)))
local macro_rules | `(tactic| walk_at "call ref") => `(tactic| (k_here; (with_reducible show wpAny _ _ (call (Value.ref 62) [Value.int _ _]) _ _ _); (refine' con_use (c_isleap _ _ (by first | with_reducible assumption | exact rfl)) ?k1 ?k2 ?k3 ?k4 ?k5 ?kK ?kp ?kd ?ku ?_; (case k1 => k_asm); (case k2 => k_asm); (case k3 => k_asm); (case k4 => k_asm); (case k5 => k_asm); (case kK => first | exact rfl | assumption); (case kp => trivial); (case kd => ktr_room); (case ku => ktr_units)); intro r9 tl9 h9 tk9 F9 N9 l9 ho9; obtain ⟨e9, ho9⟩ := ho9; subst e9; subst ho9; clear l9; (dsimp only [List.nil_append] at N9); (try dsimp only); (try k_fold)))
set_option maxRecDepth 100000 in
set_option maxHeartbeats 3000000 in
theorem c_legal {w : World} {p : Program} {loose : List Str} {mean : ExcName → Option Value} {mg mb : Str → Option Value} (y mo d : Int) (t t1 t2 : Tok) (hm : 1 ≤ mo ∧ mo ≤ 12) (hdd : 1 ≤ d ∧ d ≤ mlen (leapB y) mo) :
    Con w p loose mean mg mb (.ref 69) [.int y t, .int mo t1, .int d t2] 2 (fun _ => True) (fun r tl => tl = [] ∧ r = .bool true) := by
  unfold Con
  k_fill
  intro dp un gd cn cs a ccd cl outer A₀ base h₀ L m news s Q E Bq Fq Xq Nq Tq hk hpre hd hu hret
  w_on
  w_top on
  refine wpAny_call ?_
  k_dflt cell_enter
  rename_i g1 L1 h1 FG F1 N1 BB X1 T1
  unfold mlen at hdd
  by_cases h2 : mo = 2
  · cases hl : leapB y
    all_goals (simp only [h2, hl, if_true, if_false, Bool.false_eq_true] at hdd)
    all_goals (w_strict k_steps)
    all_goals (first | exact hret _ [] _ _ (by assumption) (news_nil (by assumption)) ord_nil ⟨rfl, rfl⟩ | skip)
    all_goals (first | (exfalso; omega) | skip)
    all_goals (first | (exfalso; simp_all; done) | skip)
  · by_cases h30 : mo = 4 ∨ mo = 6 ∨ mo = 9 ∨ mo = 11
    all_goals (simp only [h2, h30, if_true, if_false, Bool.false_eq_true] at hdd)
    · have hin : ([4, 6, 9, 11] : List Int).any (· == mo) = true := by simp; omega
      w_strict k_steps
      all_goals (first | exact hret _ [] _ _ (by assumption) (news_nil (by assumption)) ord_nil ⟨rfl, rfl⟩ | skip)
      all_goals (first | (exfalso; omega) | skip)
      all_goals (first | (exfalso; simp_all; done) | skip)
    have hin : ([4, 6, 9, 11] : List Int).any (· == mo) = false := by simp; omega
    all_goals (w_strict k_steps)
    all_goals (first | exact hret _ [] _ _ (by assumption) (news_nil (by assumption)) ord_nil ⟨rfl, rfl⟩ | skip)
    all_goals (first | (exfalso; omega) | skip)
    all_goals (first | (exfalso; simp_all; done) | skip)
end Mine
end
section
open PySem PySem.W PyProof.Rows
namespace Mine
local macro_rules | `(tactic| walk_at "no such step 0") => `(tactic| fail)
local macro_rules | `(tactic| walk_at "no such step 1") => `(tactic| fail)
local macro_rules | `(tactic| walk_at "no such step 2") => `(tactic| fail)
local macro_rules | `(tactic| walk_at "no such step 3") => `(tactic| fail)
local macro_rules | `(tactic| walk_at "no such step 4") => `(tactic| fail)
local macro_rules | `(tactic| walk_at "no such step 5") => `(tactic| fail)
local macro_rules | `(tactic| walk_at "no such step 6") => `(tactic| fail)
local macro_rules | `(tactic| walk_at "no such step 7") => `(tactic| fail)
local macro_rules | `(tactic| walk_at "no such step 8") => `(tactic| fail)
local macro_rules | `(tactic| walk_at "no such step 9") => `(tactic| fail)
local macro_rules | `(tactic| walk_at "no such step 10") => `(tactic| fail)
local macro_rules | `(tactic| walk_at "no such step 11") => `(tactic| fail)
local macro_rules | `(tactic| walk_at "no such step 12") => `(tactic| fail)
local macro_rules | `(tactic| walk_at "no such step 13") => `(tactic| fail)
local macro_rules | `(tactic| walk_at "no such step 14") => `(tactic| fail)
local macro_rules | `(tactic| walk_at "no such step 15") => `(tactic| fail)
local macro_rules | `(tactic| walk_at "no such step 16") => `(tactic| fail)
local macro_rules | `(tactic| walk_at "no such step 17") => `(tactic| fail)
local macro_rules | `(tactic| walk_at "no such step 18") => `(tactic| fail)
local macro_rules | `(tactic| walk_at "no such step 19") => `(tactic| fail)
local macro_rules | `(tactic| walk_at "no such step 20") => `(tactic| fail)
local macro_rules | `(tactic| walk_at "no such step 21") => `(tactic| fail)
local macro_rules | `(tactic| walk_at "no such step 22") => `(tactic| fail)
local macro_rules | `(tactic| walk_at "no such step 23") => `(tactic| fail)
local macro_rules | `(tactic| walk_at "no such step 24") => `(tactic| fail)
local macro_rules | `(tactic| walk_at "no such step 25") => `(tactic| fail)
local macro_rules | `(tactic| walk_at "no such step 26") => `(tactic| fail)
local macro_rules | `(tactic| walk_at "no such step 27") => `(tactic| fail)
local macro_rules | `(tactic| walk_at "no such step 28") => `(tactic| fail)
local macro_rules | `(tactic| walk_at "no such step 29") => `(tactic| fail)
local macro_rules | `(tactic| walk_at "no such step 30") => `(tactic| fail)
local macro_rules | `(tactic| walk_at "no such step 31") => `(tactic| fail)
local macro_rules | `(tactic| walk_at "no such step 32") => `(tactic| fail)
local macro_rules | `(tactic| walk_at "no such step 33") => `(tactic| fail)
local macro_rules | `(tactic| walk_at "no such step 34") => `(tactic| fail)
local macro_rules | `(tactic| walk_at "no such step 35") => `(tactic| fail)
local macro_rules | `(tactic| walk_at "no such step 36") => `(tactic| fail)
local macro_rules | `(tactic| walk_at "no such step 37") => `(tactic| fail)
local macro_rules | `(tactic| walk_at "no such step 38") => `(tactic| fail)
local macro_rules | `(tactic| walk_at "no such step 39") => `(tactic| fail)
local macro_rules | `(tactic| walk_at "binaryOp Sub float float") => `(tactic| (k_here; (with_reducible show wpAny _ _ (binaryOp _ (Value.float _ _) (Value.float _ _)) _ _ _); ((with_reducible refine' r_sub_ff ?hx ?hy ?ha ?hb ?e ?_); (case hx => (with_reducible (first | exact rfl | exact half_c | exact epg_c | exact epp_c))); (case hy => (with_reducible (first | exact rfl | exact half_c | exact epg_c | exact epp_c))); (case ha => k_dflt (first | with_reducible assumption | decide | omega)); (case hb => k_dflt (first | with_reducible assumption | decide | omega)); (case e => (first | with_reducible assumption | (k_dflt (exact rfl)))); k_whole)))
local macro_rules | `(tactic| walk_at "binaryOp Add float int") => `(tactic| (k_here; (with_reducible show wpAny _ _ (binaryOp _ (Value.float _ _) (Value.int _ _)) _ _ _); first | ((with_reducible refine' r_add_fi ?hx ?ha ?hn ?e ?_); (case hx => (with_reducible (first | exact rfl | exact half_c | exact epg_c | exact epp_c))); (case ha => k_dflt (first | with_reducible assumption | decide | omega)); (case hn => k_dflt (first | with_reducible assumption | decide | omega)); (case e => (first | with_reducible assumption | (k_dflt (exact rfl)))); k_whole) | ((with_reducible refine' r_add_xi ?hn ?_); (case hn => k_dflt (first | with_reducible assumption | decide | omega)); k_whole)))
local macro_rules | `(tactic| walk_at "binaryOp Sub float int") => `(tactic| (k_here; (with_reducible show wpAny _ _ (binaryOp _ (Value.float _ _) (Value.int _ _)) _ _ _); ((with_reducible refine' r_sub_fi ?hx ?ha ?hn ?e ?_); (case hx => (with_reducible (first | exact rfl | exact half_c | exact epg_c | exact epp_c))); (case ha => k_dflt (first | with_reducible assumption | decide | omega)); (case hn => k_dflt (first | with_reducible assumption | decide | omega)); (case e => (first | with_reducible assumption | (k_dflt (exact rfl)))); k_whole)))
local macro_rules | `(tactic| walk_at "binaryOp Add int float") => `(tactic| (k_here; (with_reducible show wpAny _ _ (binaryOp _ (Value.int _ _) (Value.float _ _)) _ _ _); ((with_reducible refine' r_add_if ?hx ?ha ?hn ?e ?_); (case hx => (with_reducible (first | exact rfl | exact half_c | exact epg_c | exact epp_c))); (case ha => k_dflt (first | with_reducible assumption | decide | omega)); (case hn => k_dflt (first | with_reducible assumption | decide | omega)); (case e => (first | with_reducible assumption | (k_dflt (exact rfl)))); k_whole)))
local macro_rules | `(tactic| walk_at "binaryOp Sub int float") => `(tactic| (k_here; (with_reducible show wpAny _ _ (binaryOp _ (Value.int _ _) (Value.float _ _)) _ _ _); ((with_reducible refine' r_sub_if ?hx ?ha ?hn ?e ?_); (case hx => (with_reducible (first | exact rfl | exact half_c | exact epg_c | exact epp_c))); (case ha => k_dflt (first | with_reducible assumption | decide | omega)); (case hn => k_dflt (first | with_reducible assumption | decide | omega)); (case e => (first | with_reducible assumption | (k_dflt (exact rfl)))); k_whole)))
local macro_rules | `(tactic| walk_at "binaryOp Mult float int") => `(tactic| (k_here; (with_reducible show wpAny _ _ (binaryOp _ (Value.float _ _) (Value.int _ _)) _ _ _); ((with_reducible refine' r_mul_fi ?hx ?ha ?hn ?hm ?e ?_); (case hx => (with_reducible (first | exact rfl | exact half_c | exact epg_c | exact epp_c))); (case ha => k_dflt (first | with_reducible assumption | decide | omega)); (case hn => k_dflt (first | with_reducible assumption | decide | omega)); (case hm => k_dflt (first | with_reducible assumption | decide | omega)); (case e => (first | with_reducible assumption | (k_dflt (exact rfl)))); k_whole)))
local macro_rules | `(tactic| walk_at "binaryOp Div float int") => `(tactic| (k_here; (with_reducible show wpAny _ _ (binaryOp _ (Value.float _ _) (Value.int _ _)) _ _ _); ((with_reducible refine' r_div_fi ?hn ?hm ?_); (case hn => k_dflt (first | with_reducible assumption | decide | omega)); (case hm => k_dflt (first | with_reducible assumption | decide | omega)); k_whole)))
local macro_rules | `(tactic| walk_at "binaryOp Mod float int") => `(tactic| (k_here; (with_reducible show wpAny _ _ (binaryOp _ (Value.float _ _) (Value.int _ _)) _ _ _); ((with_reducible refine' r_mod_fi ?hx ?ha ?he ?hn ?hm ?e ?_); (case hx => (with_reducible (first | exact rfl | exact half_c | exact epg_c | exact epp_c))); (case ha => k_dflt (first | with_reducible assumption | decide | omega)); (case he => k_dflt (first | with_reducible assumption | decide | omega)); (case hn => k_dflt (first | with_reducible assumption | decide | omega)); (case hm => k_dflt (first | with_reducible assumption | decide | omega)); (case e => (first | with_reducible assumption | (k_dflt (exact rfl)))); k_whole)))
local macro_rules | `(tactic| walk_at "binaryOp Div int int") => `(tactic| (k_here; (with_reducible show wpAny _ _ (binaryOp _ (Value.int _ _) (Value.int _ _)) _ _ _); ((with_reducible refine' r_div_ii ?hA ?ha ?hn ?hm ?_); (case hA => k_dflt (exact rfl)); (case ha => k_dflt (first | with_reducible assumption | decide | omega)); (case hn => k_dflt (first | with_reducible assumption | decide | omega)); (case hm => k_dflt (first | with_reducible assumption | decide | omega)); k_whole)))
local macro_rules | `(tactic| walk_at "call builtin:math.floor") => `(tactic| (k_here; (with_reducible show wpAny _ _ (call (Value.builtin "math.floor") [Value.float _ _]) _ _ _); first | ((with_reducible refine' r_floor_x ?hA ?hx ?e ?_); (case hA => k_dflt (exact rfl)); (case hx => with_reducible assumption); (case e => with_reducible assumption); k_whole) | ((with_reducible refine' r_floor_m ?hA ?hm ?hadj ?hd ?e ?_); (case hA => k_dflt (exact rfl)); (case hm => k_dflt (first | with_reducible assumption | decide | omega)); (case hadj => k_dflt omega); (case hd => k_dflt omega); (case e => (first | with_reducible assumption | (k_dflt (exact rfl)))); k_whole) | ((with_reducible refine' r_floor_q ?hA ?ha ?hn ?hm ?e ?_); (case hA => k_dflt (exact rfl)); (case ha => k_dflt (first | with_reducible assumption | decide | omega)); (case hn => k_dflt (first | with_reducible assumption | decide | omega)); (case hm => k_dflt (first | with_reducible assumption | decide | omega)); (case e => (first | with_reducible assumption | (k_dflt (exact rfl)))); k_whole) | ((with_reducible refine' r_floor_d ?hA ?hx ?ha ?hn ?hm ?e ?_); (case hA => k_dflt (exact rfl)); (case hx => with_reducible exact rfl); (case ha => k_dflt (first | with_reducible assumption | decide | omega)); (case hn => k_dflt (first | with_reducible assumption | decide | omega)); (case hm => k_dflt (first | with_reducible assumption | decide | omega)); (case e => (first | with_reducible assumption | (k_dflt (exact rfl)))); k_whole) | ((with_reducible refine' r_floor_h ?hA ?hx ?ha ?e ?_); (case hA => k_dflt (exact rfl)); (case hx => with_reducible exact rfl); (case ha => k_dflt (first | with_reducible assumption | decide | omega)); (case e => (first | with_reducible assumption | (k_dflt (exact rfl)))); k_whole)))
local macro_rules | `(tactic| walk_at "call builtin:math.ceil") => `(tactic| (k_here; (with_reducible show wpAny _ _ (call (Value.builtin "math.ceil") [Value.float _ _]) _ _ _); ((with_reducible refine' r_ceil_d ?hA ?hx ?ha ?hn ?hm ?e ?_); (case hA => k_dflt (exact rfl)); (case hx => with_reducible exact rfl); (case ha => k_dflt (first | with_reducible assumption | decide | omega)); (case hn => k_dflt (first | with_reducible assumption | decide | omega)); (case hm => k_dflt (first | with_reducible assumption | decide | omega)); (case e => (first | with_reducible assumption | (k_dflt (exact rfl)))); k_whole)))
local macro_rules | `(tactic| walk_at "call builtin:math.trunc") => `(tactic| (k_here; (with_reducible show wpAny _ _ (call (Value.builtin "math.trunc") [Value.float _ _]) _ _ _); ((with_reducible refine' r_trunc_h ?hA ?hx ?ha ?he ?e ?_); (case hA => k_dflt (exact rfl)); (case hx => with_reducible exact rfl); (case ha => k_dflt (first | with_reducible assumption | decide | omega)); (case he => k_dflt (first | with_reducible assumption | decide | omega)); (case e => (first | with_reducible assumption | (k_dflt (exact rfl)))); k_whole)))
local macro_rules | `(tactic| walk_at "call type:int") => `(tactic| (k_here; (with_reducible show wpAny _ _ (call (Value.type "int") [Value.float _ _]) _ _ _); ((with_reducible refine' r_int_h ?hA ?hx ?ha ?he ?e ?_); (case hA => k_dflt (exact rfl)); (case hx => with_reducible exact rfl); (case ha => k_dflt (first | with_reducible assumption | decide | omega)); (case he => k_dflt (first | with_reducible assumption | decide | omega)); (case e => (first | with_reducible assumption | (k_dflt (exact rfl)))); k_whole)))
local macro_rules | `(tactic| walk_at "compareOp Lt float int") => `(tactic| (k_here; (with_reducible show wpAny _ _ (compareOp _ (Value.float _ _) (Value.int _ _)) _ _ _); first | ((with_reducible refine' r_lt_fi ?hx ?ha ?e ?_); (case hx => with_reducible exact rfl); (case ha => k_dflt (first | with_reducible assumption | decide | omega)); (case e => (first | with_reducible assumption | (k_dflt (exact rfl)))); k_whole) | ((with_reducible refine' r_lt_xi ?hx ?e ?_); (case hx => assumption); (case e => (first | with_reducible assumption | (k_dflt (exact rfl)))); k_whole)))
local macro_rules | `(tactic| walk_at "compareOp LtE float int") => `(tactic| (k_here; (with_reducible show wpAny _ _ (compareOp _ (Value.float _ _) (Value.int _ _)) _ _ _); ((with_reducible refine' r_le_fi ?hx ?ha ?e ?_); (case hx => with_reducible exact rfl); (case ha => k_dflt (first | with_reducible assumption | decide | omega)); (case e => (first | with_reducible assumption | (k_dflt (exact rfl)))); k_whole)))
local macro_rules | `(tactic| walk_at "compareOp Gt float int") => `(tactic| (k_here; (with_reducible show wpAny _ _ (compareOp _ (Value.float _ _) (Value.int _ _)) _ _ _); ((with_reducible refine' r_gt_fi ?hx ?ha ?e ?_); (case hx => with_reducible exact rfl); (case ha => k_dflt (first | with_reducible assumption | decide | omega)); (case e => (first | with_reducible assumption | (k_dflt (exact rfl)))); k_whole)))
local macro_rules | `(tactic| walk_at "compareOp Gt int float") => `(tactic| (k_here; (with_reducible show wpAny _ _ (compareOp _ (Value.int _ _) (Value.float _ _)) _ _ _); ((with_reducible refine' r_gt_ix ?hx ?e ?_); (case hx => assumption); (case e => (first | with_reducible assumption | (k_dflt (exact rfl)))); k_whole)))
local macro_rules | `(tactic| walk_at "compareOp LtE int float") => `(tactic| (k_here; (with_reducible show wpAny _ _ (compareOp _ (Value.int _ _) (Value.float _ _)) _ _ _); ((with_reducible refine' r_le_ix ?hx ?e ?_); (case hx => assumption); (case e => (first | with_reducible assumption | (k_dflt (exact rfl)))); k_whole)))
local macro_rules | `(tactic| walk_at "compareOp NotEq float float") => `(tactic| (k_here; (with_reducible show wpAny _ _ (compareOp _ (Value.float _ _) (Value.float _ _)) _ _ _); ((with_reducible refine' r_ne_ff ?hx ?hy ?ha ?hb ?_); (case hx => with_reducible exact rfl); (case hy => with_reducible exact rfl); (case ha => k_dflt (first | with_reducible assumption | decide | omega)); (case hb => k_dflt (first | with_reducible assumption | decide | omega)); k_whole)))
local macro_rules | `(tactic| walk_at "compareOp In int ref") => `(tactic| (k_here; (with_reducible show wpAny _ _ (compareOp _ (Value.int _ _) (Value.ref _)) _ _ _); ((with_reducible refine' in_tupK ?F ?X ?l ?i ?b ?_); (case F => k_asm); (case X => k_asm); (case l => k_is); (case i => (repeat constructor)); (case b => assumption); k_whole)))
local macro_rules | `(tactic| walk_at "compareOp Eq int int") => `(tactic| (k_here; with_reducible (first | refine r_eq_y (by assumption) ?_ | refine r_eq_n (by assumption) ?_)))
local macro_rules | `(tactic| walk_at "compareOp NotEq int int") => `(tactic| (k_here; with_reducible (first | refine r_ne_y (by assumption) ?_ | refine r_ne_n (by assumption) ?_)))
local macro_rules | `(tactic| walk_at "compareOp Lt int int") => `(tactic| (k_here; with_reducible (first | refine r_lt_y (by assumption) ?_ | refine r_lt_n (by assumption) ?_)))
local macro_rules | `(tactic| walk_at "compareOp LtE int int") => `(tactic| (k_here; with_reducible (first | refine r_le_y (by assumption) ?_ | refine r_le_n (by assumption) ?_)))
local macro_rules | `(tactic| walk_at "compareOp Gt int int") => `(tactic| (k_here; with_reducible (first | refine r_gt_y (by assumption) ?_ | refine r_gt_n (by assumption) ?_)))
local macro_rules | `(tactic| walk_at "binaryOp Add int bool") => `(tactic| (k_here; with_reducible (refine r_add_ib (by assumption) ?_)))
local macro_rules | `(tactic| walk_at "binaryOp Mult int int") => `(tactic| (k_here; first | (refine r_mul_r (by decide) ?_) | (refine r_mul_l (by decide) ?_) | (refine r_mul_r (by assumption) ?_) | (refine r_mul_l (by assumption) ?_)))
local macro_rules | `(tactic| walk_at "callWith ref") => `(tactic| (k_here; k_dflt (refine' callWith_F ?k1 ?_; (case k1 => exact FnAt.of (by k_asm) (by (first | assumption | exact List.mem_cons_of_mem _ (by assumption) | exact List.mem_cons_of_mem _ (List.mem_cons_of_mem _ (by assumption)) | exact List.mem_cons_of_mem _ (List.mem_cons_of_mem _ (List.mem_cons_of_mem _ (by assumption)))))); k_whole)))
local macro_rules | `(tactic| walk_at "FnAt") => `(tactic| (k_dflt (exact FnAt.of (by k_asm) (by (first | assumption | exact List.mem_cons_of_mem _ (by assumption) | exact List.mem_cons_of_mem _ (List.mem_cons_of_mem _ (by assumption)) | exact List.mem_cons_of_mem _ (List.mem_cons_of_mem _ (List.mem_cons_of_mem _ (by assumption))))))))
local macro_rules | `(tactic| walk_at "call ref") => `(tactic| (k_here; with_reducible refine nil_app ?_))
local macro_rules | `(tactic| walk_at "binaryOp Div float float") => `(tactic| (k_here; with_reducible (refine r_div_TY rfl ?_)))
local macro_rules | `(tactic| walk_at "call builtin:round") => `(tactic| (k_here; (with_reducible show wpAny _ _ (call (Value.builtin "round") [Value.float _ _]) _ _ _); ((with_reducible refine' r_round_TY ?hA ?hx ?hy ?ha ?hn ?h1 ?h2 ?_); (case hA => k_dflt (exact rfl)); (case hx => with_reducible exact rfl); (case hy => exact TY_c); (case h1 => with_reducible assumption); (case h2 => with_reducible assumption); (case ha => k_dflt (first | with_reducible assumption | omega)); (case hn => k_dflt (first | with_reducible assumption | omega)); k_whole)))
local macro_rules | `(tactic| walk_at "call ref") => `(tactic| (k_here; (with_reducible show wpAny _ _ (call (Value.ref 62) [Value.int _ _]) _ _ _); (refine' con_use (c_isleap _ _ (by first | with_reducible assumption | exact rfl)) ?k1 ?k2 ?k3 ?k4 ?k5 ?kK ?kp ?kd ?ku ?_; (case k1 => k_asm); (case k2 => k_asm); (case k3 => k_asm); (case k4 => k_asm); (case k5 => k_asm); (case kK => first | exact rfl | assumption); (case kp => trivial); (case kd => ktr_room); (case ku => ktr_units)); intro r9 tl9 h9 tk9 F9 N9 l9 ho9; obtain ⟨e9, ho9⟩ := ho9; subst e9; subst ho9; clear l9; (dsimp only [List.nil_append] at N9); (try dsimp only); (try k_fold)))
local macro_rules | `(tactic| walk_at "call ref") => `(tactic| (k_here; (with_reducible show wpAny _ _ (call (Value.ref 69) [Value.int _ _, Value.int _ _, Value.int _ _]) _ _ _); (refine' con_use (c_legal _ _ _ _ _ _ (by first | assumption | omega) (by first | assumption | exact one_ok _ _)) ?k1 ?k2 ?k3 ?k4 ?k5 ?kK ?kp ?kd ?ku ?_; (case k1 => k_asm); (case k2 => k_asm); (case k3 => k_asm); (case k4 => k_asm); (case k5 => k_asm); (case kK => first | exact rfl | assumption); (case kp => trivial); (case kd => ktr_room); (case ku => ktr_units)); intro r9 tl9 h9 tk9 F9 N9 l9 ho9; obtain ⟨e9, ho9⟩ := ho9; subst e9; subst ho9; clear l9; (dsimp only [List.nil_append] at N9); (try dsimp only); (try k_fold)))
theorem mlen_le (l : Bool) (m : Int) : mlen l m ≤ 31 := by
  unfold mlen; split
  · split <;> omega
  · split <;> omega
theorem ret_tojd {h₀ h' : Heap} {L : Addr} {m : Str → Option Value} {news : List (Addr × Obj)} {s : Shared} {Q : Value → Shared → Prop} {K a : Int} {t : Tok} {tk : Nat}
    (hret : ∀ r tl h' tk', Fr h₀ L h' m → News h₀ L h' (tl ++ news) → (∀ q ∈ news, ∀ p ∈ tl, q.1 < p.1) → (tl = [] ∧ ∃ t', r = .float (hf K) t') → Q r { s with heap := h', toks := tk' })
    (F : Fr h₀ L h' m) (N : News h₀ L h' news) (e : a = K) : Q (.float (hf a) t) { s with heap := h', toks := tk } := by
  subst e
  exact hret _ [] _ _ F (news_nil N) ord_nil ⟨rfl, _, rfl⟩
set_option maxRecDepth 100000 in
set_option maxHeartbeats 3000000 in
theorem c_tojd {w : World} {p : Program} {loose : List Str} {mean : ExcName → Option Value} {mg mb : Str → Option Value} (y mo d : Int) (t t1 t2 : Tok) (hy : -100000 ≤ y ∧ y ≤ 100000) (hm : 1 ≤ mo ∧ mo ≤ 12) (hdd : 1 ≤ d ∧ d ≤ mlen (leapB y) mo) {k : Int} (hk : 2 * (jan y + moff (leapB y) mo + d) - 3 = k) :
    Con w p loose mean mg mb (.ref 76) [.int y t, .int mo t1, .int d t2] 3 (fun _ => True) (fun r tl => tl = [] ∧ ∃ t', r = .float (hf k) t') := by
  subst hk
  unfold Con
  k_fill
  intro dp un gd cn cs a ccd cl outer A₀ base h₀ L m news s Q E Bq Fq Xq Nq Tq hk hpre hd hu hret
  w_on
  w_top on
  refine wpAny_call ?_
  k_dflt cell_enter
  rename_i g1 L1 h1 FG F1 N1 BB X1 T1
  have hd31 := mlen_le (leapB y) mo
  have hd1 : 1 ≤ d ∧ d ≤ 31 := by omega
  unfold jan moff at hret
  by_cases h2 : mo ≤ 2
  · rw [if_pos h2] at hret
    w_strict k_steps
    all_goals (refine ret_tojd hret (by assumption) (by assumption) ?_)
    all_goals omega
  · rw [if_neg h2] at hret
    cases hl : leapB y
    · rw [hl, if_neg Bool.false_ne_true] at hret
      w_strict k_steps
      all_goals (refine ret_tojd hret (by assumption) (by assumption) ?_)
      all_goals omega
    · rw [hl, if_pos rfl] at hret
      w_strict k_steps
      all_goals (refine ret_tojd hret (by assumption) (by assumption) ?_)
      all_goals omega
end Mine
end
section
open PySem PySem.W PyProof.Rows
namespace Mine
local macro_rules | `(tactic| walk_at "binaryOp Sub float float") => `(tactic| (k_here; (with_reducible show wpAny _ _ (binaryOp _ (Value.float _ _) (Value.float _ _)) _ _ _); ((with_reducible refine' r_sub_ff ?hx ?hy ?ha ?hb ?e ?_); (case hx => (with_reducible (first | exact rfl | exact half_c | exact epg_c | exact epp_c))); (case hy => (with_reducible (first | exact rfl | exact half_c | exact epg_c | exact epp_c))); (case ha => k_dflt (first | with_reducible assumption | decide | omega)); (case hb => k_dflt (first | with_reducible assumption | decide | omega)); (case e => (first | with_reducible assumption | (k_dflt (exact rfl)))); k_whole)))
local macro_rules | `(tactic| walk_at "binaryOp Add float int") => `(tactic| (k_here; (with_reducible show wpAny _ _ (binaryOp _ (Value.float _ _) (Value.int _ _)) _ _ _); first | ((with_reducible refine' r_add_fi ?hx ?ha ?hn ?e ?_); (case hx => (with_reducible (first | exact rfl | exact half_c | exact epg_c | exact epp_c))); (case ha => k_dflt (first | with_reducible assumption | decide | omega)); (case hn => k_dflt (first | with_reducible assumption | decide | omega)); (case e => (first | with_reducible assumption | (k_dflt (exact rfl)))); k_whole) | ((with_reducible refine' r_add_xi ?hn ?_); (case hn => k_dflt (first | with_reducible assumption | decide | omega)); k_whole)))
local macro_rules | `(tactic| walk_at "binaryOp Sub float int") => `(tactic| (k_here; (with_reducible show wpAny _ _ (binaryOp _ (Value.float _ _) (Value.int _ _)) _ _ _); ((with_reducible refine' r_sub_fi ?hx ?ha ?hn ?e ?_); (case hx => (with_reducible (first | exact rfl | exact half_c | exact epg_c | exact epp_c))); (case ha => k_dflt (first | with_reducible assumption | decide | omega)); (case hn => k_dflt (first | with_reducible assumption | decide | omega)); (case e => (first | with_reducible assumption | (k_dflt (exact rfl)))); k_whole)))
local macro_rules | `(tactic| walk_at "binaryOp Add int float") => `(tactic| (k_here; (with_reducible show wpAny _ _ (binaryOp _ (Value.int _ _) (Value.float _ _)) _ _ _); ((with_reducible refine' r_add_if ?hx ?ha ?hn ?e ?_); (case hx => (with_reducible (first | exact rfl | exact half_c | exact epg_c | exact epp_c))); (case ha => k_dflt (first | with_reducible assumption | decide | omega)); (case hn => k_dflt (first | with_reducible assumption | decide | omega)); (case e => (first | with_reducible assumption | (k_dflt (exact rfl)))); k_whole)))
local macro_rules | `(tactic| walk_at "binaryOp Sub int float") => `(tactic| (k_here; (with_reducible show wpAny _ _ (binaryOp _ (Value.int _ _) (Value.float _ _)) _ _ _); ((with_reducible refine' r_sub_if ?hx ?ha ?hn ?e ?_); (case hx => (with_reducible (first | exact rfl | exact half_c | exact epg_c | exact epp_c))); (case ha => k_dflt (first | with_reducible assumption | decide | omega)); (case hn => k_dflt (first | with_reducible assumption | decide | omega)); (case e => (first | with_reducible assumption | (k_dflt (exact rfl)))); k_whole)))
local macro_rules | `(tactic| walk_at "binaryOp Mult float int") => `(tactic| (k_here; (with_reducible show wpAny _ _ (binaryOp _ (Value.float _ _) (Value.int _ _)) _ _ _); ((with_reducible refine' r_mul_fi ?hx ?ha ?hn ?hm ?e ?_); (case hx => (with_reducible (first | exact rfl | exact half_c | exact epg_c | exact epp_c))); (case ha => k_dflt (first | with_reducible assumption | decide | omega)); (case hn => k_dflt (first | with_reducible assumption | decide | omega)); (case hm => k_dflt (first | with_reducible assumption | decide | omega)); (case e => (first | with_reducible assumption | (k_dflt (exact rfl)))); k_whole)))
local macro_rules | `(tactic| walk_at "binaryOp Div float int") => `(tactic| (k_here; (with_reducible show wpAny _ _ (binaryOp _ (Value.float _ _) (Value.int _ _)) _ _ _); ((with_reducible refine' r_div_fi ?hn ?hm ?_); (case hn => k_dflt (first | with_reducible assumption | decide | omega)); (case hm => k_dflt (first | with_reducible assumption | decide | omega)); k_whole)))
local macro_rules | `(tactic| walk_at "binaryOp Mod float int") => `(tactic| (k_here; (with_reducible show wpAny _ _ (binaryOp _ (Value.float _ _) (Value.int _ _)) _ _ _); ((with_reducible refine' r_mod_fi ?hx ?ha ?he ?hn ?hm ?e ?_); (case hx => (with_reducible (first | exact rfl | exact half_c | exact epg_c | exact epp_c))); (case ha => k_dflt (first | with_reducible assumption | decide | omega)); (case he => k_dflt (first | with_reducible assumption | decide | omega)); (case hn => k_dflt (first | with_reducible assumption | decide | omega)); (case hm => k_dflt (first | with_reducible assumption | decide | omega)); (case e => (first | with_reducible assumption | (k_dflt (exact rfl)))); k_whole)))
local macro_rules | `(tactic| walk_at "binaryOp Div int int") => `(tactic| (k_here; (with_reducible show wpAny _ _ (binaryOp _ (Value.int _ _) (Value.int _ _)) _ _ _); ((with_reducible refine' r_div_ii ?hA ?ha ?hn ?hm ?_); (case hA => k_dflt (exact rfl)); (case ha => k_dflt (first | with_reducible assumption | decide | omega)); (case hn => k_dflt (first | with_reducible assumption | decide | omega)); (case hm => k_dflt (first | with_reducible assumption | decide | omega)); k_whole)))
local macro_rules | `(tactic| walk_at "call builtin:math.floor") => `(tactic| (k_here; (with_reducible show wpAny _ _ (call (Value.builtin "math.floor") [Value.float _ _]) _ _ _); first | ((with_reducible refine' r_floor_x ?hA ?hx ?e ?_); (case hA => k_dflt (exact rfl)); (case hx => with_reducible assumption); (case e => with_reducible assumption); k_whole) | ((with_reducible refine' r_floor_m ?hA ?hm ?hadj ?hd ?e ?_); (case hA => k_dflt (exact rfl)); (case hm => k_dflt (first | with_reducible assumption | decide | omega)); (case hadj => k_dflt omega); (case hd => k_dflt omega); (case e => (first | with_reducible assumption | (k_dflt (exact rfl)))); k_whole) | ((with_reducible refine' r_floor_q ?hA ?ha ?hn ?hm ?e ?_); (case hA => k_dflt (exact rfl)); (case ha => k_dflt (first | with_reducible assumption | decide | omega)); (case hn => k_dflt (first | with_reducible assumption | decide | omega)); (case hm => k_dflt (first | with_reducible assumption | decide | omega)); (case e => (first | with_reducible assumption | (k_dflt (exact rfl)))); k_whole) | ((with_reducible refine' r_floor_d ?hA ?hx ?ha ?hn ?hm ?e ?_); (case hA => k_dflt (exact rfl)); (case hx => with_reducible exact rfl); (case ha => k_dflt (first | with_reducible assumption | decide | omega)); (case hn => k_dflt (first | with_reducible assumption | decide | omega)); (case hm => k_dflt (first | with_reducible assumption | decide | omega)); (case e => (first | with_reducible assumption | (k_dflt (exact rfl)))); k_whole) | ((with_reducible refine' r_floor_h ?hA ?hx ?ha ?e ?_); (case hA => k_dflt (exact rfl)); (case hx => with_reducible exact rfl); (case ha => k_dflt (first | with_reducible assumption | decide | omega)); (case e => (first | with_reducible assumption | (k_dflt (exact rfl)))); k_whole)))
local macro_rules | `(tactic| walk_at "call builtin:math.ceil") => `(tactic| (k_here; (with_reducible show wpAny _ _ (call (Value.builtin "math.ceil") [Value.float _ _]) _ _ _); ((with_reducible refine' r_ceil_d ?hA ?hx ?ha ?hn ?hm ?e ?_); (case hA => k_dflt (exact rfl)); (case hx => with_reducible exact rfl); (case ha => k_dflt (first | with_reducible assumption | decide | omega)); (case hn => k_dflt (first | with_reducible assumption | decide | omega)); (case hm => k_dflt (first | with_reducible assumption | decide | omega)); (case e => (first | with_reducible assumption | (k_dflt (exact rfl)))); k_whole)))
local macro_rules | `(tactic| walk_at "call builtin:math.trunc") => `(tactic| (k_here; (with_reducible show wpAny _ _ (call (Value.builtin "math.trunc") [Value.float _ _]) _ _ _); ((with_reducible refine' r_trunc_h ?hA ?hx ?ha ?he ?e ?_); (case hA => k_dflt (exact rfl)); (case hx => with_reducible exact rfl); (case ha => k_dflt (first | with_reducible assumption | decide | omega)); (case he => k_dflt (first | with_reducible assumption | decide | omega)); (case e => (first | with_reducible assumption | (k_dflt (exact rfl)))); k_whole)))
local macro_rules | `(tactic| walk_at "call type:int") => `(tactic| (k_here; (with_reducible show wpAny _ _ (call (Value.type "int") [Value.float _ _]) _ _ _); ((with_reducible refine' r_int_h ?hA ?hx ?ha ?he ?e ?_); (case hA => k_dflt (exact rfl)); (case hx => with_reducible exact rfl); (case ha => k_dflt (first | with_reducible assumption | decide | omega)); (case he => k_dflt (first | with_reducible assumption | decide | omega)); (case e => (first | with_reducible assumption | (k_dflt (exact rfl)))); k_whole)))
local macro_rules | `(tactic| walk_at "compareOp Lt float int") => `(tactic| (k_here; (with_reducible show wpAny _ _ (compareOp _ (Value.float _ _) (Value.int _ _)) _ _ _); first | ((with_reducible refine' r_lt_fi ?hx ?ha ?e ?_); (case hx => with_reducible exact rfl); (case ha => k_dflt (first | with_reducible assumption | decide | omega)); (case e => (first | with_reducible assumption | (k_dflt (exact rfl)))); k_whole) | ((with_reducible refine' r_lt_xi ?hx ?e ?_); (case hx => assumption); (case e => (first | with_reducible assumption | (k_dflt (exact rfl)))); k_whole)))
local macro_rules | `(tactic| walk_at "compareOp LtE float int") => `(tactic| (k_here; (with_reducible show wpAny _ _ (compareOp _ (Value.float _ _) (Value.int _ _)) _ _ _); ((with_reducible refine' r_le_fi ?hx ?ha ?e ?_); (case hx => with_reducible exact rfl); (case ha => k_dflt (first | with_reducible assumption | decide | omega)); (case e => (first | with_reducible assumption | (k_dflt (exact rfl)))); k_whole)))
local macro_rules | `(tactic| walk_at "compareOp Gt float int") => `(tactic| (k_here; (with_reducible show wpAny _ _ (compareOp _ (Value.float _ _) (Value.int _ _)) _ _ _); ((with_reducible refine' r_gt_fi ?hx ?ha ?e ?_); (case hx => with_reducible exact rfl); (case ha => k_dflt (first | with_reducible assumption | decide | omega)); (case e => (first | with_reducible assumption | (k_dflt (exact rfl)))); k_whole)))
local macro_rules | `(tactic| walk_at "compareOp Gt int float") => `(tactic| (k_here; (with_reducible show wpAny _ _ (compareOp _ (Value.int _ _) (Value.float _ _)) _ _ _); ((with_reducible refine' r_gt_ix ?hx ?e ?_); (case hx => assumption); (case e => (first | with_reducible assumption | (k_dflt (exact rfl)))); k_whole)))
local macro_rules | `(tactic| walk_at "compareOp LtE int float") => `(tactic| (k_here; (with_reducible show wpAny _ _ (compareOp _ (Value.int _ _) (Value.float _ _)) _ _ _); ((with_reducible refine' r_le_ix ?hx ?e ?_); (case hx => assumption); (case e => (first | with_reducible assumption | (k_dflt (exact rfl)))); k_whole)))
local macro_rules | `(tactic| walk_at "compareOp NotEq float float") => `(tactic| (k_here; (with_reducible show wpAny _ _ (compareOp _ (Value.float _ _) (Value.float _ _)) _ _ _); ((with_reducible refine' r_ne_ff ?hx ?hy ?ha ?hb ?_); (case hx => with_reducible exact rfl); (case hy => with_reducible exact rfl); (case ha => k_dflt (first | with_reducible assumption | decide | omega)); (case hb => k_dflt (first | with_reducible assumption | decide | omega)); k_whole)))
local macro_rules | `(tactic| walk_at "compareOp In int ref") => `(tactic| (k_here; (with_reducible show wpAny _ _ (compareOp _ (Value.int _ _) (Value.ref _)) _ _ _); ((with_reducible refine' in_tupK ?F ?X ?l ?i ?b ?_); (case F => k_asm); (case X => k_asm); (case l => k_is); (case i => (repeat constructor)); (case b => assumption); k_whole)))
local macro_rules | `(tactic| walk_at "compareOp Eq int int") => `(tactic| (k_here; with_reducible (first | refine r_eq_y (by assumption) ?_ | refine r_eq_n (by assumption) ?_)))
local macro_rules | `(tactic| walk_at "compareOp NotEq int int") => `(tactic| (k_here; with_reducible (first | refine r_ne_y (by assumption) ?_ | refine r_ne_n (by assumption) ?_)))
local macro_rules | `(tactic| walk_at "compareOp Lt int int") => `(tactic| (k_here; with_reducible (first | refine r_lt_y (by assumption) ?_ | refine r_lt_n (by assumption) ?_)))
local macro_rules | `(tactic| walk_at "compareOp LtE int int") => `(tactic| (k_here; with_reducible (first | refine r_le_y (by assumption) ?_ | refine r_le_n (by assumption) ?_)))
local macro_rules | `(tactic| walk_at "compareOp Gt int int") => `(tactic| (k_here; with_reducible (first | refine r_gt_y (by assumption) ?_ | refine r_gt_n (by assumption) ?_)))
local macro_rules | `(tactic| walk_at "binaryOp Add int bool") => `(tactic| (k_here; with_reducible (refine r_add_ib (by assumption) ?_)))
local macro_rules | `(tactic| walk_at "binaryOp Mult int int") => `(tactic| (k_here; first | (refine r_mul_r (by decide) ?_) | (refine r_mul_l (by decide) ?_) | (refine r_mul_r (by assumption) ?_) | (refine r_mul_l (by assumption) ?_)))
local macro_rules | `(tactic| walk_at "callWith ref") => `(tactic| (k_here; k_dflt (refine' callWith_F ?k1 ?_; (case k1 => exact FnAt.of (by k_asm) (by (first | assumption | exact List.mem_cons_of_mem _ (by assumption) | exact List.mem_cons_of_mem _ (List.mem_cons_of_mem _ (by assumption)) | exact List.mem_cons_of_mem _ (List.mem_cons_of_mem _ (List.mem_cons_of_mem _ (by assumption)))))); k_whole)))
local macro_rules | `(tactic| walk_at "FnAt") => `(tactic| (k_dflt (exact FnAt.of (by k_asm) (by (first | assumption | exact List.mem_cons_of_mem _ (by assumption) | exact List.mem_cons_of_mem _ (List.mem_cons_of_mem _ (by assumption)) | exact List.mem_cons_of_mem _ (List.mem_cons_of_mem _ (List.mem_cons_of_mem _ (by assumption))))))))
local macro_rules | `(tactic| walk_at "call ref") => `(tactic| (k_here; with_reducible refine nil_app ?_))
local macro_rules | `(tactic| walk_at "binaryOp Div float float") => `(tactic| (k_here; with_reducible (refine r_div_TY rfl ?_)))
local macro_rules | `(tactic| walk_at "call builtin:round") => `(tactic| (k_here; (with_reducible show wpAny _ _ (call (Value.builtin "round") [Value.float _ _]) _ _ _); ((with_reducible refine' r_round_TY ?hA ?hx ?hy ?ha ?hn ?h1 ?h2 ?_); (case hA => k_dflt (exact rfl)); (case hx => with_reducible exact rfl); (case hy => exact TY_c); (case h1 => with_reducible assumption); (case h2 => with_reducible assumption); (case ha => k_dflt (first | with_reducible assumption | omega)); (case hn => k_dflt (first | with_reducible assumption | omega)); k_whole)))
local macro_rules | `(tactic| walk_at "call ref") => `(tactic| (k_here; (with_reducible show wpAny _ _ (call (Value.ref 62) [Value.int _ _]) _ _ _); (refine' con_use (c_isleap _ _ (by first | with_reducible assumption | exact rfl)) ?k1 ?k2 ?k3 ?k4 ?k5 ?kK ?kp ?kd ?ku ?_; (case k1 => k_asm); (case k2 => k_asm); (case k3 => k_asm); (case k4 => k_asm); (case k5 => k_asm); (case kK => first | exact rfl | assumption); (case kp => trivial); (case kd => ktr_room); (case ku => ktr_units)); intro r9 tl9 h9 tk9 F9 N9 l9 ho9; obtain ⟨e9, ho9⟩ := ho9; subst e9; subst ho9; clear l9; (dsimp only [List.nil_append] at N9); (try dsimp only); (try k_fold)))
local macro_rules | `(tactic| walk_at "call ref") => `(tactic| (k_here; (with_reducible show wpAny _ _ (call (Value.ref 76) [Value.int _ _, Value.int _ _, Value.int _ _]) _ _ _); (refine' con_use (c_tojd _ _ _ _ _ _ (by first | assumption | omega) (by first | assumption | omega) (by first | assumption | exact one_ok _ _) (by first | with_reducible assumption | exact rfl)) ?k1 ?k2 ?k3 ?k4 ?k5 ?kK ?kp ?kd ?ku ?_; (case k1 => k_asm); (case k2 => k_asm); (case k3 => k_asm); (case k4 => k_asm); (case k5 => k_asm); (case kK => first | exact rfl | assumption); (case kp => trivial); (case kd => ktr_room); (case ku => ktr_units)); intro r9 tl9 h9 tk9 F9 N9 l9 ho9; obtain ⟨e9, t9, ho9⟩ := ho9; subst e9; subst ho9; clear l9; (dsimp only [List.nil_append] at N9); (try dsimp only); (try k_fold)))
def tup3 (y m d : Int) (t1 t2 t3 : Tok) : Obj := ⟨.type "tuple", none, .seq #[.int y t1, .int m t2, .int d t3] 0, #[]⟩
theorem ret_tup {h₀ h' : Heap} {L : Addr} {m : Str → Option Value} {news : List (Addr × Obj)} {s : Shared} {Q : Value → Shared → Prop} {y mo d : Int} {n : Int} {a : Addr} {t1 t2 t3 : Tok} {tk : Nat}
    (hret : ∀ r tl h' tk', Fr h₀ L h' m → News h₀ L h' (tl ++ news) → (∀ q ∈ news, ∀ p ∈ tl, q.1 < p.1) → (∃ y m d t1 t2 t3 a, IsDate n y m d ∧ r = .ref a ∧ tl = [(a, tup3 y m d t1 t2 t3)]) → Q r { s with heap := h', toks := tk' })
    (F : Fr h₀ L h' m) (N : News h₀ L h' ((a, tup3 y mo d t1 t2 t3) :: news)) (l : ∀ q ∈ news, q.1 < a) (e : IsDate n y mo d) : Q (.ref a) { s with heap := h', toks := tk } :=
  hret _ [(a, tup3 y mo d t1 t2 t3)] _ _ F N (fun q hq p hp => by rw [List.mem_singleton.mp hp]; exact l q hq) ⟨y, mo, d, t1, t2, t3, a, e, rfl, rfl⟩
theorem yr1 {c i Y v : Int} (h : (¬ (c = 4 ∨ i = 4) ∧ Y = v + 1) ∨ ((c = 4 ∨ i = 4) ∧ Y = v)) : (c = 4 → Y = v) ∧ (i = 4 → Y = v) ∧ (c ≠ 4 → i ≠ 4 → Y = v + 1) := by omega
theorem nabE {z : Int} (h : -1073741824 ≤ z ∧ z ≤ 1073741824) : z.natAbs ≤ 1073741824 := by omega
theorem fj_y {q c u i : Int} (b4 : 0 ≤ c ∧ c ≤ 4) (b5 : 0 ≤ u ∧ u ≤ 24) (b6 : 0 ≤ i ∧ i ≤ 4) (b7 : -100 ≤ q ∧ q ≤ 100) :
    (-100000 ≤ q * 400 + c * 100 + u * 4 + i ∧ q * 400 + c * 100 + u * 4 + i ≤ 100000) ∧ (-100000 ≤ q * 400 + c * 100 + u * 4 + i + 1 ∧ q * 400 + c * 100 + u * 4 + i + 1 ≤ 100000) := by omega
theorem fj_a {n J : Int} (h : n = J + 365) : 0 ≤ n - J ∧ n - J = 365 := by omega
theorem fj_b (J : Int) : J + 365 - J < 365 + 1 := by omega
theorem fj_c {n J z : Int} (h : J ≤ n ∧ n < J + 365) (hz : 0 ≤ z) : 0 ≤ n - J ∧ n - J < 365 + z := by omega
theorem fj_lp (b : Bool) : 0 ≤ lp b := by unfold lp; split <;> omega
theorem fj_all {n J yd adj S dd lpl mof mle : Int} (hn : -12000000 ≤ n ∧ n ≤ 16000000) (hlo : 0 ≤ n - J) (hhi : n - J < 365 + lpl) (hlp : 0 ≤ lpl ∧ lpl ≤ 1) (hyd : n - J = yd) (hadj : adj = 0 ∨ adj = 1 ∨ adj = 2)
    (hM1 : 1 ≤ yd - mof + 1) (hM2 : yd - mof + 1 ≤ mle) (hmle : mle ≤ 31) (hS : J + mof = S) (hdd : n - S = dd) :
    (2 * J - 1).natAbs ≤ 1073741824 ∧ (2 * yd).natAbs ≤ 1073741824 ∧ (2 * S - 1).natAbs ≤ 1073741824 ∧ (2 * dd).natAbs ≤ 1073741824 ∧ (2 * yd + 2 * adj).natAbs ≤ 1073741824 ∧ ((2 * yd + 2 * adj) * 12).natAbs ≤ 1073741824 ∧ ((2 * yd + 2 * adj) * 12 + 2 * 373).natAbs ≤ 1073741824 ∧
      (0 ≤ yd ∧ yd ≤ 400) ∧ 2 * dd % 2 = 0 ∧ 2 * dd / 2 = dd ∧ 2 * n - 1 - (2 * S - 1) = 2 * dd ∧ (1 ≤ dd + 1 ∧ dd + 1 ≤ mle) ∧ J + mof + (dd + 1) - 1 = n ∧ 2 * n - 1 - (2 * J - 1) = 2 * yd := by
  have a2 : 0 ≤ adj ∧ adj ≤ 2 := by omega
  clear hadj
  refine ⟨nabE (by omega), nabE (by omega), nabE (by omega), nabE (by omega), nabE (by omega), nabE (by omega), nabE (by omega), ?_, ?_, ?_, ?_, ?_, ?_, ?_⟩
  all_goals omega
set_option maxRecDepth 100000 in
set_option maxHeartbeats 3000000 in
theorem c_fromjd {w : World} {p : Program} {loose : List Str} {mean : ExcName → Option Value} {mg mb : Str → Option Value} (x : UInt64) (n : Int) (t : Tok) (hn : -12000000 ≤ n ∧ n ≤ 16000000) (hFs : Fin (Float64.sub x 4602678819172646912)) (hfl : Flt.toInt Float64.floorOf (Float64.sub x 4602678819172646912) = n - 1) :
    Con w p loose mean mg mb (.ref 83) [.float x t] 4 (fun _ => True) (fun r tl => ∃ y m d t1 t2 t3 a, IsDate n y m d ∧ r = .ref a ∧ tl = [(a, tup3 y m d t1 t2 t3)]) := by
  unfold Con
  k_fill
  intro dp un gd cn cs a ccd cl outer A₀ base h₀ L m news s Q E Bq Fq Xq Nq Tq hk hpre hd hu hret
  w_on
  w_top on
  refine wpAny_call ?_
  k_dflt cell_enter
  rename_i g1 L1 h1 FG F1 N1 BB X1 T1
  have E1 : 2 * (n - 1) + 1 = 2 * n - 1 := by omega
  obtain ⟨e, he⟩ : ∃ e, n - 1721426 = e := ⟨_, rfl⟩
  have E2 : 2 * n - 1 - 3442851 = 2 * e := by omega
  obtain ⟨q, hq⟩ : ∃ q, e / 146097 = q := ⟨_, rfl⟩
  obtain ⟨r1, hr1⟩ : ∃ r1, e % 146097 = r1 := ⟨_, rfl⟩
  obtain ⟨c, hc⟩ : ∃ c, r1 / 36524 = c := ⟨_, rfl⟩
  obtain ⟨r2, hr2⟩ : ∃ r2, r1 % 36524 = r2 := ⟨_, rfl⟩
  obtain ⟨u, hu2⟩ : ∃ u, r2 / 1461 = u := ⟨_, rfl⟩
  obtain ⟨r3, hr3⟩ : ∃ r3, r2 % 1461 = r3 := ⟨_, rfl⟩
  obtain ⟨i, hi⟩ : ∃ i, r3 / 365 = i := ⟨_, rfl⟩
  have E3 : 2 * e / (2 * 146097) = q := by omega
  have E4 : 2 * e % (2 * 146097) = 2 * r1 := by omega
  have E5 : 2 * r1 / (2 * 36524) = c := by omega
  have E6 : 2 * r1 % (2 * 36524) = 2 * r2 := by omega
  have E7 : 2 * r2 / (2 * 1461) = u := by omega
  have E8 : 2 * r2 % (2 * 1461) = 2 * r3 := by omega
  have E9 : 2 * r3 / (2 * 365) = i := by omega
  have hY := year_of (n := n) (q := q) (r1 := r1) (by omega) (by omega) hc hr2 hu2 hr3 hi
  have b4 : 0 ≤ c ∧ c ≤ 4 := by omega
  have b5 : 0 ≤ u ∧ u ≤ 24 := by omega
  have b6 : 0 ≤ i ∧ i ≤ 4 := by omega
  have b7 : -100 ≤ q ∧ q ≤ 100 := by omega
  have B1 : (2 * n - 1).natAbs ≤ 1073741824 := by omega
  have B2 : (2 * e).natAbs ≤ 1073741824 := by omega
  have B3 : (2 * r1).natAbs ≤ 1073741824 := by omega
  have B4 : (2 * r2).natAbs ≤ 1073741824 := by omega
  have B5 : (2 * r3).natAbs ≤ 1073741824 := by omega
  have B6 : (n - 1).natAbs ≤ 549755813888 := by omega
  have D2 : 2 * e % 2 = 0 := by omega
  have D3 : 2 * r1 % 2 = 0 := by omega
  have D4 : 2 * r2 % 2 = 0 := by omega
  have D5 : 2 * r3 % 2 = 0 := by omega
  clear hq hr1 hc hr2 hu2 hr3 hi
  have P : ∃ Y J l, ((¬ (c = 4 ∨ i = 4) ∧ Y = q * 400 + c * 100 + u * 4 + i + 1) ∨ ((c = 4 ∨ i = 4) ∧ Y = q * 400 + c * 100 + u * 4 + i)) ∧ jan Y = J ∧ leapB Y = l ∧ 0 ≤ n - J ∧ n - J < 365 + lp l ∧ (-100000 ≤ Y ∧ Y ≤ 100000) ∧ ((c = 4 ∨ i = 4) → l = true ∧ n - J = 365) := by
    by_cases hci : c = 4 ∨ i = 4
    · have h2 := hY.2 hci
      have h3 := fj_a h2.1
      refine ⟨_, _, _, .inr ⟨hci, rfl⟩, rfl, rfl, h3.1, ?_, (fj_y b4 b5 b6 b7).1, fun _ => ⟨h2.2, h3.2⟩⟩
      rw [h2.2, h2.1]; unfold lp; rw [if_pos rfl]; exact fj_b _
    · have h1 := hY.1 hci
      have h3 := fj_c h1 (fj_lp (leapB (q * 400 + c * 100 + u * 4 + i + 1)))
      exact ⟨_, _, _, .inl ⟨hci, rfl⟩, rfl, rfl, h3.1, h3.2, (fj_y b4 b5 b6 b7).2, fun h => absurd h hci⟩
  obtain ⟨Y, J, l, hYE, hJ, hl, hlo, hhi, hYb, hYl⟩ := P
  clear hY b4 b5 b6 b7
  obtain ⟨yd, hyd⟩ : ∃ yd, n - J = yd := ⟨_, rfl⟩
  have hm1 : moff l 1 = 0 := by cases l <;> decide
  have K1 : 2 * (jan Y + moff (leapB Y) 1 + 1) - 3 = 2 * J - 1 := by rw [hJ, hl, hm1]; omega
  have hlp : 0 ≤ lp l ∧ lp l ≤ 1 := by cases l <;> decide
  obtain ⟨adj, hadj⟩ : ∃ adj, adj = if yd < 58 + lp l then 0 else if l then (1 : Int) else 2 := ⟨_, rfl⟩
  obtain ⟨mo, hmo⟩ : ∃ mo, ((2 * yd + 2 * adj) * 12 + 2 * 373) / (2 * 367) = mo := ⟨_, rfl⟩
  have hM := month_of l yd adj mo ⟨hyd ▸ hlo, hyd ▸ hhi⟩ hadj hmo
  have hM1 := hM.1
  obtain ⟨S, hS⟩ : ∃ S, J + moff l mo = S := ⟨_, rfl⟩
  have K3 : 2 * (jan Y + moff (leapB Y) mo + 1) - 3 = 2 * S - 1 := by rw [hJ, hl]; omega
  obtain ⟨dd, hdd⟩ : ∃ dd, n - S = dd := ⟨_, rfl⟩
  have hadjb : adj = 0 ∨ adj = 1 ∨ adj = 2 := by rw [hadj]; cases l <;> (split <;> simp)
  obtain ⟨B7, B8, B9, B10, B11, B12, B13, hyd0, D6, K5, K4, hd1, hd2, K2⟩ := fj_all hn hlo hhi hlp hyd hadjb hM.2.1 hM.2.2 (mlen_le l mo) hS hdd
  have hD : IsDate n Y mo (dd + 1) := by
    refine ⟨hM1, ?_, ?_⟩
    · rw [hl]; exact hd1
    · rw [hJ, hl]; exact hd2
  clear hd1 hd2
  clear hYl hM hyd hlo hhi hm1 hS hdd hadjb he hlp
  have hY3 := yr1 hYE
  clear hYE
  refine execs_cut [_, _, _, _, _, _, _, _, _, _, _] _ (Mid g1 L1 s news (fun m => ∃ t1 t2, m (Str.ofString "wjd") = some (.float (hf (2 * n - 1)) t1) ∧ m (Str.ofString "year") = some (.int Y t2))) ?_ ?_
  · w_strict k_steps
    all_goals (dsimp only)
    all_goals (refine Mid.intro (by k_asm) (by k_asm) ?_)
    · obtain rfl := hY3.1 (by assumption)
      with_unfolding_all exact ⟨_, _, rfl, rfl⟩
    · obtain rfl := hY3.2.1 (by assumption)
      with_unfolding_all exact ⟨_, _, rfl, rfl⟩
    · obtain rfl := hY3.2.2 (by assumption) (by assumption)
      with_unfolding_all exact ⟨_, _, rfl, rfl⟩
  rintro s' ⟨h2, tk2, m2, rfl, F2, N2, t1, t2, e1, e2⟩
  have F3 := fr_cast F2 (put_eq e2 (put_eq e1 rfl))
  clear F2 F1 N1 e1 e2 E3 E4 E5 E6 E7 E8 E9 hY3 D2 D3 D4 D5 B2 B3 B4 B5 B6
  obtain ⟨z, hz⟩ : ∃ z, (58 : Int) + (if l = true then (1 : Int) else 0) = z := ⟨_, rfl⟩
  have hz2 : z = 58 + lp l := by rw [← hz]; rfl
  have hA : (2 * yd < 2 * z → adj = 0) ∧ (¬ 2 * yd < 2 * z → l = true → adj = 1) ∧ (¬ 2 * yd < 2 * z → l = false → adj = 2) := by
    refine ⟨fun h => ?_, fun h g => ?_, fun h g => ?_⟩
    · rw [hadj, if_pos (by omega)]
    · rw [hadj, if_neg (by omega), if_pos g]
    · rw [hadj, if_neg (by omega), if_neg (by rw [g]; decide)]
  clear hadj
  refine execs_cut [_, _, _] _ (Mid g1 L1 s news (fun m => ∃ t1 t2 t3 t4, m (Str.ofString "wjd") = some (.float (hf (2 * n - 1)) t1) ∧ m (Str.ofString "year") = some (.int Y t2) ∧ m (Str.ofString "yearday") = some (.float (hf (2 * yd)) t3) ∧ m (Str.ofString "leap_adj") = some (.int adj t4))) ?_ ?_
  · w_strict k_steps
    all_goals (dsimp only)
    all_goals (refine Mid.intro (by k_asm) (by k_asm) ?_)
    all_goals w_strict (first | (obtain rfl := hA.1 (by assumption); with_unfolding_all exact ⟨_, _, _, _, rfl, rfl, rfl, rfl⟩) | (obtain rfl := hA.2.1 (by first | assumption | omega) (by first | assumption | simp_all); with_unfolding_all exact ⟨_, _, _, _, rfl, rfl, rfl, rfl⟩) | (obtain rfl := hA.2.2 (by first | assumption | omega) (by first | assumption | simp_all); with_unfolding_all exact ⟨_, _, _, _, rfl, rfl, rfl, rfl⟩))
  rintro s' ⟨h3, tk3, m3, rfl, F4, N4, t3, t4, t5, t6, e1, e2, e3, e4⟩
  have F5 := fr_cast F4 (put_eq e4 (put_eq e3 (put_eq e2 (put_eq e1 rfl))))
  clear F4 F3 N2 e1 e2 e3 e4
  w_strict k_steps
  all_goals (refine ret_tup hret (by assumption) (by assumption) (by assumption) ?_)
  all_goals assumption
end Mine
end
section
open PySem PySem.W PyProof.Rows
namespace Mine
/-- a row of new years: T p is the first day of the year p -/
structure Row (b : Int) (T : Int → Int) : Prop where
  lo : -20000 ≤ b
  hi : b ≤ 19999
  base : ∃ d, 0 ≤ d ∧ d ≤ 140 ∧ T b = 1948321 + 365 * (b - 1) + (8 * (b - 1)) / 33 + d - 40
  step : ∀ p, T (p + 1) = T p + 365 ∨ T (p + 1) = T p + 366
  near : ∀ p, T b + 365 * (p - b) ≤ T p ∧ T p ≤ T b + 365 * (p - b) + 10
theorem Row.spring {b : Int} {T : Int → Int} (R : Row b T) (p : Int) (h : b - 6 ≤ p ∧ p ≤ b + 16) : jan (p + 621) + 10 ≤ T p ∧ T p + 10 ≤ jan (p + 622) := by
  obtain ⟨d, h0, h1, hb⟩ := R.base
  have h2 := R.near p
  have h3 := R.lo
  have h4 := R.hi
  unfold jan
  omega
theorem Row.round {b : Int} {T : Int → Int} (R : Row b T) (p : Int) (h : b - 6 ≤ p ∧ p ≤ b + 16) :
    ((2 * (p - 1) - 1) * 524288 + 1) * 6425408712209331 ≤ (2 * (T p - 2) - 3896641) * 9223372036854775808 ∧ (2 * (T p - 2) - 3896641) * 9223372036854775808 ≤ ((2 * (p - 1) + 1) * 524288 - 1) * 6425408712209331 := by
  obtain ⟨d, h0, h1, hb⟩ := R.base
  have h2 := R.near p
  have h3 := R.lo
  have h4 := R.hi
  omega
theorem Row.small {b : Int} {T : Int → Int} (R : Row b T) (p : Int) (h : b - 6 ≤ p ∧ p ≤ b + 16) : -6000000 ≤ T p ∧ T p ≤ 10000000 := by
  obtain ⟨d, h0, h1, hb⟩ := R.base
  have h2 := R.near p
  have h3 := R.lo
  have h4 := R.hi
  omega
/-- the Gregorian year of a day in the year p -/
theorem Row.greg {b : Int} {T : Int → Int} (R : Row b T) {p n y : Int} (h : b - 5 ≤ p ∧ p ≤ b + 15) (h1 : T p - 3 ≤ n) (h2 : n < T (p + 1) + 3) (hy : jan y ≤ n ∧ n < jan (y + 1)) : y = p + 621 ∨ y = p + 622 := by
  have a := R.spring p (by omega)
  have c := R.spring (p + 1) (by omega)
  have e1 : p + 1 + 621 = p + 622 := by omega
  have e2 : p + 1 + 622 = p + 623 := by omega
  rw [e1, e2] at c
  have k1 : p + 621 ≤ y := by
    rcases Int.lt_or_le y (p + 621) with g | g
    · have := jan_mono (y + 1) (p + 621) (by omega); omega
    · exact g
  have k2 : y ≤ p + 622 := by
    rcases Int.lt_or_le (p + 622) y with g | g
    · have := jan_mono (p + 623) y (by omega); omega
    · exact g
  omega
/-- the first guess of to_jd, in units of 2^-20: what lies below and above the product -/
theorem Row.guess {b : Int} {T : Int → Int} (R : Row b T) (y v : Int) (h : b ≤ y ∧ y ≤ b + 11) (k1 : v * 16777216 ≤ 6425408712209331 * (y - 2)) (k2 : 6425408712209331 * (y - 2) ≤ (v + 1) * 16777216) :
    1048576 * (T (y - 2) - 1) ≤ 524288 * 3896639 + v - 2 ∧ 524288 * 3896639 + v + 4 < 1048576 * (T y - 1) := by
  obtain ⟨d, h0, h1, hb⟩ := R.base
  have h2 := R.near (y - 2)
  have h2' := R.near y
  have h3 := R.lo
  have h4 := R.hi
  omega


theorem news_tl {h₀ h : Heap} {L : Addr} {q : Addr × Obj} {news : List (Addr × Obj)} (N : News h₀ L h (q :: news)) : News h₀ L h news := fun p hp => N p (.tail _ hp)
section
variable {h₀ h' : Heap} {L : Addr} {m : Str → Option Value} {news : List (Addr × Obj)} {s : Shared} {Q : Value → Shared → Prop} {a k : Int} {t : Tok} {tk : Nat}
theorem ret_int (hret : ∀ r tl h' tk', Fr h₀ L h' m → News h₀ L h' (tl ++ news) → (∀ q ∈ news, ∀ p ∈ tl, q.1 < p.1) → (tl = [] ∧ ∃ t', r = .int k t') → Q r { s with heap := h', toks := tk' })
    (F : Fr h₀ L h' m) (N : News h₀ L h' news) (e : a = k) : Q (.int a t) { s with heap := h', toks := tk } := by
  subst e
  exact hret _ [] _ _ F (news_nil N) ord_nil ⟨rfl, _, rfl⟩
theorem ret_float (hret : ∀ r tl h' tk', Fr h₀ L h' m → News h₀ L h' (tl ++ news) → (∀ q ∈ news, ∀ p ∈ tl, q.1 < p.1) → (tl = [] ∧ ∃ t', r = .float (hf k) t') → Q r { s with heap := h', toks := tk' })
    (F : Fr h₀ L h' m) (N : News h₀ L h' news) (e : a = k) : Q (.float (hf a) t) { s with heap := h', toks := tk } := by
  subst e
  exact hret _ [] _ _ F (news_nil N) ord_nil ⟨rfl, _, rfl⟩
end
/-- what is known of the def that is handed in -/
structure TurnOk (w : World) (p : Program) (loose : List Str) (mean : ExcName → Option Value) (mg mb : Str → Option Value) (T : Int → Int) (tf : Addr) (P : List (Addr × Obj) → Prop) : Prop where
  fn : ∀ news, P news → ∃ oc od fd sl, (tf, (⟨oc, od, .func fd, sl⟩ : Obj)) ∈ news
  more : ∀ q news, P news → P (q :: news)
  con : ∀ (g : Int) (t : Tok) (k : Int), T (g - 621) - 1 = k → Con w p loose mean mg mb (.ref tf) [.int g t] 2 P (fun r tl => tl = [] ∧ ∃ t', r = .int k t')
end Mine
end
section
open PySem PySem.W PyProof.Rows
namespace Mine
local macro_rules | `(tactic| walk_at "no such step 0") => `(tactic| fail)
local macro_rules | `(tactic| walk_at "no such step 1") => `(tactic| fail)
local macro_rules | `(tactic| walk_at "no such step 2") => `(tactic| fail)
local macro_rules | `(tactic| walk_at "no such step 3") => `(tactic| fail)
local macro_rules | `(tactic| walk_at "no such step 4") => `(tactic| fail)
local macro_rules | `(tactic| walk_at "no such step 5") => `(tactic| fail)
local macro_rules | `(tactic| walk_at "no such step 6") => `(tactic| fail)
local macro_rules | `(tactic| walk_at "no such step 7") => `(tactic| fail)
local macro_rules | `(tactic| walk_at "no such step 8") => `(tactic| fail)
local macro_rules | `(tactic| walk_at "no such step 9") => `(tactic| fail)
local macro_rules | `(tactic| walk_at "no such step 10") => `(tactic| fail)
local macro_rules | `(tactic| walk_at "no such step 11") => `(tactic| fail)
local macro_rules | `(tactic| walk_at "no such step 12") => `(tactic| fail)
local macro_rules | `(tactic| walk_at "no such step 13") => `(tactic| fail)
local macro_rules | `(tactic| walk_at "no such step 14") => `(tactic| fail)
local macro_rules | `(tactic| walk_at "no such step 15") => `(tactic| fail)
local macro_rules | `(tactic| walk_at "no such step 16") => `(tactic| fail)
local macro_rules | `(tactic| walk_at "no such step 17") => `(tactic| fail)
local macro_rules | `(tactic| walk_at "no such step 18") => `(tactic| fail)
local macro_rules | `(tactic| walk_at "no such step 19") => `(tactic| fail)
local macro_rules | `(tactic| walk_at "no such step 20") => `(tactic| fail)
local macro_rules | `(tactic| walk_at "no such step 21") => `(tactic| fail)
local macro_rules | `(tactic| walk_at "no such step 22") => `(tactic| fail)
local macro_rules | `(tactic| walk_at "no such step 23") => `(tactic| fail)
local macro_rules | `(tactic| walk_at "no such step 24") => `(tactic| fail)
local macro_rules | `(tactic| walk_at "no such step 25") => `(tactic| fail)
local macro_rules | `(tactic| walk_at "no such step 26") => `(tactic| fail)
local macro_rules | `(tactic| walk_at "no such step 27") => `(tactic| fail)
local macro_rules | `(tactic| walk_at "no such step 28") => `(tactic| fail)
local macro_rules | `(tactic| walk_at "no such step 29") => `(tactic| fail)
local macro_rules | `(tactic| walk_at "no such step 30") => `(tactic| fail)
local macro_rules | `(tactic| walk_at "no such step 31") => `(tactic| fail)
local macro_rules | `(tactic| walk_at "no such step 32") => `(tactic| fail)
local macro_rules | `(tactic| walk_at "no such step 33") => `(tactic| fail)
local macro_rules | `(tactic| walk_at "no such step 34") => `(tactic| fail)
local macro_rules | `(tactic| walk_at "no such step 35") => `(tactic| fail)
local macro_rules | `(tactic| walk_at "no such step 36") => `(tactic| fail)
local macro_rules | `(tactic| walk_at "no such step 37") => `(tactic| fail)
local macro_rules | `(tactic| walk_at "no such step 38") => `(tactic| fail)
local macro_rules | `(tactic| walk_at "no such step 39") => `(tactic| fail)
local macro_rules | `(tactic| walk_at "binaryOp Sub float float") => `(tactic| (k_here; (with_reducible show wpAny _ _ (binaryOp _ (Value.float _ _) (Value.float _ _)) _ _ _); ((with_reducible refine' r_sub_ff ?hx ?hy ?ha ?hb ?e ?_); (case hx => (with_reducible (first | exact rfl | exact half_c | exact epg_c | exact epp_c))); (case hy => (with_reducible (first | exact rfl | exact half_c | exact epg_c | exact epp_c))); (case ha => k_dflt (first | with_reducible assumption | decide | omega)); (case hb => k_dflt (first | with_reducible assumption | decide | omega)); (case e => (first | with_reducible assumption | (k_dflt (exact rfl)))); k_whole)))
local macro_rules | `(tactic| walk_at "binaryOp Add float int") => `(tactic| (k_here; (with_reducible show wpAny _ _ (binaryOp _ (Value.float _ _) (Value.int _ _)) _ _ _); first | ((with_reducible refine' r_add_fi ?hx ?ha ?hn ?e ?_); (case hx => (with_reducible (first | exact rfl | exact half_c | exact epg_c | exact epp_c))); (case ha => k_dflt (first | with_reducible assumption | decide | omega)); (case hn => k_dflt (first | with_reducible assumption | decide | omega)); (case e => (first | with_reducible assumption | (k_dflt (exact rfl)))); k_whole) | ((with_reducible refine' r_add_xi ?hn ?_); (case hn => k_dflt (first | with_reducible assumption | decide | omega)); k_whole)))
local macro_rules | `(tactic| walk_at "binaryOp Sub float int") => `(tactic| (k_here; (with_reducible show wpAny _ _ (binaryOp _ (Value.float _ _) (Value.int _ _)) _ _ _); ((with_reducible refine' r_sub_fi ?hx ?ha ?hn ?e ?_); (case hx => (with_reducible (first | exact rfl | exact half_c | exact epg_c | exact epp_c))); (case ha => k_dflt (first | with_reducible assumption | decide | omega)); (case hn => k_dflt (first | with_reducible assumption | decide | omega)); (case e => (first | with_reducible assumption | (k_dflt (exact rfl)))); k_whole)))
local macro_rules | `(tactic| walk_at "binaryOp Add int float") => `(tactic| (k_here; (with_reducible show wpAny _ _ (binaryOp _ (Value.int _ _) (Value.float _ _)) _ _ _); ((with_reducible refine' r_add_if ?hx ?ha ?hn ?e ?_); (case hx => (with_reducible (first | exact rfl | exact half_c | exact epg_c | exact epp_c))); (case ha => k_dflt (first | with_reducible assumption | decide | omega)); (case hn => k_dflt (first | with_reducible assumption | decide | omega)); (case e => (first | with_reducible assumption | (k_dflt (exact rfl)))); k_whole)))
local macro_rules | `(tactic| walk_at "binaryOp Sub int float") => `(tactic| (k_here; (with_reducible show wpAny _ _ (binaryOp _ (Value.int _ _) (Value.float _ _)) _ _ _); ((with_reducible refine' r_sub_if ?hx ?ha ?hn ?e ?_); (case hx => (with_reducible (first | exact rfl | exact half_c | exact epg_c | exact epp_c))); (case ha => k_dflt (first | with_reducible assumption | decide | omega)); (case hn => k_dflt (first | with_reducible assumption | decide | omega)); (case e => (first | with_reducible assumption | (k_dflt (exact rfl)))); k_whole)))
local macro_rules | `(tactic| walk_at "binaryOp Mult float int") => `(tactic| (k_here; (with_reducible show wpAny _ _ (binaryOp _ (Value.float _ _) (Value.int _ _)) _ _ _); ((with_reducible refine' r_mul_fi ?hx ?ha ?hn ?hm ?e ?_); (case hx => (with_reducible (first | exact rfl | exact half_c | exact epg_c | exact epp_c))); (case ha => k_dflt (first | with_reducible assumption | decide | omega)); (case hn => k_dflt (first | with_reducible assumption | decide | omega)); (case hm => k_dflt (first | with_reducible assumption | decide | omega)); (case e => (first | with_reducible assumption | (k_dflt (exact rfl)))); k_whole)))
local macro_rules | `(tactic| walk_at "binaryOp Div float int") => `(tactic| (k_here; (with_reducible show wpAny _ _ (binaryOp _ (Value.float _ _) (Value.int _ _)) _ _ _); ((with_reducible refine' r_div_fi ?hn ?hm ?_); (case hn => k_dflt (first | with_reducible assumption | decide | omega)); (case hm => k_dflt (first | with_reducible assumption | decide | omega)); k_whole)))
local macro_rules | `(tactic| walk_at "binaryOp Mod float int") => `(tactic| (k_here; (with_reducible show wpAny _ _ (binaryOp _ (Value.float _ _) (Value.int _ _)) _ _ _); ((with_reducible refine' r_mod_fi ?hx ?ha ?he ?hn ?hm ?e ?_); (case hx => (with_reducible (first | exact rfl | exact half_c | exact epg_c | exact epp_c))); (case ha => k_dflt (first | with_reducible assumption | decide | omega)); (case he => k_dflt (first | with_reducible assumption | decide | omega)); (case hn => k_dflt (first | with_reducible assumption | decide | omega)); (case hm => k_dflt (first | with_reducible assumption | decide | omega)); (case e => (first | with_reducible assumption | (k_dflt (exact rfl)))); k_whole)))
local macro_rules | `(tactic| walk_at "binaryOp Div int int") => `(tactic| (k_here; (with_reducible show wpAny _ _ (binaryOp _ (Value.int _ _) (Value.int _ _)) _ _ _); ((with_reducible refine' r_div_ii ?hA ?ha ?hn ?hm ?_); (case hA => k_dflt (exact rfl)); (case ha => k_dflt (first | with_reducible assumption | decide | omega)); (case hn => k_dflt (first | with_reducible assumption | decide | omega)); (case hm => k_dflt (first | with_reducible assumption | decide | omega)); k_whole)))
local macro_rules | `(tactic| walk_at "call builtin:math.floor") => `(tactic| (k_here; (with_reducible show wpAny _ _ (call (Value.builtin "math.floor") [Value.float _ _]) _ _ _); first | ((with_reducible refine' r_floor_x ?hA ?hx ?e ?_); (case hA => k_dflt (exact rfl)); (case hx => with_reducible assumption); (case e => with_reducible assumption); k_whole) | ((with_reducible refine' r_floor_m ?hA ?hm ?hadj ?hd ?e ?_); (case hA => k_dflt (exact rfl)); (case hm => k_dflt (first | with_reducible assumption | decide | omega)); (case hadj => k_dflt omega); (case hd => k_dflt omega); (case e => (first | with_reducible assumption | (k_dflt (exact rfl)))); k_whole) | ((with_reducible refine' r_floor_q ?hA ?ha ?hn ?hm ?e ?_); (case hA => k_dflt (exact rfl)); (case ha => k_dflt (first | with_reducible assumption | decide | omega)); (case hn => k_dflt (first | with_reducible assumption | decide | omega)); (case hm => k_dflt (first | with_reducible assumption | decide | omega)); (case e => (first | with_reducible assumption | (k_dflt (exact rfl)))); k_whole) | ((with_reducible refine' r_floor_d ?hA ?hx ?ha ?hn ?hm ?e ?_); (case hA => k_dflt (exact rfl)); (case hx => with_reducible exact rfl); (case ha => k_dflt (first | with_reducible assumption | decide | omega)); (case hn => k_dflt (first | with_reducible assumption | decide | omega)); (case hm => k_dflt (first | with_reducible assumption | decide | omega)); (case e => (first | with_reducible assumption | (k_dflt (exact rfl)))); k_whole) | ((with_reducible refine' r_floor_h ?hA ?hx ?ha ?e ?_); (case hA => k_dflt (exact rfl)); (case hx => with_reducible exact rfl); (case ha => k_dflt (first | with_reducible assumption | decide | omega)); (case e => (first | with_reducible assumption | (k_dflt (exact rfl)))); k_whole)))
local macro_rules | `(tactic| walk_at "call builtin:math.ceil") => `(tactic| (k_here; (with_reducible show wpAny _ _ (call (Value.builtin "math.ceil") [Value.float _ _]) _ _ _); ((with_reducible refine' r_ceil_d ?hA ?hx ?ha ?hn ?hm ?e ?_); (case hA => k_dflt (exact rfl)); (case hx => with_reducible exact rfl); (case ha => k_dflt (first | with_reducible assumption | decide | omega)); (case hn => k_dflt (first | with_reducible assumption | decide | omega)); (case hm => k_dflt (first | with_reducible assumption | decide | omega)); (case e => (first | with_reducible assumption | (k_dflt (exact rfl)))); k_whole)))
local macro_rules | `(tactic| walk_at "call builtin:math.trunc") => `(tactic| (k_here; (with_reducible show wpAny _ _ (call (Value.builtin "math.trunc") [Value.float _ _]) _ _ _); ((with_reducible refine' r_trunc_h ?hA ?hx ?ha ?he ?e ?_); (case hA => k_dflt (exact rfl)); (case hx => with_reducible exact rfl); (case ha => k_dflt (first | with_reducible assumption | decide | omega)); (case he => k_dflt (first | with_reducible assumption | decide | omega)); (case e => (first | with_reducible assumption | (k_dflt (exact rfl)))); k_whole)))
local macro_rules | `(tactic| walk_at "call type:int") => `(tactic| (k_here; (with_reducible show wpAny _ _ (call (Value.type "int") [Value.float _ _]) _ _ _); ((with_reducible refine' r_int_h ?hA ?hx ?ha ?he ?e ?_); (case hA => k_dflt (exact rfl)); (case hx => with_reducible exact rfl); (case ha => k_dflt (first | with_reducible assumption | decide | omega)); (case he => k_dflt (first | with_reducible assumption | decide | omega)); (case e => (first | with_reducible assumption | (k_dflt (exact rfl)))); k_whole)))
local macro_rules | `(tactic| walk_at "compareOp Lt float int") => `(tactic| (k_here; (with_reducible show wpAny _ _ (compareOp _ (Value.float _ _) (Value.int _ _)) _ _ _); first | ((with_reducible refine' r_lt_fi ?hx ?ha ?e ?_); (case hx => with_reducible exact rfl); (case ha => k_dflt (first | with_reducible assumption | decide | omega)); (case e => (first | with_reducible assumption | (k_dflt (exact rfl)))); k_whole) | ((with_reducible refine' r_lt_xi ?hx ?e ?_); (case hx => assumption); (case e => (first | with_reducible assumption | (k_dflt (exact rfl)))); k_whole)))
local macro_rules | `(tactic| walk_at "compareOp LtE float int") => `(tactic| (k_here; (with_reducible show wpAny _ _ (compareOp _ (Value.float _ _) (Value.int _ _)) _ _ _); ((with_reducible refine' r_le_fi ?hx ?ha ?e ?_); (case hx => with_reducible exact rfl); (case ha => k_dflt (first | with_reducible assumption | decide | omega)); (case e => (first | with_reducible assumption | (k_dflt (exact rfl)))); k_whole)))
local macro_rules | `(tactic| walk_at "compareOp Gt float int") => `(tactic| (k_here; (with_reducible show wpAny _ _ (compareOp _ (Value.float _ _) (Value.int _ _)) _ _ _); ((with_reducible refine' r_gt_fi ?hx ?ha ?e ?_); (case hx => with_reducible exact rfl); (case ha => k_dflt (first | with_reducible assumption | decide | omega)); (case e => (first | with_reducible assumption | (k_dflt (exact rfl)))); k_whole)))
local macro_rules | `(tactic| walk_at "compareOp Gt int float") => `(tactic| (k_here; (with_reducible show wpAny _ _ (compareOp _ (Value.int _ _) (Value.float _ _)) _ _ _); ((with_reducible refine' r_gt_ix ?hx ?e ?_); (case hx => assumption); (case e => (first | with_reducible assumption | (k_dflt (exact rfl)))); k_whole)))
local macro_rules | `(tactic| walk_at "compareOp LtE int float") => `(tactic| (k_here; (with_reducible show wpAny _ _ (compareOp _ (Value.int _ _) (Value.float _ _)) _ _ _); ((with_reducible refine' r_le_ix ?hx ?e ?_); (case hx => assumption); (case e => (first | with_reducible assumption | (k_dflt (exact rfl)))); k_whole)))
local macro_rules | `(tactic| walk_at "compareOp NotEq float float") => `(tactic| (k_here; (with_reducible show wpAny _ _ (compareOp _ (Value.float _ _) (Value.float _ _)) _ _ _); ((with_reducible refine' r_ne_ff ?hx ?hy ?ha ?hb ?_); (case hx => with_reducible exact rfl); (case hy => with_reducible exact rfl); (case ha => k_dflt (first | with_reducible assumption | decide | omega)); (case hb => k_dflt (first | with_reducible assumption | decide | omega)); k_whole)))
local macro_rules | `(tactic| walk_at "compareOp In int ref") => `(tactic| (k_here; (with_reducible show wpAny _ _ (compareOp _ (Value.int _ _) (Value.ref _)) _ _ _); ((with_reducible refine' in_tupK ?F ?X ?l ?i ?b ?_); (case F => k_asm); (case X => k_asm); (case l => k_is); (case i => (repeat constructor)); (case b => assumption); k_whole)))
local macro_rules | `(tactic| walk_at "compareOp Eq int int") => `(tactic| (k_here; with_reducible (first | refine r_eq_y (by assumption) ?_ | refine r_eq_n (by assumption) ?_)))
local macro_rules | `(tactic| walk_at "compareOp NotEq int int") => `(tactic| (k_here; with_reducible (first | refine r_ne_y (by assumption) ?_ | refine r_ne_n (by assumption) ?_)))
local macro_rules | `(tactic| walk_at "compareOp Lt int int") => `(tactic| (k_here; with_reducible (first | refine r_lt_y (by assumption) ?_ | refine r_lt_n (by assumption) ?_)))
local macro_rules | `(tactic| walk_at "compareOp LtE int int") => `(tactic| (k_here; with_reducible (first | refine r_le_y (by assumption) ?_ | refine r_le_n (by assumption) ?_)))
local macro_rules | `(tactic| walk_at "compareOp Gt int int") => `(tactic| (k_here; with_reducible (first | refine r_gt_y (by assumption) ?_ | refine r_gt_n (by assumption) ?_)))
local macro_rules | `(tactic| walk_at "binaryOp Add int bool") => `(tactic| (k_here; with_reducible (refine r_add_ib (by assumption) ?_)))
local macro_rules | `(tactic| walk_at "binaryOp Mult int int") => `(tactic| (k_here; first | (refine r_mul_r (by decide) ?_) | (refine r_mul_l (by decide) ?_) | (refine r_mul_r (by assumption) ?_) | (refine r_mul_l (by assumption) ?_)))
local macro_rules | `(tactic| walk_at "callWith ref") => `(tactic| (k_here; k_dflt (refine' callWith_F ?k1 ?_; (case k1 => exact FnAt.of (by k_asm) (by (first | assumption | exact List.mem_cons_of_mem _ (by assumption) | exact List.mem_cons_of_mem _ (List.mem_cons_of_mem _ (by assumption)) | exact List.mem_cons_of_mem _ (List.mem_cons_of_mem _ (List.mem_cons_of_mem _ (by assumption)))))); k_whole)))
local macro_rules | `(tactic| walk_at "FnAt") => `(tactic| (k_dflt (exact FnAt.of (by k_asm) (by (first | assumption | exact List.mem_cons_of_mem _ (by assumption) | exact List.mem_cons_of_mem _ (List.mem_cons_of_mem _ (by assumption)) | exact List.mem_cons_of_mem _ (List.mem_cons_of_mem _ (List.mem_cons_of_mem _ (by assumption))))))))
local macro_rules | `(tactic| walk_at "call ref") => `(tactic| (k_here; with_reducible refine nil_app ?_))
local macro_rules | `(tactic| walk_at "binaryOp Div float float") => `(tactic| (k_here; with_reducible (refine r_div_TY rfl ?_)))
local macro_rules | `(tactic| walk_at "call builtin:round") => `(tactic| (k_here; (with_reducible show wpAny _ _ (call (Value.builtin "round") [Value.float _ _]) _ _ _); ((with_reducible refine' r_round_TY ?hA ?hx ?hy ?ha ?hn ?h1 ?h2 ?_); (case hA => k_dflt (exact rfl)); (case hx => with_reducible exact rfl); (case hy => exact TY_c); (case h1 => with_reducible assumption); (case h2 => with_reducible assumption); (case ha => k_dflt (first | with_reducible assumption | omega)); (case hn => k_dflt (first | with_reducible assumption | omega)); k_whole)))
local macro_rules | `(tactic| walk_at "exec While") => `(tactic| (k_here; k_dflt (refine whl_start 100 ?_)))
local macro_rules | `(tactic| walk_at "call ref") => `(tactic| (k_here; (with_reducible show wpAny _ _ (call (Value.ref _) [Value.int _ _]) _ _ _); (refine' con_use (TurnOk.con (by assumption) _ _ _ (by with_reducible assumption)) ?k1 ?k2 ?k3 ?k4 ?k5 ?kK ?kp ?kd ?ku ?_; (case k1 => k_asm); (case k2 => k_asm); (case k3 => k_asm); (case k4 => k_asm); (case k5 => k_asm); (case kK => first | exact rfl | assumption); (case kp => (first | assumption | exact TurnOk.more (by assumption) _ _ (by assumption))); (case kd => ktr_room); (case ku => ktr_units)); intro r9 tl9 h9 tk9 F9 N9 l9 ho9; obtain ⟨e9, t9, ho9⟩ := ho9; subst e9; subst ho9; clear l9; (dsimp only [List.nil_append] at N9); (try dsimp only); (try k_fold)))
local macro_rules | `(tactic| walk_at "call ref") => `(tactic| (k_here; (with_reducible show wpAny _ _ (call (Value.ref 83) [Value.float _ _]) _ _ _); (refine' con_use (c_fromjd _ _ _ (by first | assumption | omega) (by assumption) (by assumption)) ?k1 ?k2 ?k3 ?k4 ?k5 ?kK ?kp ?kd ?ku ?_; (case k1 => k_asm); (case k2 => k_asm); (case k3 => k_asm); (case k4 => k_asm); (case k5 => k_asm); (case kK => first | exact rfl | assumption); (case kp => trivial); (case kd => ktr_room); (case ku => ktr_units)); intro r9 tl9 h9 tk9 F9 N9 l9 ho9; obtain ⟨y9, m9, d9, t91, t92, t93, a9, hd9, e9, ho9⟩ := ho9; subst e9; subst ho9; clear l9; (dsimp only [List.cons_append, List.nil_append, tup3] at N9); (have hy9 := Row.greg (by assumption) (by assumption) (by assumption) (by assumption) (date_year hd9)); clear hd9; (rcases hy9 with hy9 | hy9 <;> subst hy9); (try dsimp only); (try k_fold)))
set_option maxRecDepth 100000 in
set_option maxHeartbeats 3000000 in
theorem c_lasteq {w : World} {p : Program} {loose : List Str} {mean : ExcName → Option Value} {mg mb : Str → Option Value} {b : Int} {T : Int → Int} {tf : Addr} {P : List (Addr × Obj) → Prop} (R : Row b T) (TO : TurnOk w p loose mean mg mb T tf P) (x : UInt64) (t : Tok) (pp n : Int) (hb : b - 5 ≤ pp ∧ pp ≤ b + 15)
    (hFx : Fin x) (hFs : Fin (Float64.sub x 4602678819172646912)) (hfl : Flt.toInt Float64.floorOf (Float64.sub x 4602678819172646912) = n - 1) (hn1 : 1048576 * (n - 2) ≤ Mine.w x ∧ Mine.w x < 1048576 * (n + 2))
    (hx : 1048576 * (T pp - 1) ≤ Mine.w x ∧ Mine.w x < 1048576 * (T (pp + 1) - 1)) {k : Int} (hk : T pp - 2 = k) :
    Con w p loose mean mg mb (.ref 99) [.float x t, .ref tf] 6 P (fun r tl => tl = [] ∧ ∃ t', r = .int k t') := by
  unfold Con
  k_fill
  intro dp un gd cn cs a ccd cl outer A₀ base h₀ L m news s Q E Bq Fq Xq Nq Tq hk hpre hd hu hret
  w_on
  w_top on
  refine wpAny_call ?_
  k_dflt cell_enter
  rename_i g1 L1 h1 FG F1 N1 BB X1 T1
  obtain ⟨oc, od, fd, sl, hmem⟩ := TO.fn news hpre
  have s1 := R.small pp (by omega)
  have s2 := R.small (pp + 1) (by omega)
  have hn : -12000000 ≤ n ∧ n ≤ 16000000 := by omega
  have g1' : T pp - 3 ≤ n := by omega
  have g2' : n < T (pp + 1) + 3 := by omega
  obtain ⟨e0, he0⟩ : ∃ e0, T pp - 1 = e0 := ⟨_, rfl⟩
  obtain ⟨e1, he1⟩ : ∃ e1, T (pp + 1) - 1 = e1 := ⟨_, rfl⟩
  have F0 : T (pp + 621 - 621) - 1 = e0 := by rw [show pp + 621 - 621 = pp by omega]; exact he0
  have F1' : T (pp + 622 - 621) - 1 = e1 := by rw [show pp + 622 - 621 = pp + 1 by omega]; exact he1
  have F2 : T (pp + 622 - 1 - 621) - 1 = e0 := by rw [show pp + 622 - 1 - 621 = pp by omega]; exact he0
  have F3 : T (pp + 621 + 1 - 621) - 1 = e1 := by rw [show pp + 621 + 1 - 621 = pp + 1 by omega]; exact he1
  have F4 : T (pp + 622 - 1 + 1 - 621) - 1 = e1 := by rw [show pp + 622 - 1 + 1 - 621 = pp + 1 by omega]; exact he1
  have W0 : decide (Mine.w x < 1048576 * e0) = false := by simp; omega
  have W1 : decide (Mine.w x < 1048576 * e1) = true := by simp; omega
  have W2 : decide (1048576 * e0 ≤ Mine.w x) = true := by simp; omega
  have W3 : decide (Mine.w x < 1048576 * (e0 - 1)) = false := by simp; omega
  have W4 : decide (1048576 * (e0 - 1) ≤ Mine.w x) = true := by simp; omega
  have hke : e0 - 1 = k := by omega
  clear s1 s2 hx hn1 he0 he1 hk
  w_strict k_steps
  all_goals (refine ret_int hret (by assumption) (news_tl (by assumption)) hke)
end Mine
end
section
open PySem PySem.W PyProof.Rows
namespace Mine
local macro_rules | `(tactic| walk_at "binaryOp Sub float float") => `(tactic| (k_here; (with_reducible show wpAny _ _ (binaryOp _ (Value.float _ _) (Value.float _ _)) _ _ _); ((with_reducible refine' r_sub_ff ?hx ?hy ?ha ?hb ?e ?_); (case hx => (with_reducible (first | exact rfl | exact half_c | exact epg_c | exact epp_c))); (case hy => (with_reducible (first | exact rfl | exact half_c | exact epg_c | exact epp_c))); (case ha => k_dflt (first | with_reducible assumption | decide | omega)); (case hb => k_dflt (first | with_reducible assumption | decide | omega)); (case e => (first | with_reducible assumption | (k_dflt (exact rfl)))); k_whole)))
local macro_rules | `(tactic| walk_at "binaryOp Add float int") => `(tactic| (k_here; (with_reducible show wpAny _ _ (binaryOp _ (Value.float _ _) (Value.int _ _)) _ _ _); first | ((with_reducible refine' r_add_fi ?hx ?ha ?hn ?e ?_); (case hx => (with_reducible (first | exact rfl | exact half_c | exact epg_c | exact epp_c))); (case ha => k_dflt (first | with_reducible assumption | decide | omega)); (case hn => k_dflt (first | with_reducible assumption | decide | omega)); (case e => (first | with_reducible assumption | (k_dflt (exact rfl)))); k_whole) | ((with_reducible refine' r_add_xi ?hn ?_); (case hn => k_dflt (first | with_reducible assumption | decide | omega)); k_whole)))
local macro_rules | `(tactic| walk_at "binaryOp Sub float int") => `(tactic| (k_here; (with_reducible show wpAny _ _ (binaryOp _ (Value.float _ _) (Value.int _ _)) _ _ _); ((with_reducible refine' r_sub_fi ?hx ?ha ?hn ?e ?_); (case hx => (with_reducible (first | exact rfl | exact half_c | exact epg_c | exact epp_c))); (case ha => k_dflt (first | with_reducible assumption | decide | omega)); (case hn => k_dflt (first | with_reducible assumption | decide | omega)); (case e => (first | with_reducible assumption | (k_dflt (exact rfl)))); k_whole)))
local macro_rules | `(tactic| walk_at "binaryOp Add int float") => `(tactic| (k_here; (with_reducible show wpAny _ _ (binaryOp _ (Value.int _ _) (Value.float _ _)) _ _ _); ((with_reducible refine' r_add_if ?hx ?ha ?hn ?e ?_); (case hx => (with_reducible (first | exact rfl | exact half_c | exact epg_c | exact epp_c))); (case ha => k_dflt (first | with_reducible assumption | decide | omega)); (case hn => k_dflt (first | with_reducible assumption | decide | omega)); (case e => (first | with_reducible assumption | (k_dflt (exact rfl)))); k_whole)))
local macro_rules | `(tactic| walk_at "binaryOp Sub int float") => `(tactic| (k_here; (with_reducible show wpAny _ _ (binaryOp _ (Value.int _ _) (Value.float _ _)) _ _ _); ((with_reducible refine' r_sub_if ?hx ?ha ?hn ?e ?_); (case hx => (with_reducible (first | exact rfl | exact half_c | exact epg_c | exact epp_c))); (case ha => k_dflt (first | with_reducible assumption | decide | omega)); (case hn => k_dflt (first | with_reducible assumption | decide | omega)); (case e => (first | with_reducible assumption | (k_dflt (exact rfl)))); k_whole)))
local macro_rules | `(tactic| walk_at "binaryOp Mult float int") => `(tactic| (k_here; (with_reducible show wpAny _ _ (binaryOp _ (Value.float _ _) (Value.int _ _)) _ _ _); ((with_reducible refine' r_mul_fi ?hx ?ha ?hn ?hm ?e ?_); (case hx => (with_reducible (first | exact rfl | exact half_c | exact epg_c | exact epp_c))); (case ha => k_dflt (first | with_reducible assumption | decide | omega)); (case hn => k_dflt (first | with_reducible assumption | decide | omega)); (case hm => k_dflt (first | with_reducible assumption | decide | omega)); (case e => (first | with_reducible assumption | (k_dflt (exact rfl)))); k_whole)))
local macro_rules | `(tactic| walk_at "binaryOp Div float int") => `(tactic| (k_here; (with_reducible show wpAny _ _ (binaryOp _ (Value.float _ _) (Value.int _ _)) _ _ _); ((with_reducible refine' r_div_fi ?hn ?hm ?_); (case hn => k_dflt (first | with_reducible assumption | decide | omega)); (case hm => k_dflt (first | with_reducible assumption | decide | omega)); k_whole)))
local macro_rules | `(tactic| walk_at "binaryOp Mod float int") => `(tactic| (k_here; (with_reducible show wpAny _ _ (binaryOp _ (Value.float _ _) (Value.int _ _)) _ _ _); ((with_reducible refine' r_mod_fi ?hx ?ha ?he ?hn ?hm ?e ?_); (case hx => (with_reducible (first | exact rfl | exact half_c | exact epg_c | exact epp_c))); (case ha => k_dflt (first | with_reducible assumption | decide | omega)); (case he => k_dflt (first | with_reducible assumption | decide | omega)); (case hn => k_dflt (first | with_reducible assumption | decide | omega)); (case hm => k_dflt (first | with_reducible assumption | decide | omega)); (case e => (first | with_reducible assumption | (k_dflt (exact rfl)))); k_whole)))
local macro_rules | `(tactic| walk_at "binaryOp Div int int") => `(tactic| (k_here; (with_reducible show wpAny _ _ (binaryOp _ (Value.int _ _) (Value.int _ _)) _ _ _); ((with_reducible refine' r_div_ii ?hA ?ha ?hn ?hm ?_); (case hA => k_dflt (exact rfl)); (case ha => k_dflt (first | with_reducible assumption | decide | omega)); (case hn => k_dflt (first | with_reducible assumption | decide | omega)); (case hm => k_dflt (first | with_reducible assumption | decide | omega)); k_whole)))
local macro_rules | `(tactic| walk_at "call builtin:math.floor") => `(tactic| (k_here; (with_reducible show wpAny _ _ (call (Value.builtin "math.floor") [Value.float _ _]) _ _ _); first | ((with_reducible refine' r_floor_x ?hA ?hx ?e ?_); (case hA => k_dflt (exact rfl)); (case hx => with_reducible assumption); (case e => with_reducible assumption); k_whole) | ((with_reducible refine' r_floor_m ?hA ?hm ?hadj ?hd ?e ?_); (case hA => k_dflt (exact rfl)); (case hm => k_dflt (first | with_reducible assumption | decide | omega)); (case hadj => k_dflt omega); (case hd => k_dflt omega); (case e => (first | with_reducible assumption | (k_dflt (exact rfl)))); k_whole) | ((with_reducible refine' r_floor_q ?hA ?ha ?hn ?hm ?e ?_); (case hA => k_dflt (exact rfl)); (case ha => k_dflt (first | with_reducible assumption | decide | omega)); (case hn => k_dflt (first | with_reducible assumption | decide | omega)); (case hm => k_dflt (first | with_reducible assumption | decide | omega)); (case e => (first | with_reducible assumption | (k_dflt (exact rfl)))); k_whole) | ((with_reducible refine' r_floor_d ?hA ?hx ?ha ?hn ?hm ?e ?_); (case hA => k_dflt (exact rfl)); (case hx => with_reducible exact rfl); (case ha => k_dflt (first | with_reducible assumption | decide | omega)); (case hn => k_dflt (first | with_reducible assumption | decide | omega)); (case hm => k_dflt (first | with_reducible assumption | decide | omega)); (case e => (first | with_reducible assumption | (k_dflt (exact rfl)))); k_whole) | ((with_reducible refine' r_floor_h ?hA ?hx ?ha ?e ?_); (case hA => k_dflt (exact rfl)); (case hx => with_reducible exact rfl); (case ha => k_dflt (first | with_reducible assumption | decide | omega)); (case e => (first | with_reducible assumption | (k_dflt (exact rfl)))); k_whole)))
local macro_rules | `(tactic| walk_at "call builtin:math.ceil") => `(tactic| (k_here; (with_reducible show wpAny _ _ (call (Value.builtin "math.ceil") [Value.float _ _]) _ _ _); ((with_reducible refine' r_ceil_d ?hA ?hx ?ha ?hn ?hm ?e ?_); (case hA => k_dflt (exact rfl)); (case hx => with_reducible exact rfl); (case ha => k_dflt (first | with_reducible assumption | decide | omega)); (case hn => k_dflt (first | with_reducible assumption | decide | omega)); (case hm => k_dflt (first | with_reducible assumption | decide | omega)); (case e => (first | with_reducible assumption | (k_dflt (exact rfl)))); k_whole)))
local macro_rules | `(tactic| walk_at "call builtin:math.trunc") => `(tactic| (k_here; (with_reducible show wpAny _ _ (call (Value.builtin "math.trunc") [Value.float _ _]) _ _ _); ((with_reducible refine' r_trunc_h ?hA ?hx ?ha ?he ?e ?_); (case hA => k_dflt (exact rfl)); (case hx => with_reducible exact rfl); (case ha => k_dflt (first | with_reducible assumption | decide | omega)); (case he => k_dflt (first | with_reducible assumption | decide | omega)); (case e => (first | with_reducible assumption | (k_dflt (exact rfl)))); k_whole)))
local macro_rules | `(tactic| walk_at "call type:int") => `(tactic| (k_here; (with_reducible show wpAny _ _ (call (Value.type "int") [Value.float _ _]) _ _ _); ((with_reducible refine' r_int_h ?hA ?hx ?ha ?he ?e ?_); (case hA => k_dflt (exact rfl)); (case hx => with_reducible exact rfl); (case ha => k_dflt (first | with_reducible assumption | decide | omega)); (case he => k_dflt (first | with_reducible assumption | decide | omega)); (case e => (first | with_reducible assumption | (k_dflt (exact rfl)))); k_whole)))
local macro_rules | `(tactic| walk_at "compareOp Lt float int") => `(tactic| (k_here; (with_reducible show wpAny _ _ (compareOp _ (Value.float _ _) (Value.int _ _)) _ _ _); first | ((with_reducible refine' r_lt_fi ?hx ?ha ?e ?_); (case hx => with_reducible exact rfl); (case ha => k_dflt (first | with_reducible assumption | decide | omega)); (case e => (first | with_reducible assumption | (k_dflt (exact rfl)))); k_whole) | ((with_reducible refine' r_lt_xi ?hx ?e ?_); (case hx => assumption); (case e => (first | with_reducible assumption | (k_dflt (exact rfl)))); k_whole)))
local macro_rules | `(tactic| walk_at "compareOp LtE float int") => `(tactic| (k_here; (with_reducible show wpAny _ _ (compareOp _ (Value.float _ _) (Value.int _ _)) _ _ _); ((with_reducible refine' r_le_fi ?hx ?ha ?e ?_); (case hx => with_reducible exact rfl); (case ha => k_dflt (first | with_reducible assumption | decide | omega)); (case e => (first | with_reducible assumption | (k_dflt (exact rfl)))); k_whole)))
local macro_rules | `(tactic| walk_at "compareOp Gt float int") => `(tactic| (k_here; (with_reducible show wpAny _ _ (compareOp _ (Value.float _ _) (Value.int _ _)) _ _ _); ((with_reducible refine' r_gt_fi ?hx ?ha ?e ?_); (case hx => with_reducible exact rfl); (case ha => k_dflt (first | with_reducible assumption | decide | omega)); (case e => (first | with_reducible assumption | (k_dflt (exact rfl)))); k_whole)))
local macro_rules | `(tactic| walk_at "compareOp Gt int float") => `(tactic| (k_here; (with_reducible show wpAny _ _ (compareOp _ (Value.int _ _) (Value.float _ _)) _ _ _); ((with_reducible refine' r_gt_ix ?hx ?e ?_); (case hx => assumption); (case e => (first | with_reducible assumption | (k_dflt (exact rfl)))); k_whole)))
local macro_rules | `(tactic| walk_at "compareOp LtE int float") => `(tactic| (k_here; (with_reducible show wpAny _ _ (compareOp _ (Value.int _ _) (Value.float _ _)) _ _ _); ((with_reducible refine' r_le_ix ?hx ?e ?_); (case hx => assumption); (case e => (first | with_reducible assumption | (k_dflt (exact rfl)))); k_whole)))
local macro_rules | `(tactic| walk_at "compareOp NotEq float float") => `(tactic| (k_here; (with_reducible show wpAny _ _ (compareOp _ (Value.float _ _) (Value.float _ _)) _ _ _); ((with_reducible refine' r_ne_ff ?hx ?hy ?ha ?hb ?_); (case hx => with_reducible exact rfl); (case hy => with_reducible exact rfl); (case ha => k_dflt (first | with_reducible assumption | decide | omega)); (case hb => k_dflt (first | with_reducible assumption | decide | omega)); k_whole)))
local macro_rules | `(tactic| walk_at "compareOp In int ref") => `(tactic| (k_here; (with_reducible show wpAny _ _ (compareOp _ (Value.int _ _) (Value.ref _)) _ _ _); ((with_reducible refine' in_tupK ?F ?X ?l ?i ?b ?_); (case F => k_asm); (case X => k_asm); (case l => k_is); (case i => (repeat constructor)); (case b => assumption); k_whole)))
local macro_rules | `(tactic| walk_at "compareOp Eq int int") => `(tactic| (k_here; with_reducible (first | refine r_eq_y (by assumption) ?_ | refine r_eq_n (by assumption) ?_)))
local macro_rules | `(tactic| walk_at "compareOp NotEq int int") => `(tactic| (k_here; with_reducible (first | refine r_ne_y (by assumption) ?_ | refine r_ne_n (by assumption) ?_)))
local macro_rules | `(tactic| walk_at "compareOp Lt int int") => `(tactic| (k_here; with_reducible (first | refine r_lt_y (by assumption) ?_ | refine r_lt_n (by assumption) ?_)))
local macro_rules | `(tactic| walk_at "compareOp LtE int int") => `(tactic| (k_here; with_reducible (first | refine r_le_y (by assumption) ?_ | refine r_le_n (by assumption) ?_)))
local macro_rules | `(tactic| walk_at "compareOp Gt int int") => `(tactic| (k_here; with_reducible (first | refine r_gt_y (by assumption) ?_ | refine r_gt_n (by assumption) ?_)))
local macro_rules | `(tactic| walk_at "binaryOp Add int bool") => `(tactic| (k_here; with_reducible (refine r_add_ib (by assumption) ?_)))
local macro_rules | `(tactic| walk_at "binaryOp Mult int int") => `(tactic| (k_here; first | (refine r_mul_r (by decide) ?_) | (refine r_mul_l (by decide) ?_) | (refine r_mul_r (by assumption) ?_) | (refine r_mul_l (by assumption) ?_)))
local macro_rules | `(tactic| walk_at "callWith ref") => `(tactic| (k_here; k_dflt (refine' callWith_F ?k1 ?_; (case k1 => exact FnAt.of (by k_asm) (by (first | assumption | exact List.mem_cons_of_mem _ (by assumption) | exact List.mem_cons_of_mem _ (List.mem_cons_of_mem _ (by assumption)) | exact List.mem_cons_of_mem _ (List.mem_cons_of_mem _ (List.mem_cons_of_mem _ (by assumption)))))); k_whole)))
local macro_rules | `(tactic| walk_at "FnAt") => `(tactic| (k_dflt (exact FnAt.of (by k_asm) (by (first | assumption | exact List.mem_cons_of_mem _ (by assumption) | exact List.mem_cons_of_mem _ (List.mem_cons_of_mem _ (by assumption)) | exact List.mem_cons_of_mem _ (List.mem_cons_of_mem _ (List.mem_cons_of_mem _ (by assumption))))))))
local macro_rules | `(tactic| walk_at "call ref") => `(tactic| (k_here; with_reducible refine nil_app ?_))
local macro_rules | `(tactic| walk_at "binaryOp Div float float") => `(tactic| (k_here; with_reducible (refine r_div_TY rfl ?_)))
local macro_rules | `(tactic| walk_at "call builtin:round") => `(tactic| (k_here; (with_reducible show wpAny _ _ (call (Value.builtin "round") [Value.float _ _]) _ _ _); ((with_reducible refine' r_round_TY ?hA ?hx ?hy ?ha ?hn ?h1 ?h2 ?_); (case hA => k_dflt (exact rfl)); (case hx => with_reducible exact rfl); (case hy => exact TY_c); (case h1 => with_reducible assumption); (case h2 => with_reducible assumption); (case ha => k_dflt (first | with_reducible assumption | omega)); (case hn => k_dflt (first | with_reducible assumption | omega)); k_whole)))
local macro_rules | `(tactic| walk_at "call ref") => `(tactic| (k_here; (with_reducible show wpAny _ _ (call (Value.ref 99) [Value.float _ _, Value.ref _]) _ _ _); (refine' con_use (c_lasteq (by assumption) (by assumption) _ _ _ _ (by assumption) (by assumption) (by assumption) (by assumption) (by assumption) (by assumption) (by with_reducible assumption)) ?k1 ?k2 ?k3 ?k4 ?k5 ?kK ?kp ?kd ?ku ?_; (case k1 => k_asm); (case k2 => k_asm); (case k3 => k_asm); (case k4 => k_asm); (case k5 => k_asm); (case kK => first | exact rfl | assumption); (case kp => (first | assumption | exact TurnOk.more (by assumption) _ _ (by assumption))); (case kd => ktr_room); (case ku => ktr_units)); intro r9 tl9 h9 tk9 F9 N9 l9 ho9; obtain ⟨e9, t9, ho9⟩ := ho9; subst e9; subst ho9; clear l9; (dsimp only [List.nil_append] at N9); (try dsimp only); (try k_fold)))
def tup2 (y m : Int) (t1 t2 : Tok) : Obj := ⟨.type "tuple", none, .seq #[.int y t1, .int m t2] 0, #[]⟩
theorem ret_tup2 {h₀ h' : Heap} {L : Addr} {m : Str → Option Value} {news : List (Addr × Obj)} {s : Shared} {Q : Value → Shared → Prop} {y y' d : Int} {a : Addr} {t1 t2 : Tok} {tk : Nat}
    (hret : ∀ r tl h' tk', Fr h₀ L h' m → News h₀ L h' (tl ++ news) → (∀ q ∈ news, ∀ p ∈ tl, q.1 < p.1) → (∃ t1 t2 a, r = .ref a ∧ tl = [(a, tup2 y d t1 t2)]) → Q r { s with heap := h', toks := tk' })
    (F : Fr h₀ L h' m) (N : News h₀ L h' ((a, tup2 y' d t1 t2) :: news)) (l : ∀ q ∈ news, q.1 < a) (e : y' = y) : Q (.ref a) { s with heap := h', toks := tk } := by
  subst e
  exact hret _ [(a, tup2 y' d t1 t2)] _ _ F N (fun q hq p hp => by rw [List.mem_singleton.mp hp]; exact l q hq) ⟨t1, t2, a, rfl, rfl⟩
set_option maxRecDepth 100000 in
set_option maxHeartbeats 3000000 in
theorem c_pyear {w : World} {p : Program} {loose : List Str} {mean : ExcName → Option Value} {mg mb : Str → Option Value} {b : Int} {T : Int → Int} {tf : Addr} {P : List (Addr × Obj) → Prop} (R : Row b T) (TO : TurnOk w p loose mean mg mb T tf P) (x : UInt64) (t : Tok) (pp n : Int) (hb : b - 5 ≤ pp ∧ pp ≤ b + 15)
    (hFx : Fin x) (hFs : Fin (Float64.sub x 4602678819172646912)) (hfl : Flt.toInt Float64.floorOf (Float64.sub x 4602678819172646912) = n - 1) (hn1 : 1048576 * (n - 2) ≤ Mine.w x ∧ Mine.w x < 1048576 * (n + 2))
    (hx : 1048576 * (T pp - 1) ≤ Mine.w x ∧ Mine.w x < 1048576 * (T (pp + 1) - 1)) :
    Con w p loose mean mg mb (.ref 106) [.float x t, .ref tf] 8 P (fun r tl => ∃ t1 t2 a, r = .ref a ∧ tl = [(a, tup2 pp (T pp - 2) t1 t2)]) := by
  unfold Con
  k_fill
  intro dp un gd cn cs a ccd cl outer A₀ base h₀ L m news s Q E Bq Fq Xq Nq Tq hk hpre hd hu hret
  w_on
  w_top on
  refine wpAny_call ?_
  k_dflt cell_enter
  rename_i g1 L1 h1 FG F1 N1 BB X1 T1
  obtain ⟨oc, od, fd, sl, hmem⟩ := TO.fn news hpre
  have s1 := R.small pp (by omega)
  have rr := R.round pp (by omega)
  have rr1 := rr.1
  have rr2 := rr.2
  obtain ⟨e, he⟩ : ∃ e, T pp - 2 = e := ⟨_, rfl⟩
  rw [he] at rr1 rr2 hret
  have B1 : (2 * e - 3896641).natAbs ≤ 1073741824 := by omega
  have B2 : (pp - 1).natAbs ≤ 1073741824 := by have := R.lo; have := R.hi; omega
  have B3 : e.natAbs ≤ 549755813888 := by omega
  clear rr s1
  w_strict k_steps
  all_goals (refine ret_tup2 hret (by assumption) (by assumption) (by assumption) (by omega))
end Mine
end
section
open PySem PySem.W PyProof.Rows
namespace Mine
/-- the float x lies in the year pp of the row, and in the day n -/
structure At (b : Int) (T : Int → Int) (x : UInt64) (pp n : Int) : Prop where
  hb : b - 5 ≤ pp ∧ pp ≤ b + 15
  hFx : Fin x
  hFs : Fin (Float64.sub x 4602678819172646912)
  hfl : Flt.toInt Float64.floorOf (Float64.sub x 4602678819172646912) = n - 1
  hn : 1048576 * (n - 2) ≤ Mine.w x ∧ Mine.w x < 1048576 * (n + 2)
  hx : 1048576 * (T pp - 1) ≤ Mine.w x ∧ Mine.w x < 1048576 * (T (pp + 1) - 1)
theorem at_of {b : Int} {T : Int → Int} {x : UInt64} {pp lo hi : Int} (hb : b - 5 ≤ pp ∧ pp ≤ b + 15) (B : Bd x lo hi) (h1 : hi ≤ lo + 4) (h2 : lo.natAbs ≤ 2 ^ 49) (h3 : lo ≤ hi)
    (k : 1048576 * (T pp - 1) ≤ Mine.w x ∧ Mine.w x < 1048576 * (T (pp + 1) - 1)) : ∃ n, At b T x pp n := by
  have B2 := bd_sub B (show Bd (4602678819172646912 : UInt64) 524288 524288 by rw [half_c]; exact bd_hf 1 (by decide)) (by omega) (by omega) (by decide) (by decide)
  have f := bd_floor B2
  have l := B.w_lo
  have g := B.w_hi
  refine ⟨Flt.toInt Float64.floorOf (Float64.sub x 4602678819172646912) + 1, hb, B.fin, B2.fin, by omega, by omega, k⟩
/-- a day's midnight -/
theorem at_day {b : Int} {T : Int → Int} {pp n : Int} (R : Row b T) (hb : b - 5 ≤ pp ∧ pp ≤ b + 15) (h : T pp ≤ n ∧ n < T (pp + 1)) : At b T (hf (2 * n - 1)) pp n := by
  have s1 := R.small pp (by omega)
  have s2 := R.small (pp + 1) (by omega)
  have hw := hf_w (2 * n - 1) (by omega)
  have e1 : Float64.sub (hf (2 * n - 1)) 4602678819172646912 = hf (2 * n - 2) := by rw [half_c, hf_sub _ _ (by omega) (by decide) (by omega)]; congr 1; omega
  refine ⟨hb, hf_fin _ (by omega), ?_, ?_, by rw [hw]; omega, by rw [hw]; omega⟩
  · rw [e1]; exact hf_fin _ (by omega)
  · rw [e1]
    obtain ⟨m, e, hd, _⟩ := hf_dec (2 * n - 2) (by omega)
    rw [toInt_of _ hd, floor_w hd, hf_w _ (by omega)]; omega
theorem next_at {b : Int} {T : Int → Int} (R : Row b T) {pp e : Int} (he : T pp - 2 = e) (hb : b - 6 ≤ pp ∧ pp ≤ b + 14) : ∃ n, At b T (Float64.add (Float64.add (Float64.ofInt e) 4645133024903820211) (Float64.ofInt 2)) (pp + 1) n := by
  have s1 := R.small pp (by omega)
  have B1 := bd_add (bd_int e (by omega)) bd_TY (by omega) (by omega) (by decide) (by decide)
  have B2 := bd_add B1 (bd_int 2 (by decide)) (by omega) (by omega) (by decide) (by decide)
  have st := R.step pp
  have st2 := R.step (pp + 1)
  have l := B2.w_lo
  have g := B2.w_hi
  refine at_of (by omega) B2 (by omega) (by omega) (by omega) ?_
  constructor
  · refine Int.le_trans ?_ l
    omega
  · refine Int.lt_of_le_of_lt g ?_
    omega
theorem first_at {b : Int} {T : Int → Int} (R : Row b T) (y : Int) (h : b ≤ y ∧ y ≤ b + 11) :
    ∃ n, At b T (Float64.add (hf 3896639) (Float64.mul 4645133024903820211 (Float64.ofInt (y - 1 - 1)))) (y - 2) n ∨ At b T (Float64.add (hf 3896639) (Float64.mul 4645133024903820211 (Float64.ofInt (y - 1 - 1)))) (y - 1) n := by
  have h3 := R.lo
  have h4 := R.hi
  have e1 : y - 1 - 1 = y - 2 := by omega
  rw [e1]
  obtain ⟨v, hv⟩ : ∃ v, 6425408712209331 * (y - 2) / 16777216 = v := ⟨_, rfl⟩
  have k1 : v * 16777216 ≤ 6425408712209331 * (y - 2) := by omega
  have k2 : 6425408712209331 * (y - 2) ≤ (v + 1) * 16777216 := by omega
  have gs := R.guess y v h k1 k2
  have vb : v.natAbs ≤ 2 ^ 48 := by omega
  have B1 : Bd (Float64.mul 4645133024903820211 (Float64.ofInt (y - 2))) v (v + 1) := bd_mul_TY (y - 2) v (v + 1) (by omega) (by omega) (by omega) k1 k2
  have B2 := bd_add (bd_hf 3896639 (by decide)) B1 (by decide) (by decide) (by omega) (by omega)
  have l := B2.w_lo
  have g := B2.w_hi
  clear hv k1 k2 e1
  by_cases hc : Mine.w (Float64.add (hf 3896639) (Float64.mul 4645133024903820211 (Float64.ofInt (y - 2)))) < 1048576 * (T (y - 1) - 1)
  · obtain ⟨n, hn⟩ := at_of (b := b) (T := T) (pp := y - 2) (by omega) B2 (by omega) (by omega) (by omega) (by rw [show y - 2 + 1 = y - 1 by omega]; omega)
    exact ⟨n, .inl hn⟩
  · obtain ⟨n, hn⟩ := at_of (b := b) (T := T) (pp := y - 1) (by omega) B2 (by omega) (by omega) (by omega) (by rw [show y - 1 + 1 = y by omega]; omega)
    exact ⟨n, .inr hn⟩
theorem c_pyear' {w : World} {p : Program} {loose : List Str} {mean : ExcName → Option Value} {mg mb : Str → Option Value} {b : Int} {T : Int → Int} {tf : Addr} {P : List (Addr × Obj) → Prop} (R : Row b T) (TO : TurnOk w p loose mean mg mb T tf P) {x : UInt64} {t : Tok} {pp n : Int} (A : At b T x pp n) {e : Int} (he : T pp - 2 = e) :
    Con w p loose mean mg mb (.ref 106) [.float x t, .ref tf] 8 P (fun r tl => ∃ t1 t2 a, r = .ref a ∧ tl = [(a, tup2 pp e t1 t2)]) := by
  subst he
  exact c_pyear R TO x t pp n A.hb A.hFx A.hFs A.hfl A.hn A.hx
theorem c_lasteq' {w : World} {p : Program} {loose : List Str} {mean : ExcName → Option Value} {mg mb : Str → Option Value} {b : Int} {T : Int → Int} {tf : Addr} {P : List (Addr × Obj) → Prop} (R : Row b T) (TO : TurnOk w p loose mean mg mb T tf P) {x : UInt64} {t : Tok} {pp n : Int} (A : At b T x pp n) {k : Int} (hk : T pp - 2 = k) :
    Con w p loose mean mg mb (.ref 99) [.float x t, .ref tf] 6 P (fun r tl => tl = [] ∧ ∃ t', r = .int k t') :=
  c_lasteq R TO x t pp n A.hb A.hFx A.hFs A.hfl A.hn A.hx hk
end Mine
end
section
open PySem PySem.W PyProof.Rows
namespace Mine
section
variable {prog : Program} {wd : World} {A : Around} {E : Value → Shared → Prop} {s : Shared} {Q : Value → Shared → Prop} {t u : Tok} {x y z : UInt64} {n : Int}
theorem r_add_ffx (he : Float64.add x y = z) (h : Q (.float z s.toks) { s with toks := s.toks + 1 }) : wpAny (model prog wd) A (binaryOp .Add (.float x t) (.float y u)) Q E s := by
  subst he; exact AutoFloatOps.add_0 h
theorem r_add_xin (hn : n.natAbs ≤ 549755813888) (he : Float64.add x (Float64.ofInt n) = z) (h : Q (.float z s.toks) { s with toks := s.toks + 1 }) : wpAny (model prog wd) A (binaryOp .Add (.float x t) (.int n u)) Q E s := by
  subst he; exact add_fi_fits (fits hn) h
theorem r_add_ix (hn : n.natAbs ≤ 549755813888) (h : Q (.float (Float64.add (Float64.ofInt n) x) s.toks) { s with toks := s.toks + 1 }) : wpAny (model prog wd) A (binaryOp .Add (.int n u) (.float x t)) Q E s := add_if_fits (fits hn) h
theorem r_mul_xi (hn : n.natAbs ≤ 549755813888) (h : Q (.float (Float64.mul x (Float64.ofInt n)) s.toks) { s with toks := s.toks + 1 }) : wpAny (model prog wd) A (binaryOp .Mult (.float x t) (.int n u)) Q E s := mul_fi_fits (fits hn) h
end
local macro_rules | `(tactic| walk_at "no such step 0") => `(tactic| fail)
local macro_rules | `(tactic| walk_at "no such step 1") => `(tactic| fail)
local macro_rules | `(tactic| walk_at "no such step 2") => `(tactic| fail)
local macro_rules | `(tactic| walk_at "no such step 3") => `(tactic| fail)
local macro_rules | `(tactic| walk_at "no such step 4") => `(tactic| fail)
local macro_rules | `(tactic| walk_at "no such step 5") => `(tactic| fail)
local macro_rules | `(tactic| walk_at "no such step 6") => `(tactic| fail)
local macro_rules | `(tactic| walk_at "no such step 7") => `(tactic| fail)
local macro_rules | `(tactic| walk_at "no such step 8") => `(tactic| fail)
local macro_rules | `(tactic| walk_at "no such step 9") => `(tactic| fail)
local macro_rules | `(tactic| walk_at "no such step 10") => `(tactic| fail)
local macro_rules | `(tactic| walk_at "no such step 11") => `(tactic| fail)
local macro_rules | `(tactic| walk_at "no such step 12") => `(tactic| fail)
local macro_rules | `(tactic| walk_at "no such step 13") => `(tactic| fail)
local macro_rules | `(tactic| walk_at "no such step 14") => `(tactic| fail)
local macro_rules | `(tactic| walk_at "no such step 15") => `(tactic| fail)
local macro_rules | `(tactic| walk_at "no such step 16") => `(tactic| fail)
local macro_rules | `(tactic| walk_at "no such step 17") => `(tactic| fail)
local macro_rules | `(tactic| walk_at "no such step 18") => `(tactic| fail)
local macro_rules | `(tactic| walk_at "no such step 19") => `(tactic| fail)
local macro_rules | `(tactic| walk_at "no such step 20") => `(tactic| fail)
local macro_rules | `(tactic| walk_at "no such step 21") => `(tactic| fail)
local macro_rules | `(tactic| walk_at "no such step 22") => `(tactic| fail)
local macro_rules | `(tactic| walk_at "no such step 23") => `(tactic| fail)
local macro_rules | `(tactic| walk_at "no such step 24") => `(tactic| fail)
local macro_rules | `(tactic| walk_at "no such step 25") => `(tactic| fail)
local macro_rules | `(tactic| walk_at "no such step 26") => `(tactic| fail)
local macro_rules | `(tactic| walk_at "no such step 27") => `(tactic| fail)
local macro_rules | `(tactic| walk_at "no such step 28") => `(tactic| fail)
local macro_rules | `(tactic| walk_at "no such step 29") => `(tactic| fail)
local macro_rules | `(tactic| walk_at "no such step 30") => `(tactic| fail)
local macro_rules | `(tactic| walk_at "no such step 31") => `(tactic| fail)
local macro_rules | `(tactic| walk_at "no such step 32") => `(tactic| fail)
local macro_rules | `(tactic| walk_at "no such step 33") => `(tactic| fail)
local macro_rules | `(tactic| walk_at "no such step 34") => `(tactic| fail)
local macro_rules | `(tactic| walk_at "no such step 35") => `(tactic| fail)
local macro_rules | `(tactic| walk_at "no such step 36") => `(tactic| fail)
local macro_rules | `(tactic| walk_at "no such step 37") => `(tactic| fail)
local macro_rules | `(tactic| walk_at "no such step 38") => `(tactic| fail)
local macro_rules | `(tactic| walk_at "no such step 39") => `(tactic| fail)
local macro_rules | `(tactic| walk_at "binaryOp Sub float float") => `(tactic| (k_here; (with_reducible show wpAny _ _ (binaryOp _ (Value.float _ _) (Value.float _ _)) _ _ _); ((with_reducible refine' r_sub_ff ?hx ?hy ?ha ?hb ?e ?_); (case hx => (with_reducible (first | exact rfl | exact half_c | exact epg_c | exact epp_c))); (case hy => (with_reducible (first | exact rfl | exact half_c | exact epg_c | exact epp_c))); (case ha => k_dflt (first | with_reducible assumption | decide | omega)); (case hb => k_dflt (first | with_reducible assumption | decide | omega)); (case e => (first | with_reducible assumption | (k_dflt (exact rfl)))); k_whole)))
local macro_rules | `(tactic| walk_at "binaryOp Add float int") => `(tactic| (k_here; (with_reducible show wpAny _ _ (binaryOp _ (Value.float _ _) (Value.int _ _)) _ _ _); first | ((with_reducible refine' r_add_fi ?hx ?ha ?hn ?e ?_); (case hx => (with_reducible (first | exact rfl | exact half_c | exact epg_c | exact epp_c))); (case ha => k_dflt (first | with_reducible assumption | decide | omega)); (case hn => k_dflt (first | with_reducible assumption | decide | omega)); (case e => (first | with_reducible assumption | (k_dflt (exact rfl)))); k_whole) | ((with_reducible refine' r_add_xi ?hn ?_); (case hn => k_dflt (first | with_reducible assumption | decide | omega)); k_whole)))
local macro_rules | `(tactic| walk_at "binaryOp Sub float int") => `(tactic| (k_here; (with_reducible show wpAny _ _ (binaryOp _ (Value.float _ _) (Value.int _ _)) _ _ _); ((with_reducible refine' r_sub_fi ?hx ?ha ?hn ?e ?_); (case hx => (with_reducible (first | exact rfl | exact half_c | exact epg_c | exact epp_c))); (case ha => k_dflt (first | with_reducible assumption | decide | omega)); (case hn => k_dflt (first | with_reducible assumption | decide | omega)); (case e => (first | with_reducible assumption | (k_dflt (exact rfl)))); k_whole)))
local macro_rules | `(tactic| walk_at "binaryOp Add int float") => `(tactic| (k_here; (with_reducible show wpAny _ _ (binaryOp _ (Value.int _ _) (Value.float _ _)) _ _ _); ((with_reducible refine' r_add_if ?hx ?ha ?hn ?e ?_); (case hx => (with_reducible (first | exact rfl | exact half_c | exact epg_c | exact epp_c))); (case ha => k_dflt (first | with_reducible assumption | decide | omega)); (case hn => k_dflt (first | with_reducible assumption | decide | omega)); (case e => (first | with_reducible assumption | (k_dflt (exact rfl)))); k_whole)))
local macro_rules | `(tactic| walk_at "binaryOp Sub int float") => `(tactic| (k_here; (with_reducible show wpAny _ _ (binaryOp _ (Value.int _ _) (Value.float _ _)) _ _ _); ((with_reducible refine' r_sub_if ?hx ?ha ?hn ?e ?_); (case hx => (with_reducible (first | exact rfl | exact half_c | exact epg_c | exact epp_c))); (case ha => k_dflt (first | with_reducible assumption | decide | omega)); (case hn => k_dflt (first | with_reducible assumption | decide | omega)); (case e => (first | with_reducible assumption | (k_dflt (exact rfl)))); k_whole)))
local macro_rules | `(tactic| walk_at "binaryOp Mult float int") => `(tactic| (k_here; (with_reducible show wpAny _ _ (binaryOp _ (Value.float _ _) (Value.int _ _)) _ _ _); ((with_reducible refine' r_mul_fi ?hx ?ha ?hn ?hm ?e ?_); (case hx => (with_reducible (first | exact rfl | exact half_c | exact epg_c | exact epp_c))); (case ha => k_dflt (first | with_reducible assumption | decide | omega)); (case hn => k_dflt (first | with_reducible assumption | decide | omega)); (case hm => k_dflt (first | with_reducible assumption | decide | omega)); (case e => (first | with_reducible assumption | (k_dflt (exact rfl)))); k_whole)))
local macro_rules | `(tactic| walk_at "binaryOp Div float int") => `(tactic| (k_here; (with_reducible show wpAny _ _ (binaryOp _ (Value.float _ _) (Value.int _ _)) _ _ _); ((with_reducible refine' r_div_fi ?hn ?hm ?_); (case hn => k_dflt (first | with_reducible assumption | decide | omega)); (case hm => k_dflt (first | with_reducible assumption | decide | omega)); k_whole)))
local macro_rules | `(tactic| walk_at "binaryOp Mod float int") => `(tactic| (k_here; (with_reducible show wpAny _ _ (binaryOp _ (Value.float _ _) (Value.int _ _)) _ _ _); ((with_reducible refine' r_mod_fi ?hx ?ha ?he ?hn ?hm ?e ?_); (case hx => (with_reducible (first | exact rfl | exact half_c | exact epg_c | exact epp_c))); (case ha => k_dflt (first | with_reducible assumption | decide | omega)); (case he => k_dflt (first | with_reducible assumption | decide | omega)); (case hn => k_dflt (first | with_reducible assumption | decide | omega)); (case hm => k_dflt (first | with_reducible assumption | decide | omega)); (case e => (first | with_reducible assumption | (k_dflt (exact rfl)))); k_whole)))
local macro_rules | `(tactic| walk_at "binaryOp Div int int") => `(tactic| (k_here; (with_reducible show wpAny _ _ (binaryOp _ (Value.int _ _) (Value.int _ _)) _ _ _); ((with_reducible refine' r_div_ii ?hA ?ha ?hn ?hm ?_); (case hA => k_dflt (exact rfl)); (case ha => k_dflt (first | with_reducible assumption | decide | omega)); (case hn => k_dflt (first | with_reducible assumption | decide | omega)); (case hm => k_dflt (first | with_reducible assumption | decide | omega)); k_whole)))
local macro_rules | `(tactic| walk_at "call builtin:math.floor") => `(tactic| (k_here; (with_reducible show wpAny _ _ (call (Value.builtin "math.floor") [Value.float _ _]) _ _ _); first | ((with_reducible refine' r_floor_x ?hA ?hx ?e ?_); (case hA => k_dflt (exact rfl)); (case hx => with_reducible assumption); (case e => with_reducible assumption); k_whole) | ((with_reducible refine' r_floor_m ?hA ?hm ?hadj ?hd ?e ?_); (case hA => k_dflt (exact rfl)); (case hm => k_dflt (first | with_reducible assumption | decide | omega)); (case hadj => k_dflt omega); (case hd => k_dflt omega); (case e => (first | with_reducible assumption | (k_dflt (exact rfl)))); k_whole) | ((with_reducible refine' r_floor_q ?hA ?ha ?hn ?hm ?e ?_); (case hA => k_dflt (exact rfl)); (case ha => k_dflt (first | with_reducible assumption | decide | omega)); (case hn => k_dflt (first | with_reducible assumption | decide | omega)); (case hm => k_dflt (first | with_reducible assumption | decide | omega)); (case e => (first | with_reducible assumption | (k_dflt (exact rfl)))); k_whole) | ((with_reducible refine' r_floor_d ?hA ?hx ?ha ?hn ?hm ?e ?_); (case hA => k_dflt (exact rfl)); (case hx => with_reducible exact rfl); (case ha => k_dflt (first | with_reducible assumption | decide | omega)); (case hn => k_dflt (first | with_reducible assumption | decide | omega)); (case hm => k_dflt (first | with_reducible assumption | decide | omega)); (case e => (first | with_reducible assumption | (k_dflt (exact rfl)))); k_whole) | ((with_reducible refine' r_floor_h ?hA ?hx ?ha ?e ?_); (case hA => k_dflt (exact rfl)); (case hx => with_reducible exact rfl); (case ha => k_dflt (first | with_reducible assumption | decide | omega)); (case e => (first | with_reducible assumption | (k_dflt (exact rfl)))); k_whole)))
local macro_rules | `(tactic| walk_at "call builtin:math.ceil") => `(tactic| (k_here; (with_reducible show wpAny _ _ (call (Value.builtin "math.ceil") [Value.float _ _]) _ _ _); ((with_reducible refine' r_ceil_d ?hA ?hx ?ha ?hn ?hm ?e ?_); (case hA => k_dflt (exact rfl)); (case hx => with_reducible exact rfl); (case ha => k_dflt (first | with_reducible assumption | decide | omega)); (case hn => k_dflt (first | with_reducible assumption | decide | omega)); (case hm => k_dflt (first | with_reducible assumption | decide | omega)); (case e => (first | with_reducible assumption | (k_dflt (exact rfl)))); k_whole)))
local macro_rules | `(tactic| walk_at "call builtin:math.trunc") => `(tactic| (k_here; (with_reducible show wpAny _ _ (call (Value.builtin "math.trunc") [Value.float _ _]) _ _ _); ((with_reducible refine' r_trunc_h ?hA ?hx ?ha ?he ?e ?_); (case hA => k_dflt (exact rfl)); (case hx => with_reducible exact rfl); (case ha => k_dflt (first | with_reducible assumption | decide | omega)); (case he => k_dflt (first | with_reducible assumption | decide | omega)); (case e => (first | with_reducible assumption | (k_dflt (exact rfl)))); k_whole)))
local macro_rules | `(tactic| walk_at "call type:int") => `(tactic| (k_here; (with_reducible show wpAny _ _ (call (Value.type "int") [Value.float _ _]) _ _ _); ((with_reducible refine' r_int_h ?hA ?hx ?ha ?he ?e ?_); (case hA => k_dflt (exact rfl)); (case hx => with_reducible exact rfl); (case ha => k_dflt (first | with_reducible assumption | decide | omega)); (case he => k_dflt (first | with_reducible assumption | decide | omega)); (case e => (first | with_reducible assumption | (k_dflt (exact rfl)))); k_whole)))
local macro_rules | `(tactic| walk_at "compareOp Lt float int") => `(tactic| (k_here; (with_reducible show wpAny _ _ (compareOp _ (Value.float _ _) (Value.int _ _)) _ _ _); first | ((with_reducible refine' r_lt_fi ?hx ?ha ?e ?_); (case hx => with_reducible exact rfl); (case ha => k_dflt (first | with_reducible assumption | decide | omega)); (case e => (first | with_reducible assumption | (k_dflt (exact rfl)))); k_whole) | ((with_reducible refine' r_lt_xi ?hx ?e ?_); (case hx => assumption); (case e => (first | with_reducible assumption | (k_dflt (exact rfl)))); k_whole)))
local macro_rules | `(tactic| walk_at "compareOp LtE float int") => `(tactic| (k_here; (with_reducible show wpAny _ _ (compareOp _ (Value.float _ _) (Value.int _ _)) _ _ _); ((with_reducible refine' r_le_fi ?hx ?ha ?e ?_); (case hx => with_reducible exact rfl); (case ha => k_dflt (first | with_reducible assumption | decide | omega)); (case e => (first | with_reducible assumption | (k_dflt (exact rfl)))); k_whole)))
local macro_rules | `(tactic| walk_at "compareOp Gt float int") => `(tactic| (k_here; (with_reducible show wpAny _ _ (compareOp _ (Value.float _ _) (Value.int _ _)) _ _ _); ((with_reducible refine' r_gt_fi ?hx ?ha ?e ?_); (case hx => with_reducible exact rfl); (case ha => k_dflt (first | with_reducible assumption | decide | omega)); (case e => (first | with_reducible assumption | (k_dflt (exact rfl)))); k_whole)))
local macro_rules | `(tactic| walk_at "compareOp Gt int float") => `(tactic| (k_here; (with_reducible show wpAny _ _ (compareOp _ (Value.int _ _) (Value.float _ _)) _ _ _); ((with_reducible refine' r_gt_ix ?hx ?e ?_); (case hx => assumption); (case e => (first | with_reducible assumption | (k_dflt (exact rfl)))); k_whole)))
local macro_rules | `(tactic| walk_at "compareOp LtE int float") => `(tactic| (k_here; (with_reducible show wpAny _ _ (compareOp _ (Value.int _ _) (Value.float _ _)) _ _ _); ((with_reducible refine' r_le_ix ?hx ?e ?_); (case hx => assumption); (case e => (first | with_reducible assumption | (k_dflt (exact rfl)))); k_whole)))
local macro_rules | `(tactic| walk_at "compareOp NotEq float float") => `(tactic| (k_here; (with_reducible show wpAny _ _ (compareOp _ (Value.float _ _) (Value.float _ _)) _ _ _); ((with_reducible refine' r_ne_ff ?hx ?hy ?ha ?hb ?_); (case hx => with_reducible exact rfl); (case hy => with_reducible exact rfl); (case ha => k_dflt (first | with_reducible assumption | decide | omega)); (case hb => k_dflt (first | with_reducible assumption | decide | omega)); k_whole)))
local macro_rules | `(tactic| walk_at "compareOp In int ref") => `(tactic| (k_here; (with_reducible show wpAny _ _ (compareOp _ (Value.int _ _) (Value.ref _)) _ _ _); ((with_reducible refine' in_tupK ?F ?X ?l ?i ?b ?_); (case F => k_asm); (case X => k_asm); (case l => k_is); (case i => (repeat constructor)); (case b => assumption); k_whole)))
local macro_rules | `(tactic| walk_at "compareOp Eq int int") => `(tactic| (k_here; with_reducible (first | refine r_eq_y (by assumption) ?_ | refine r_eq_n (by assumption) ?_)))
local macro_rules | `(tactic| walk_at "compareOp NotEq int int") => `(tactic| (k_here; with_reducible (first | refine r_ne_y (by assumption) ?_ | refine r_ne_n (by assumption) ?_)))
local macro_rules | `(tactic| walk_at "compareOp Lt int int") => `(tactic| (k_here; with_reducible (first | refine r_lt_y (by assumption) ?_ | refine r_lt_n (by assumption) ?_)))
local macro_rules | `(tactic| walk_at "compareOp LtE int int") => `(tactic| (k_here; with_reducible (first | refine r_le_y (by assumption) ?_ | refine r_le_n (by assumption) ?_)))
local macro_rules | `(tactic| walk_at "compareOp Gt int int") => `(tactic| (k_here; with_reducible (first | refine r_gt_y (by assumption) ?_ | refine r_gt_n (by assumption) ?_)))
local macro_rules | `(tactic| walk_at "binaryOp Add int bool") => `(tactic| (k_here; with_reducible (refine r_add_ib (by assumption) ?_)))
local macro_rules | `(tactic| walk_at "binaryOp Mult int int") => `(tactic| (k_here; first | (refine r_mul_r (by decide) ?_) | (refine r_mul_l (by decide) ?_) | (refine r_mul_r (by assumption) ?_) | (refine r_mul_l (by assumption) ?_)))
local macro_rules | `(tactic| walk_at "callWith ref") => `(tactic| (k_here; k_dflt (refine' callWith_F ?k1 ?_; (case k1 => exact FnAt.of (by k_asm) (by (first | assumption | exact List.mem_cons_of_mem _ (by assumption) | exact List.mem_cons_of_mem _ (List.mem_cons_of_mem _ (by assumption)) | exact List.mem_cons_of_mem _ (List.mem_cons_of_mem _ (List.mem_cons_of_mem _ (by assumption)))))); k_whole)))
local macro_rules | `(tactic| walk_at "FnAt") => `(tactic| (k_dflt (exact FnAt.of (by k_asm) (by (first | assumption | exact List.mem_cons_of_mem _ (by assumption) | exact List.mem_cons_of_mem _ (List.mem_cons_of_mem _ (by assumption)) | exact List.mem_cons_of_mem _ (List.mem_cons_of_mem _ (List.mem_cons_of_mem _ (by assumption))))))))
local macro_rules | `(tactic| walk_at "call ref") => `(tactic| (k_here; with_reducible refine nil_app ?_))
local macro_rules | `(tactic| walk_at "binaryOp Div float float") => `(tactic| (k_here; with_reducible (refine r_div_TY rfl ?_)))
local macro_rules | `(tactic| walk_at "call builtin:round") => `(tactic| (k_here; (with_reducible show wpAny _ _ (call (Value.builtin "round") [Value.float _ _]) _ _ _); ((with_reducible refine' r_round_TY ?hA ?hx ?hy ?ha ?hn ?h1 ?h2 ?_); (case hA => k_dflt (exact rfl)); (case hx => with_reducible exact rfl); (case hy => exact TY_c); (case h1 => with_reducible assumption); (case h2 => with_reducible assumption); (case ha => k_dflt (first | with_reducible assumption | omega)); (case hn => k_dflt (first | with_reducible assumption | omega)); k_whole)))
local macro_rules | `(tactic| walk_at "binaryOp Add float float") => `(tactic| (k_here; with_reducible (refine r_add_ffx (by assumption) ?_)))
local macro_rules | `(tactic| walk_at "binaryOp Add float int") => `(tactic| (k_here; with_reducible (refine r_add_xin (by k_dflt (first | with_reducible assumption | decide)) (by assumption) ?_)))
local macro_rules | `(tactic| walk_at "binaryOp Add int float") => `(tactic| (k_here; (with_reducible show wpAny _ _ (binaryOp _ (Value.int _ _) (Value.float 4645133024903820211 _)) _ _ _); with_reducible (refine r_add_ix (by assumption) ?_)))
local macro_rules | `(tactic| walk_at "binaryOp Mult float int") => `(tactic| (k_here; (with_reducible show wpAny _ _ (binaryOp _ (Value.float 4645133024903820211 _) (Value.int _ _)) _ _ _); with_reducible (refine r_mul_xi (by assumption) ?_)))
local macro_rules | `(tactic| walk_at "exec While") => `(tactic| (k_here; k_dflt (refine whl_start 100 ?_)))
local macro_rules | `(tactic| walk_at "call ref") => `(tactic| (k_here; (with_reducible show wpAny _ _ (call (Value.ref 106) [Value.float _ _, Value.ref _]) _ _ _); (refine' con_use (c_pyear' (by assumption) (by assumption) (by assumption) (by with_reducible assumption)) ?k1 ?k2 ?k3 ?k4 ?k5 ?kK ?kp ?kd ?ku ?_; (case k1 => k_asm); (case k2 => k_asm); (case k3 => k_asm); (case k4 => k_asm); (case k5 => k_asm); (case kK => first | exact rfl | assumption); (case kp => (first | assumption | exact TurnOk.more (by assumption) _ _ (by first | assumption | exact TurnOk.more (by assumption) _ _ (by first | assumption | exact TurnOk.more (by assumption) _ _ (by assumption))))); (case kd => ktr_room); (case ku => ktr_units)); intro r9 tl9 h9 tk9 F9 N9 l9 ho9; obtain ⟨t91, t92, a9, e9, ho9⟩ := ho9; subst e9; subst ho9; clear l9; (dsimp only [List.cons_append, List.nil_append, tup2] at N9); (try dsimp only); (try k_fold)))
def poff (m : Int) : Int := if m ≤ 7 then (m - 1) * 31 else (m - 1) * 30 + 6
set_option maxRecDepth 100000 in
set_option maxHeartbeats 3000000 in
theorem c_topjd {w : World} {p : Program} {loose : List Str} {mean : ExcName → Option Value} {mg mb : Str → Option Value} {b : Int} {T : Int → Int} {tf : Addr} {P : List (Addr × Obj) → Prop} (R : Row b T) (TO : TurnOk w p loose mean mg mb T tf P) (y mo d : Int) (t t1 t2 : Tok) (hy : b ≤ y ∧ y ≤ b + 11) (hm : 1 ≤ mo ∧ mo ≤ 12) (hdd : 0 ≤ d ∧ d ≤ 400)
    {k : Int} (hkk : 2 * (T y - 2 + poff mo + d) + 1 = k) :
    Con w p loose mean mg mb (.ref 113) [.int y t, .int mo t1, .int d t2, .ref tf] 10 P (fun r tl => tl = [] ∧ ∃ t', r = .float (hf k) t') := by
  unfold Con
  k_fill
  intro dp un gd cn cs a ccd cl outer A₀ base h₀ L m news s Q E Bq Fq Xq Nq Tq hk hpre hd hu hret
  w_on
  w_top on
  refine wpAny_call ?_
  k_dflt cell_enter
  rename_i g1 L1 h1 FG F1 N1 BB X1 T1
  obtain ⟨oc, od, fd, sl, hmem⟩ := TO.fn news hpre
  have s1 := R.small y (by omega)
  have s2 := R.small (y - 1) (by omega)
  have s3 := R.small (y - 2) (by omega)
  have hlo := R.lo
  have hhi := R.hi
  have hp : 0 ≤ poff mo ∧ poff mo ≤ 400 := by unfold poff; split <;> omega
  have G1 : (3896641 - 2 * 1 : Int) = 3896639 := by decide
  have G2 : (y - 1 - 1).natAbs ≤ 549755813888 := by omega
  have L0 : y - 1 < y := by omega
  have L1' : y - 2 < y := by omega
  have L2 : ¬ y < y := by omega
  have L3 : y - 2 + 1 < y := by omega
  have L4 : ¬ y - 1 + 1 < y := by omega
  have L5 : ¬ y - 2 + 1 + 1 < y := by omega
  obtain ⟨e2, he2⟩ : ∃ e, T (y - 2) - 2 = e := ⟨_, rfl⟩
  obtain ⟨e1, he1⟩ : ∃ e, T (y - 1) - 2 = e := ⟨_, rfl⟩
  obtain ⟨e0, he0⟩ : ∃ e, T y - 2 = e := ⟨_, rfl⟩
  have he1' : T (y - 2 + 1) - 2 = e1 := by rw [show y - 2 + 1 = y - 1 by omega]; exact he1
  have he0' : T (y - 1 + 1) - 2 = e0 := by rw [show y - 1 + 1 = y by omega]; exact he0
  have he0'' : T (y - 2 + 1 + 1) - 2 = e0 := by rw [show y - 2 + 1 + 1 = y by omega]; exact he0
  have N2 : e2.natAbs ≤ 549755813888 := by omega
  have N1' : e1.natAbs ≤ 549755813888 := by omega
  have N0' : e0.natAbs ≤ 549755813888 := by omega
  have hke : 2 * (e0 + poff mo + d) + 1 = k := by rw [← he0]; exact hkk
  have Bs : (e0 + poff mo + d).natAbs ≤ 549755813888 := by omega
  have Bs1 : (e0 + (mo - 1) * 31 + d).natAbs ≤ 549755813888 := by omega
  have Bs2 : (e0 + ((mo - 1) * 30 + 6) + d).natAbs ≤ 549755813888 := by omega
  have hk1 : mo ≤ 7 → 2 * (e0 + (mo - 1) * 31 + d) + 1 = k := fun h => by rw [← hke]; unfold poff; rw [if_pos h]
  have hk2 : ¬ mo ≤ 7 → 2 * (e0 + ((mo - 1) * 30 + 6) + d) + 1 = k := fun h => by rw [← hke]; unfold poff; rw [if_neg h]
  obtain ⟨n0, hat⟩ := first_at R y hy
  obtain ⟨x0, hx0⟩ : ∃ x, Float64.add (hf 3896639) (Float64.mul 4645133024903820211 (Float64.ofInt (y - 1 - 1))) = x := ⟨_, rfl⟩
  rw [hx0] at hat
  obtain ⟨n2, hat2⟩ := next_at R he2 (by omega)
  obtain ⟨x2, hx2⟩ : ∃ x, Float64.add (Float64.add (Float64.ofInt e2) 4645133024903820211) (Float64.ofInt 2) = x := ⟨_, rfl⟩
  obtain ⟨n1, hat1⟩ := next_at R he1 (by omega)
  obtain ⟨x1, hx1⟩ : ∃ x, Float64.add (Float64.add (Float64.ofInt e1) 4645133024903820211) (Float64.ofInt 2) = x := ⟨_, rfl⟩
  obtain ⟨xe, hxe⟩ : ∃ x, Float64.add (Float64.add (Float64.ofInt e0) 4645133024903820211) (Float64.ofInt 2) = x := ⟨_, rfl⟩
  rw [hx2] at hat2
  rw [hx1] at hat1
  clear s1 s2 s3 hkk hp hke Bs
  rcases hat with hat | hat
  · have hat1' : At b T x1 (y - 2 + 1 + 1) n1 := by rw [show y - 2 + 1 + 1 = y - 1 + 1 by omega]; exact hat1
    clear hat1
    w_strict k_steps
    all_goals (refine ret_float hret (by assumption) (by first | assumption | exact news_tl (by assumption) | exact news_tl (news_tl (by assumption)) | exact news_tl (news_tl (news_tl (by assumption))) | exact news_tl (news_tl (news_tl (news_tl (by assumption)))) | exact news_tl (news_tl (news_tl (news_tl (news_tl (by assumption)))))) ?_)
    all_goals w_strict (first | exact hk1 (by assumption) | exact hk2 (by first | assumption | omega))
  · clear hat2
    w_strict k_steps
    all_goals (refine ret_float hret (by assumption) (by first | assumption | exact news_tl (by assumption) | exact news_tl (news_tl (by assumption)) | exact news_tl (news_tl (news_tl (by assumption))) | exact news_tl (news_tl (news_tl (news_tl (by assumption)))) | exact news_tl (news_tl (news_tl (news_tl (news_tl (by assumption)))))) ?_)
    all_goals w_strict (first | exact hk1 (by assumption) | exact hk2 (by first | assumption | omega))
end Mine
end
section
open PySem PySem.W PyProof.Rows
namespace Mine
theorem ret_bool {h₀ h' : Heap} {L : Addr} {m : Str → Option Value} {news : List (Addr × Obj)} {s : Shared} {Q : Value → Shared → Prop} {a k : Bool} {tk : Nat}
    (hret : ∀ r tl h' tk', Fr h₀ L h' m → News h₀ L h' (tl ++ news) → (∀ q ∈ news, ∀ p ∈ tl, q.1 < p.1) → (tl = [] ∧ r = .bool k) → Q r { s with heap := h', toks := tk' })
    (F : Fr h₀ L h' m) (N : News h₀ L h' news) (e : a = k) : Q (.bool a) { s with heap := h', toks := tk } := by
  subst e
  exact hret _ [] _ _ F (news_nil N) ord_nil ⟨rfl, rfl⟩
local macro_rules | `(tactic| walk_at "binaryOp Sub float float") => `(tactic| (k_here; (with_reducible show wpAny _ _ (binaryOp _ (Value.float _ _) (Value.float _ _)) _ _ _); ((with_reducible refine' r_sub_ff ?hx ?hy ?ha ?hb ?e ?_); (case hx => (with_reducible (first | exact rfl | exact half_c | exact epg_c | exact epp_c))); (case hy => (with_reducible (first | exact rfl | exact half_c | exact epg_c | exact epp_c))); (case ha => k_dflt (first | with_reducible assumption | decide | omega)); (case hb => k_dflt (first | with_reducible assumption | decide | omega)); (case e => (first | with_reducible assumption | (k_dflt (exact rfl)))); k_whole)))
local macro_rules | `(tactic| walk_at "binaryOp Add float int") => `(tactic| (k_here; (with_reducible show wpAny _ _ (binaryOp _ (Value.float _ _) (Value.int _ _)) _ _ _); first | ((with_reducible refine' r_add_fi ?hx ?ha ?hn ?e ?_); (case hx => (with_reducible (first | exact rfl | exact half_c | exact epg_c | exact epp_c))); (case ha => k_dflt (first | with_reducible assumption | decide | omega)); (case hn => k_dflt (first | with_reducible assumption | decide | omega)); (case e => (first | with_reducible assumption | (k_dflt (exact rfl)))); k_whole) | ((with_reducible refine' r_add_xi ?hn ?_); (case hn => k_dflt (first | with_reducible assumption | decide | omega)); k_whole)))
local macro_rules | `(tactic| walk_at "binaryOp Sub float int") => `(tactic| (k_here; (with_reducible show wpAny _ _ (binaryOp _ (Value.float _ _) (Value.int _ _)) _ _ _); ((with_reducible refine' r_sub_fi ?hx ?ha ?hn ?e ?_); (case hx => (with_reducible (first | exact rfl | exact half_c | exact epg_c | exact epp_c))); (case ha => k_dflt (first | with_reducible assumption | decide | omega)); (case hn => k_dflt (first | with_reducible assumption | decide | omega)); (case e => (first | with_reducible assumption | (k_dflt (exact rfl)))); k_whole)))
local macro_rules | `(tactic| walk_at "binaryOp Add int float") => `(tactic| (k_here; (with_reducible show wpAny _ _ (binaryOp _ (Value.int _ _) (Value.float _ _)) _ _ _); ((with_reducible refine' r_add_if ?hx ?ha ?hn ?e ?_); (case hx => (with_reducible (first | exact rfl | exact half_c | exact epg_c | exact epp_c))); (case ha => k_dflt (first | with_reducible assumption | decide | omega)); (case hn => k_dflt (first | with_reducible assumption | decide | omega)); (case e => (first | with_reducible assumption | (k_dflt (exact rfl)))); k_whole)))
local macro_rules | `(tactic| walk_at "binaryOp Sub int float") => `(tactic| (k_here; (with_reducible show wpAny _ _ (binaryOp _ (Value.int _ _) (Value.float _ _)) _ _ _); ((with_reducible refine' r_sub_if ?hx ?ha ?hn ?e ?_); (case hx => (with_reducible (first | exact rfl | exact half_c | exact epg_c | exact epp_c))); (case ha => k_dflt (first | with_reducible assumption | decide | omega)); (case hn => k_dflt (first | with_reducible assumption | decide | omega)); (case e => (first | with_reducible assumption | (k_dflt (exact rfl)))); k_whole)))
local macro_rules | `(tactic| walk_at "binaryOp Mult float int") => `(tactic| (k_here; (with_reducible show wpAny _ _ (binaryOp _ (Value.float _ _) (Value.int _ _)) _ _ _); ((with_reducible refine' r_mul_fi ?hx ?ha ?hn ?hm ?e ?_); (case hx => (with_reducible (first | exact rfl | exact half_c | exact epg_c | exact epp_c))); (case ha => k_dflt (first | with_reducible assumption | decide | omega)); (case hn => k_dflt (first | with_reducible assumption | decide | omega)); (case hm => k_dflt (first | with_reducible assumption | decide | omega)); (case e => (first | with_reducible assumption | (k_dflt (exact rfl)))); k_whole)))
local macro_rules | `(tactic| walk_at "binaryOp Div float int") => `(tactic| (k_here; (with_reducible show wpAny _ _ (binaryOp _ (Value.float _ _) (Value.int _ _)) _ _ _); ((with_reducible refine' r_div_fi ?hn ?hm ?_); (case hn => k_dflt (first | with_reducible assumption | decide | omega)); (case hm => k_dflt (first | with_reducible assumption | decide | omega)); k_whole)))
local macro_rules | `(tactic| walk_at "binaryOp Mod float int") => `(tactic| (k_here; (with_reducible show wpAny _ _ (binaryOp _ (Value.float _ _) (Value.int _ _)) _ _ _); ((with_reducible refine' r_mod_fi ?hx ?ha ?he ?hn ?hm ?e ?_); (case hx => (with_reducible (first | exact rfl | exact half_c | exact epg_c | exact epp_c))); (case ha => k_dflt (first | with_reducible assumption | decide | omega)); (case he => k_dflt (first | with_reducible assumption | decide | omega)); (case hn => k_dflt (first | with_reducible assumption | decide | omega)); (case hm => k_dflt (first | with_reducible assumption | decide | omega)); (case e => (first | with_reducible assumption | (k_dflt (exact rfl)))); k_whole)))
local macro_rules | `(tactic| walk_at "binaryOp Div int int") => `(tactic| (k_here; (with_reducible show wpAny _ _ (binaryOp _ (Value.int _ _) (Value.int _ _)) _ _ _); ((with_reducible refine' r_div_ii ?hA ?ha ?hn ?hm ?_); (case hA => k_dflt (exact rfl)); (case ha => k_dflt (first | with_reducible assumption | decide | omega)); (case hn => k_dflt (first | with_reducible assumption | decide | omega)); (case hm => k_dflt (first | with_reducible assumption | decide | omega)); k_whole)))
local macro_rules | `(tactic| walk_at "call builtin:math.floor") => `(tactic| (k_here; (with_reducible show wpAny _ _ (call (Value.builtin "math.floor") [Value.float _ _]) _ _ _); first | ((with_reducible refine' r_floor_x ?hA ?hx ?e ?_); (case hA => k_dflt (exact rfl)); (case hx => with_reducible assumption); (case e => with_reducible assumption); k_whole) | ((with_reducible refine' r_floor_m ?hA ?hm ?hadj ?hd ?e ?_); (case hA => k_dflt (exact rfl)); (case hm => k_dflt (first | with_reducible assumption | decide | omega)); (case hadj => k_dflt omega); (case hd => k_dflt omega); (case e => (first | with_reducible assumption | (k_dflt (exact rfl)))); k_whole) | ((with_reducible refine' r_floor_q ?hA ?ha ?hn ?hm ?e ?_); (case hA => k_dflt (exact rfl)); (case ha => k_dflt (first | with_reducible assumption | decide | omega)); (case hn => k_dflt (first | with_reducible assumption | decide | omega)); (case hm => k_dflt (first | with_reducible assumption | decide | omega)); (case e => (first | with_reducible assumption | (k_dflt (exact rfl)))); k_whole) | ((with_reducible refine' r_floor_d ?hA ?hx ?ha ?hn ?hm ?e ?_); (case hA => k_dflt (exact rfl)); (case hx => with_reducible exact rfl); (case ha => k_dflt (first | with_reducible assumption | decide | omega)); (case hn => k_dflt (first | with_reducible assumption | decide | omega)); (case hm => k_dflt (first | with_reducible assumption | decide | omega)); (case e => (first | with_reducible assumption | (k_dflt (exact rfl)))); k_whole) | ((with_reducible refine' r_floor_h ?hA ?hx ?ha ?e ?_); (case hA => k_dflt (exact rfl)); (case hx => with_reducible exact rfl); (case ha => k_dflt (first | with_reducible assumption | decide | omega)); (case e => (first | with_reducible assumption | (k_dflt (exact rfl)))); k_whole)))
local macro_rules | `(tactic| walk_at "call builtin:math.ceil") => `(tactic| (k_here; (with_reducible show wpAny _ _ (call (Value.builtin "math.ceil") [Value.float _ _]) _ _ _); ((with_reducible refine' r_ceil_d ?hA ?hx ?ha ?hn ?hm ?e ?_); (case hA => k_dflt (exact rfl)); (case hx => with_reducible exact rfl); (case ha => k_dflt (first | with_reducible assumption | decide | omega)); (case hn => k_dflt (first | with_reducible assumption | decide | omega)); (case hm => k_dflt (first | with_reducible assumption | decide | omega)); (case e => (first | with_reducible assumption | (k_dflt (exact rfl)))); k_whole)))
local macro_rules | `(tactic| walk_at "call builtin:math.trunc") => `(tactic| (k_here; (with_reducible show wpAny _ _ (call (Value.builtin "math.trunc") [Value.float _ _]) _ _ _); ((with_reducible refine' r_trunc_h ?hA ?hx ?ha ?he ?e ?_); (case hA => k_dflt (exact rfl)); (case hx => with_reducible exact rfl); (case ha => k_dflt (first | with_reducible assumption | decide | omega)); (case he => k_dflt (first | with_reducible assumption | decide | omega)); (case e => (first | with_reducible assumption | (k_dflt (exact rfl)))); k_whole)))
local macro_rules | `(tactic| walk_at "call type:int") => `(tactic| (k_here; (with_reducible show wpAny _ _ (call (Value.type "int") [Value.float _ _]) _ _ _); ((with_reducible refine' r_int_h ?hA ?hx ?ha ?he ?e ?_); (case hA => k_dflt (exact rfl)); (case hx => with_reducible exact rfl); (case ha => k_dflt (first | with_reducible assumption | decide | omega)); (case he => k_dflt (first | with_reducible assumption | decide | omega)); (case e => (first | with_reducible assumption | (k_dflt (exact rfl)))); k_whole)))
local macro_rules | `(tactic| walk_at "compareOp Lt float int") => `(tactic| (k_here; (with_reducible show wpAny _ _ (compareOp _ (Value.float _ _) (Value.int _ _)) _ _ _); first | ((with_reducible refine' r_lt_fi ?hx ?ha ?e ?_); (case hx => with_reducible exact rfl); (case ha => k_dflt (first | with_reducible assumption | decide | omega)); (case e => (first | with_reducible assumption | (k_dflt (exact rfl)))); k_whole) | ((with_reducible refine' r_lt_xi ?hx ?e ?_); (case hx => assumption); (case e => (first | with_reducible assumption | (k_dflt (exact rfl)))); k_whole)))
local macro_rules | `(tactic| walk_at "compareOp LtE float int") => `(tactic| (k_here; (with_reducible show wpAny _ _ (compareOp _ (Value.float _ _) (Value.int _ _)) _ _ _); ((with_reducible refine' r_le_fi ?hx ?ha ?e ?_); (case hx => with_reducible exact rfl); (case ha => k_dflt (first | with_reducible assumption | decide | omega)); (case e => (first | with_reducible assumption | (k_dflt (exact rfl)))); k_whole)))
local macro_rules | `(tactic| walk_at "compareOp Gt float int") => `(tactic| (k_here; (with_reducible show wpAny _ _ (compareOp _ (Value.float _ _) (Value.int _ _)) _ _ _); ((with_reducible refine' r_gt_fi ?hx ?ha ?e ?_); (case hx => with_reducible exact rfl); (case ha => k_dflt (first | with_reducible assumption | decide | omega)); (case e => (first | with_reducible assumption | (k_dflt (exact rfl)))); k_whole)))
local macro_rules | `(tactic| walk_at "compareOp Gt int float") => `(tactic| (k_here; (with_reducible show wpAny _ _ (compareOp _ (Value.int _ _) (Value.float _ _)) _ _ _); ((with_reducible refine' r_gt_ix ?hx ?e ?_); (case hx => assumption); (case e => (first | with_reducible assumption | (k_dflt (exact rfl)))); k_whole)))
local macro_rules | `(tactic| walk_at "compareOp LtE int float") => `(tactic| (k_here; (with_reducible show wpAny _ _ (compareOp _ (Value.int _ _) (Value.float _ _)) _ _ _); ((with_reducible refine' r_le_ix ?hx ?e ?_); (case hx => assumption); (case e => (first | with_reducible assumption | (k_dflt (exact rfl)))); k_whole)))
local macro_rules | `(tactic| walk_at "compareOp NotEq float float") => `(tactic| (k_here; (with_reducible show wpAny _ _ (compareOp _ (Value.float _ _) (Value.float _ _)) _ _ _); ((with_reducible refine' r_ne_ff ?hx ?hy ?ha ?hb ?_); (case hx => with_reducible exact rfl); (case hy => with_reducible exact rfl); (case ha => k_dflt (first | with_reducible assumption | decide | omega)); (case hb => k_dflt (first | with_reducible assumption | decide | omega)); k_whole)))
local macro_rules | `(tactic| walk_at "compareOp In int ref") => `(tactic| (k_here; (with_reducible show wpAny _ _ (compareOp _ (Value.int _ _) (Value.ref _)) _ _ _); ((with_reducible refine' in_tupK ?F ?X ?l ?i ?b ?_); (case F => k_asm); (case X => k_asm); (case l => k_is); (case i => (repeat constructor)); (case b => assumption); k_whole)))
local macro_rules | `(tactic| walk_at "compareOp Eq int int") => `(tactic| (k_here; with_reducible (first | refine r_eq_y (by assumption) ?_ | refine r_eq_n (by assumption) ?_)))
local macro_rules | `(tactic| walk_at "compareOp NotEq int int") => `(tactic| (k_here; with_reducible (first | refine r_ne_y (by assumption) ?_ | refine r_ne_n (by assumption) ?_)))
local macro_rules | `(tactic| walk_at "compareOp Lt int int") => `(tactic| (k_here; with_reducible (first | refine r_lt_y (by assumption) ?_ | refine r_lt_n (by assumption) ?_)))
local macro_rules | `(tactic| walk_at "compareOp LtE int int") => `(tactic| (k_here; with_reducible (first | refine r_le_y (by assumption) ?_ | refine r_le_n (by assumption) ?_)))
local macro_rules | `(tactic| walk_at "compareOp Gt int int") => `(tactic| (k_here; with_reducible (first | refine r_gt_y (by assumption) ?_ | refine r_gt_n (by assumption) ?_)))
local macro_rules | `(tactic| walk_at "binaryOp Add int bool") => `(tactic| (k_here; with_reducible (refine r_add_ib (by assumption) ?_)))
local macro_rules | `(tactic| walk_at "binaryOp Mult int int") => `(tactic| (k_here; first | (refine r_mul_r (by decide) ?_) | (refine r_mul_l (by decide) ?_) | (refine r_mul_r (by assumption) ?_) | (refine r_mul_l (by assumption) ?_)))
local macro_rules | `(tactic| walk_at "callWith ref") => `(tactic| (k_here; k_dflt (refine' callWith_F ?k1 ?_; (case k1 => exact FnAt.of (by k_asm) (by (first | assumption | exact List.mem_cons_of_mem _ (by assumption) | exact List.mem_cons_of_mem _ (List.mem_cons_of_mem _ (by assumption)) | exact List.mem_cons_of_mem _ (List.mem_cons_of_mem _ (List.mem_cons_of_mem _ (by assumption)))))); k_whole)))
local macro_rules | `(tactic| walk_at "FnAt") => `(tactic| (k_dflt (exact FnAt.of (by k_asm) (by (first | assumption | exact List.mem_cons_of_mem _ (by assumption) | exact List.mem_cons_of_mem _ (List.mem_cons_of_mem _ (by assumption)) | exact List.mem_cons_of_mem _ (List.mem_cons_of_mem _ (List.mem_cons_of_mem _ (by assumption))))))))
local macro_rules | `(tactic| walk_at "call ref") => `(tactic| (k_here; with_reducible refine nil_app ?_))
local macro_rules | `(tactic| walk_at "binaryOp Div float float") => `(tactic| (k_here; with_reducible (refine r_div_TY rfl ?_)))
local macro_rules | `(tactic| walk_at "call builtin:round") => `(tactic| (k_here; (with_reducible show wpAny _ _ (call (Value.builtin "round") [Value.float _ _]) _ _ _); ((with_reducible refine' r_round_TY ?hA ?hx ?hy ?ha ?hn ?h1 ?h2 ?_); (case hA => k_dflt (exact rfl)); (case hx => with_reducible exact rfl); (case hy => exact TY_c); (case h1 => with_reducible assumption); (case h2 => with_reducible assumption); (case ha => k_dflt (first | with_reducible assumption | omega)); (case hn => k_dflt (first | with_reducible assumption | omega)); k_whole)))
local macro_rules | `(tactic| walk_at "call ref") => `(tactic| (k_here; (with_reducible show wpAny _ _ (call (Value.ref 113) [Value.int _ _, Value.int _ _, Value.int _ _, Value.ref _]) _ _ _); (refine' con_use (c_topjd (by assumption) (by assumption) _ _ _ _ _ _ (by with_reducible assumption) (by first | with_reducible assumption | decide | omega) (by first | with_reducible assumption | decide | omega) (by first | with_reducible assumption | exact rfl)) ?k1 ?k2 ?k3 ?k4 ?k5 ?kK ?kp ?kd ?ku ?_; (case k1 => k_asm); (case k2 => k_asm); (case k3 => k_asm); (case k4 => k_asm); (case k5 => k_asm); (case kK => first | exact rfl | assumption); (case kp => (first | assumption | exact TurnOk.more (by assumption) _ _ (by first | assumption | exact TurnOk.more (by assumption) _ _ (by assumption)))); (case kd => ktr_room); (case ku => ktr_units)); intro r9 tl9 h9 tk9 F9 N9 l9 ho9; obtain ⟨e9, t9, ho9⟩ := ho9; subst e9; subst ho9; clear l9; (dsimp only [List.nil_append] at N9); (try dsimp only); (try k_fold)))
local macro_rules | `(tactic| walk_at "call ref") => `(tactic| (k_here; (with_reducible show wpAny _ _ (call (Value.ref 99) [Value.float _ _, Value.ref _]) _ _ _); (refine' con_use (c_lasteq' (by assumption) (by assumption) (by assumption) (by with_reducible assumption)) ?k1 ?k2 ?k3 ?k4 ?k5 ?kK ?kp ?kd ?ku ?_; (case k1 => k_asm); (case k2 => k_asm); (case k3 => k_asm); (case k4 => k_asm); (case k5 => k_asm); (case kK => first | exact rfl | assumption); (case kp => (first | assumption | exact TurnOk.more (by assumption) _ _ (by assumption))); (case kd => ktr_room); (case ku => ktr_units)); intro r9 tl9 h9 tk9 F9 N9 l9 ho9; obtain ⟨e9, t9, ho9⟩ := ho9; subst e9; subst ho9; clear l9; (dsimp only [List.nil_append] at N9); (try dsimp only); (try k_fold)))
set_option maxRecDepth 100000 in
set_option maxHeartbeats 3000000 in
theorem c_pleap {w : World} {p : Program} {loose : List Str} {mean : ExcName → Option Value} {mg mb : Str → Option Value} {b : Int} {T : Int → Int} {tf : Addr} {P : List (Addr × Obj) → Prop} (R : Row b T) (TO : TurnOk w p loose mean mg mb T tf P) (y : Int) (t : Tok) (hy : b ≤ y ∧ y ≤ b + 10)
    {k : Bool} (hkk : decide (T (y + 1) - T y = 366) = k) :
    Con w p loose mean mg mb (.ref 92) [.int y t, .ref tf] 12 P (fun r tl => tl = [] ∧ r = .bool k) := by
  unfold Con
  k_fill
  intro dp un gd cn cs a ccd cl outer A₀ base h₀ L m news s Q E Bq Fq Xq Nq Tq hk hpre hd hu hret
  w_on
  w_top on
  refine wpAny_call ?_
  k_dflt cell_enter
  rename_i g1 L1 h1 FG F1 N1 BB X1 T1
  obtain ⟨oc, od, fd, sl, hmem⟩ := TO.fn news hpre
  have s1 := R.small y (by omega)
  have s2 := R.small (y + 1) (by omega)
  have st := R.step y
  have p1 : poff 1 = 0 := by decide
  have h1 : b ≤ y + 1 ∧ y + 1 ≤ b + 11 := by omega
  have h0 : b ≤ y ∧ y ≤ b + 11 := by omega
  obtain ⟨k1, hk1⟩ : ∃ k1, 2 * (T (y + 1) - 2 + poff 1 + 1) + 1 = k1 := ⟨_, rfl⟩
  obtain ⟨k0, hk0⟩ : ∃ k0, 2 * (T y - 2 + poff 1 + 1) + 1 = k0 := ⟨_, rfl⟩
  have B1 : k1.natAbs ≤ 1073741824 := by omega
  have B0 : k0.natAbs ≤ 1073741824 := by omega
  have B2 : (k1 - k0).natAbs ≤ 1073741824 := by omega
  have hb : decide (2 * 365 < k1 - k0) = k := by
    rw [← hkk, decide_eq_decide]; omega
  clear s1 s2 st p1 hkk
  w_strict k_steps
  all_goals (exact ret_bool hret (by assumption) (by assumption) rfl)
def pmon (yd : Int) : Int := if yd ≤ 186 then (yd + 30) / 31 else (yd + 23) / 30
theorem pfin1 {yd : Int} (h1 : 1 ≤ yd) (h : 2 * yd ≤ 2 * 186) : -(-(2 * yd) / (2 * 31)) = pmon yd ∧ (2 * yd - 2 * ((-(-(2 * yd) / (2 * 31)) - 1) * 31)) / 2 = yd - poff (pmon yd) := by
  unfold pmon
  rw [if_pos (by omega)]
  have e : -(-(2 * yd) / (2 * 31)) = (yd + 30) / 31 := by omega
  rw [e]
  unfold poff
  rw [if_pos (by omega)]
  omega
theorem pfin2 {yd : Int} (h1 : yd ≤ 366) (h : ¬ 2 * yd ≤ 2 * 186) : -(-(2 * yd - 2 * 6) / (2 * 30)) = pmon yd ∧ (2 * yd - 2 * ((-(-(2 * yd - 2 * 6) / (2 * 30)) - 1) * 30) - 2 * 6) / 2 = yd - poff (pmon yd) := by
  unfold pmon
  rw [if_neg (by omega)]
  have e : -(-(2 * yd - 2 * 6) / (2 * 30)) = (yd + 23) / 30 := by omega
  rw [e]
  unfold poff
  by_cases h7 : (yd + 23) / 30 ≤ 7
  · rw [if_pos h7]; omega
  · rw [if_neg h7]; omega
theorem ret_tup3 {h₀ h' : Heap} {L : Addr} {m : Str → Option Value} {news : List (Addr × Obj)} {s : Shared} {Q : Value → Shared → Prop} {y y' mo mo' d d' : Int} {a : Addr} {t1 t2 t3 : Tok} {tk : Nat}
    (hret : ∀ r tl h' tk', Fr h₀ L h' m → News h₀ L h' (tl ++ news) → (∀ q ∈ news, ∀ p ∈ tl, q.1 < p.1) → (∃ t1 t2 t3 a, r = .ref a ∧ tl = [(a, tup3 y mo d t1 t2 t3)]) → Q r { s with heap := h', toks := tk' })
    (F : Fr h₀ L h' m) (N : News h₀ L h' ((a, tup3 y' mo' d' t1 t2 t3) :: news)) (l : ∀ q ∈ news, q.1 < a) (e1 : y' = y) (e2 : mo' = mo) (e3 : d' = d) : Q (.ref a) { s with heap := h', toks := tk } := by
  subst e1 e2 e3
  exact hret _ [(a, tup3 y' mo' d' t1 t2 t3)] _ _ F N (fun q hq p hp => by rw [List.mem_singleton.mp hp]; exact l q hq) ⟨t1, t2, t3, a, rfl, rfl⟩
set_option maxRecDepth 100000 in
set_option maxHeartbeats 3000000 in
theorem c_frompjd {w : World} {p : Program} {loose : List Str} {mean : ExcName → Option Value} {mg mb : Str → Option Value} {b : Int} {T : Int → Int} {tf : Addr} {P : List (Addr × Obj) → Prop} (R : Row b T) (TO : TurnOk w p loose mean mg mb T tf P) (pp n : Int) (t : Tok) (hb : b - 5 ≤ pp ∧ pp ≤ b + 15) (hn : T pp ≤ n ∧ n < T (pp + 1))
    {k : Int} (hkk : 2 * n - 1 = k) {yd : Int} (hyd : n - T pp + 1 = yd) :
    Con w p loose mean mg mb (.ref 120) [.float (hf k) t, .ref tf] 8 P (fun r tl => ∃ t1 t2 t3 a, r = .ref a ∧ tl = [(a, tup3 pp (pmon yd) (yd - poff (pmon yd)) t1 t2 t3)]) := by
  unfold Con
  k_fill
  intro dp un gd cn cs a ccd cl outer A₀ base h₀ L m news s Q E Bq Fq Xq Nq Tq hk hpre hd hu hret
  w_on
  w_top on
  refine wpAny_call ?_
  k_dflt cell_enter
  rename_i g1 L1 h1 FG F1 N1 BB X1 T1
  obtain ⟨oc, od, fd, sl, hmem⟩ := TO.fn news hpre
  have A := at_day R hb hn
  rw [hkk] at A
  have s1 := R.small pp (by omega)
  have s2 := R.small (pp + 1) (by omega)
  have st := R.step pp
  have rr := R.round pp (by omega)
  have rr1 := rr.1
  have rr2 := rr.2
  obtain ⟨e, he⟩ : ∃ e, T pp - 2 = e := ⟨_, rfl⟩
  rw [he] at rr1 rr2
  have B1 : (2 * e - 3896641).natAbs ≤ 1073741824 := by omega
  have B2 : (pp - 1).natAbs ≤ 1073741824 := by have := R.lo; have := R.hi; omega
  have B3 : e.natAbs ≤ 549755813888 := by omega
  have B4 : k.natAbs ≤ 1073741824 := by omega
  have K1 : k / 2 = n - 1 := by omega
  have K2 : 2 * (n - 1) + 1 = k := by omega
  have B5 : (n - 1).natAbs ≤ 549755813888 := by omega
  have B6 : (2 * e + 1).natAbs ≤ 1073741824 := by omega
  have K3 : k - (2 * e + 1) = 2 * yd := by omega
  have hyd1 : 1 ≤ yd ∧ yd ≤ 366 := by omega
  have B7 : (2 * yd).natAbs ≤ 1073741824 := by omega
  have B8 : (2 * yd - 2 * 6).natAbs ≤ 1073741824 := by omega
  clear rr s1 s2 st
  w_strict k_steps
  all_goals (refine ret_tup3 hret (by assumption) (by assumption) (by assumption) (by omega) ?_ ?_)
  all_goals w_strict (first | exact (pfin1 hyd1.1 (by assumption)).1 | exact (pfin1 hyd1.1 (by assumption)).2 | exact (pfin2 hyd1.2 (by first | assumption | omega)).1 | exact (pfin2 hyd1.2 (by first | assumption | omega)).2)
end Mine
end
section
open PySem PySem.W PyProof.Rows
namespace Mine
local macro_rules | `(tactic| walk_at "no such step 0") => `(tactic| fail)
local macro_rules | `(tactic| walk_at "no such step 1") => `(tactic| fail)
local macro_rules | `(tactic| walk_at "no such step 2") => `(tactic| fail)
local macro_rules | `(tactic| walk_at "no such step 3") => `(tactic| fail)
local macro_rules | `(tactic| walk_at "no such step 4") => `(tactic| fail)
local macro_rules | `(tactic| walk_at "no such step 5") => `(tactic| fail)
local macro_rules | `(tactic| walk_at "no such step 6") => `(tactic| fail)
local macro_rules | `(tactic| walk_at "no such step 7") => `(tactic| fail)
local macro_rules | `(tactic| walk_at "no such step 8") => `(tactic| fail)
local macro_rules | `(tactic| walk_at "no such step 9") => `(tactic| fail)
local macro_rules | `(tactic| walk_at "no such step 10") => `(tactic| fail)
local macro_rules | `(tactic| walk_at "no such step 11") => `(tactic| fail)
local macro_rules | `(tactic| walk_at "no such step 12") => `(tactic| fail)
local macro_rules | `(tactic| walk_at "no such step 13") => `(tactic| fail)
local macro_rules | `(tactic| walk_at "no such step 14") => `(tactic| fail)
local macro_rules | `(tactic| walk_at "no such step 15") => `(tactic| fail)
local macro_rules | `(tactic| walk_at "no such step 16") => `(tactic| fail)
local macro_rules | `(tactic| walk_at "no such step 17") => `(tactic| fail)
local macro_rules | `(tactic| walk_at "no such step 18") => `(tactic| fail)
local macro_rules | `(tactic| walk_at "no such step 19") => `(tactic| fail)
local macro_rules | `(tactic| walk_at "no such step 20") => `(tactic| fail)
local macro_rules | `(tactic| walk_at "no such step 21") => `(tactic| fail)
local macro_rules | `(tactic| walk_at "no such step 22") => `(tactic| fail)
local macro_rules | `(tactic| walk_at "no such step 23") => `(tactic| fail)
local macro_rules | `(tactic| walk_at "no such step 24") => `(tactic| fail)
local macro_rules | `(tactic| walk_at "no such step 25") => `(tactic| fail)
local macro_rules | `(tactic| walk_at "no such step 26") => `(tactic| fail)
local macro_rules | `(tactic| walk_at "no such step 27") => `(tactic| fail)
local macro_rules | `(tactic| walk_at "no such step 28") => `(tactic| fail)
local macro_rules | `(tactic| walk_at "no such step 29") => `(tactic| fail)
local macro_rules | `(tactic| walk_at "no such step 30") => `(tactic| fail)
local macro_rules | `(tactic| walk_at "no such step 31") => `(tactic| fail)
local macro_rules | `(tactic| walk_at "no such step 32") => `(tactic| fail)
local macro_rules | `(tactic| walk_at "no such step 33") => `(tactic| fail)
local macro_rules | `(tactic| walk_at "no such step 34") => `(tactic| fail)
local macro_rules | `(tactic| walk_at "no such step 35") => `(tactic| fail)
local macro_rules | `(tactic| walk_at "no such step 36") => `(tactic| fail)
local macro_rules | `(tactic| walk_at "no such step 37") => `(tactic| fail)
local macro_rules | `(tactic| walk_at "no such step 38") => `(tactic| fail)
local macro_rules | `(tactic| walk_at "no such step 39") => `(tactic| fail)
local macro_rules | `(tactic| walk_at "binaryOp Sub float float") => `(tactic| (k_here; (with_reducible show wpAny _ _ (binaryOp _ (Value.float _ _) (Value.float _ _)) _ _ _); ((with_reducible refine' r_sub_ff ?hx ?hy ?ha ?hb ?e ?_); (case hx => (with_reducible (first | exact rfl | exact half_c | exact epg_c | exact epp_c))); (case hy => (with_reducible (first | exact rfl | exact half_c | exact epg_c | exact epp_c))); (case ha => k_dflt (first | with_reducible assumption | decide | omega)); (case hb => k_dflt (first | with_reducible assumption | decide | omega)); (case e => (first | with_reducible assumption | (k_dflt (exact rfl)))); k_whole)))
local macro_rules | `(tactic| walk_at "binaryOp Add float int") => `(tactic| (k_here; (with_reducible show wpAny _ _ (binaryOp _ (Value.float _ _) (Value.int _ _)) _ _ _); first | ((with_reducible refine' r_add_fi ?hx ?ha ?hn ?e ?_); (case hx => (with_reducible (first | exact rfl | exact half_c | exact epg_c | exact epp_c))); (case ha => k_dflt (first | with_reducible assumption | decide | omega)); (case hn => k_dflt (first | with_reducible assumption | decide | omega)); (case e => (first | with_reducible assumption | (k_dflt (exact rfl)))); k_whole) | ((with_reducible refine' r_add_xi ?hn ?_); (case hn => k_dflt (first | with_reducible assumption | decide | omega)); k_whole)))
local macro_rules | `(tactic| walk_at "binaryOp Sub float int") => `(tactic| (k_here; (with_reducible show wpAny _ _ (binaryOp _ (Value.float _ _) (Value.int _ _)) _ _ _); ((with_reducible refine' r_sub_fi ?hx ?ha ?hn ?e ?_); (case hx => (with_reducible (first | exact rfl | exact half_c | exact epg_c | exact epp_c))); (case ha => k_dflt (first | with_reducible assumption | decide | omega)); (case hn => k_dflt (first | with_reducible assumption | decide | omega)); (case e => (first | with_reducible assumption | (k_dflt (exact rfl)))); k_whole)))
local macro_rules | `(tactic| walk_at "binaryOp Add int float") => `(tactic| (k_here; (with_reducible show wpAny _ _ (binaryOp _ (Value.int _ _) (Value.float _ _)) _ _ _); ((with_reducible refine' r_add_if ?hx ?ha ?hn ?e ?_); (case hx => (with_reducible (first | exact rfl | exact half_c | exact epg_c | exact epp_c))); (case ha => k_dflt (first | with_reducible assumption | decide | omega)); (case hn => k_dflt (first | with_reducible assumption | decide | omega)); (case e => (first | with_reducible assumption | (k_dflt (exact rfl)))); k_whole)))
local macro_rules | `(tactic| walk_at "binaryOp Sub int float") => `(tactic| (k_here; (with_reducible show wpAny _ _ (binaryOp _ (Value.int _ _) (Value.float _ _)) _ _ _); ((with_reducible refine' r_sub_if ?hx ?ha ?hn ?e ?_); (case hx => (with_reducible (first | exact rfl | exact half_c | exact epg_c | exact epp_c))); (case ha => k_dflt (first | with_reducible assumption | decide | omega)); (case hn => k_dflt (first | with_reducible assumption | decide | omega)); (case e => (first | with_reducible assumption | (k_dflt (exact rfl)))); k_whole)))
local macro_rules | `(tactic| walk_at "binaryOp Mult float int") => `(tactic| (k_here; (with_reducible show wpAny _ _ (binaryOp _ (Value.float _ _) (Value.int _ _)) _ _ _); ((with_reducible refine' r_mul_fi ?hx ?ha ?hn ?hm ?e ?_); (case hx => (with_reducible (first | exact rfl | exact half_c | exact epg_c | exact epp_c))); (case ha => k_dflt (first | with_reducible assumption | decide | omega)); (case hn => k_dflt (first | with_reducible assumption | decide | omega)); (case hm => k_dflt (first | with_reducible assumption | decide | omega)); (case e => (first | with_reducible assumption | (k_dflt (exact rfl)))); k_whole)))
local macro_rules | `(tactic| walk_at "binaryOp Div float int") => `(tactic| (k_here; (with_reducible show wpAny _ _ (binaryOp _ (Value.float _ _) (Value.int _ _)) _ _ _); ((with_reducible refine' r_div_fi ?hn ?hm ?_); (case hn => k_dflt (first | with_reducible assumption | decide | omega)); (case hm => k_dflt (first | with_reducible assumption | decide | omega)); k_whole)))
local macro_rules | `(tactic| walk_at "binaryOp Mod float int") => `(tactic| (k_here; (with_reducible show wpAny _ _ (binaryOp _ (Value.float _ _) (Value.int _ _)) _ _ _); ((with_reducible refine' r_mod_fi ?hx ?ha ?he ?hn ?hm ?e ?_); (case hx => (with_reducible (first | exact rfl | exact half_c | exact epg_c | exact epp_c))); (case ha => k_dflt (first | with_reducible assumption | decide | omega)); (case he => k_dflt (first | with_reducible assumption | decide | omega)); (case hn => k_dflt (first | with_reducible assumption | decide | omega)); (case hm => k_dflt (first | with_reducible assumption | decide | omega)); (case e => (first | with_reducible assumption | (k_dflt (exact rfl)))); k_whole)))
local macro_rules | `(tactic| walk_at "binaryOp Div int int") => `(tactic| (k_here; (with_reducible show wpAny _ _ (binaryOp _ (Value.int _ _) (Value.int _ _)) _ _ _); ((with_reducible refine' r_div_ii ?hA ?ha ?hn ?hm ?_); (case hA => k_dflt (exact rfl)); (case ha => k_dflt (first | with_reducible assumption | decide | omega)); (case hn => k_dflt (first | with_reducible assumption | decide | omega)); (case hm => k_dflt (first | with_reducible assumption | decide | omega)); k_whole)))
local macro_rules | `(tactic| walk_at "call builtin:math.floor") => `(tactic| (k_here; (with_reducible show wpAny _ _ (call (Value.builtin "math.floor") [Value.float _ _]) _ _ _); first | ((with_reducible refine' r_floor_x ?hA ?hx ?e ?_); (case hA => k_dflt (exact rfl)); (case hx => with_reducible assumption); (case e => with_reducible assumption); k_whole) | ((with_reducible refine' r_floor_m ?hA ?hm ?hadj ?hd ?e ?_); (case hA => k_dflt (exact rfl)); (case hm => k_dflt (first | with_reducible assumption | decide | omega)); (case hadj => k_dflt omega); (case hd => k_dflt omega); (case e => (first | with_reducible assumption | (k_dflt (exact rfl)))); k_whole) | ((with_reducible refine' r_floor_q ?hA ?ha ?hn ?hm ?e ?_); (case hA => k_dflt (exact rfl)); (case ha => k_dflt (first | with_reducible assumption | decide | omega)); (case hn => k_dflt (first | with_reducible assumption | decide | omega)); (case hm => k_dflt (first | with_reducible assumption | decide | omega)); (case e => (first | with_reducible assumption | (k_dflt (exact rfl)))); k_whole) | ((with_reducible refine' r_floor_d ?hA ?hx ?ha ?hn ?hm ?e ?_); (case hA => k_dflt (exact rfl)); (case hx => with_reducible exact rfl); (case ha => k_dflt (first | with_reducible assumption | decide | omega)); (case hn => k_dflt (first | with_reducible assumption | decide | omega)); (case hm => k_dflt (first | with_reducible assumption | decide | omega)); (case e => (first | with_reducible assumption | (k_dflt (exact rfl)))); k_whole) | ((with_reducible refine' r_floor_h ?hA ?hx ?ha ?e ?_); (case hA => k_dflt (exact rfl)); (case hx => with_reducible exact rfl); (case ha => k_dflt (first | with_reducible assumption | decide | omega)); (case e => (first | with_reducible assumption | (k_dflt (exact rfl)))); k_whole)))
local macro_rules | `(tactic| walk_at "call builtin:math.ceil") => `(tactic| (k_here; (with_reducible show wpAny _ _ (call (Value.builtin "math.ceil") [Value.float _ _]) _ _ _); ((with_reducible refine' r_ceil_d ?hA ?hx ?ha ?hn ?hm ?e ?_); (case hA => k_dflt (exact rfl)); (case hx => with_reducible exact rfl); (case ha => k_dflt (first | with_reducible assumption | decide | omega)); (case hn => k_dflt (first | with_reducible assumption | decide | omega)); (case hm => k_dflt (first | with_reducible assumption | decide | omega)); (case e => (first | with_reducible assumption | (k_dflt (exact rfl)))); k_whole)))
local macro_rules | `(tactic| walk_at "call builtin:math.trunc") => `(tactic| (k_here; (with_reducible show wpAny _ _ (call (Value.builtin "math.trunc") [Value.float _ _]) _ _ _); ((with_reducible refine' r_trunc_h ?hA ?hx ?ha ?he ?e ?_); (case hA => k_dflt (exact rfl)); (case hx => with_reducible exact rfl); (case ha => k_dflt (first | with_reducible assumption | decide | omega)); (case he => k_dflt (first | with_reducible assumption | decide | omega)); (case e => (first | with_reducible assumption | (k_dflt (exact rfl)))); k_whole)))
local macro_rules | `(tactic| walk_at "call type:int") => `(tactic| (k_here; (with_reducible show wpAny _ _ (call (Value.type "int") [Value.float _ _]) _ _ _); ((with_reducible refine' r_int_h ?hA ?hx ?ha ?he ?e ?_); (case hA => k_dflt (exact rfl)); (case hx => with_reducible exact rfl); (case ha => k_dflt (first | with_reducible assumption | decide | omega)); (case he => k_dflt (first | with_reducible assumption | decide | omega)); (case e => (first | with_reducible assumption | (k_dflt (exact rfl)))); k_whole)))
local macro_rules | `(tactic| walk_at "compareOp Lt float int") => `(tactic| (k_here; (with_reducible show wpAny _ _ (compareOp _ (Value.float _ _) (Value.int _ _)) _ _ _); first | ((with_reducible refine' r_lt_fi ?hx ?ha ?e ?_); (case hx => with_reducible exact rfl); (case ha => k_dflt (first | with_reducible assumption | decide | omega)); (case e => (first | with_reducible assumption | (k_dflt (exact rfl)))); k_whole) | ((with_reducible refine' r_lt_xi ?hx ?e ?_); (case hx => assumption); (case e => (first | with_reducible assumption | (k_dflt (exact rfl)))); k_whole)))
local macro_rules | `(tactic| walk_at "compareOp LtE float int") => `(tactic| (k_here; (with_reducible show wpAny _ _ (compareOp _ (Value.float _ _) (Value.int _ _)) _ _ _); ((with_reducible refine' r_le_fi ?hx ?ha ?e ?_); (case hx => with_reducible exact rfl); (case ha => k_dflt (first | with_reducible assumption | decide | omega)); (case e => (first | with_reducible assumption | (k_dflt (exact rfl)))); k_whole)))
local macro_rules | `(tactic| walk_at "compareOp Gt float int") => `(tactic| (k_here; (with_reducible show wpAny _ _ (compareOp _ (Value.float _ _) (Value.int _ _)) _ _ _); ((with_reducible refine' r_gt_fi ?hx ?ha ?e ?_); (case hx => with_reducible exact rfl); (case ha => k_dflt (first | with_reducible assumption | decide | omega)); (case e => (first | with_reducible assumption | (k_dflt (exact rfl)))); k_whole)))
local macro_rules | `(tactic| walk_at "compareOp Gt int float") => `(tactic| (k_here; (with_reducible show wpAny _ _ (compareOp _ (Value.int _ _) (Value.float _ _)) _ _ _); ((with_reducible refine' r_gt_ix ?hx ?e ?_); (case hx => assumption); (case e => (first | with_reducible assumption | (k_dflt (exact rfl)))); k_whole)))
local macro_rules | `(tactic| walk_at "compareOp LtE int float") => `(tactic| (k_here; (with_reducible show wpAny _ _ (compareOp _ (Value.int _ _) (Value.float _ _)) _ _ _); ((with_reducible refine' r_le_ix ?hx ?e ?_); (case hx => assumption); (case e => (first | with_reducible assumption | (k_dflt (exact rfl)))); k_whole)))
local macro_rules | `(tactic| walk_at "compareOp NotEq float float") => `(tactic| (k_here; (with_reducible show wpAny _ _ (compareOp _ (Value.float _ _) (Value.float _ _)) _ _ _); ((with_reducible refine' r_ne_ff ?hx ?hy ?ha ?hb ?_); (case hx => with_reducible exact rfl); (case hy => with_reducible exact rfl); (case ha => k_dflt (first | with_reducible assumption | decide | omega)); (case hb => k_dflt (first | with_reducible assumption | decide | omega)); k_whole)))
local macro_rules | `(tactic| walk_at "compareOp In int ref") => `(tactic| (k_here; (with_reducible show wpAny _ _ (compareOp _ (Value.int _ _) (Value.ref _)) _ _ _); ((with_reducible refine' in_tupK ?F ?X ?l ?i ?b ?_); (case F => k_asm); (case X => k_asm); (case l => k_is); (case i => (repeat constructor)); (case b => assumption); k_whole)))
local macro_rules | `(tactic| walk_at "compareOp Eq int int") => `(tactic| (k_here; with_reducible (first | refine r_eq_y (by assumption) ?_ | refine r_eq_n (by assumption) ?_)))
local macro_rules | `(tactic| walk_at "compareOp NotEq int int") => `(tactic| (k_here; with_reducible (first | refine r_ne_y (by assumption) ?_ | refine r_ne_n (by assumption) ?_)))
local macro_rules | `(tactic| walk_at "compareOp Lt int int") => `(tactic| (k_here; with_reducible (first | refine r_lt_y (by assumption) ?_ | refine r_lt_n (by assumption) ?_)))
local macro_rules | `(tactic| walk_at "compareOp LtE int int") => `(tactic| (k_here; with_reducible (first | refine r_le_y (by assumption) ?_ | refine r_le_n (by assumption) ?_)))
local macro_rules | `(tactic| walk_at "compareOp Gt int int") => `(tactic| (k_here; with_reducible (first | refine r_gt_y (by assumption) ?_ | refine r_gt_n (by assumption) ?_)))
local macro_rules | `(tactic| walk_at "binaryOp Add int bool") => `(tactic| (k_here; with_reducible (refine r_add_ib (by assumption) ?_)))
local macro_rules | `(tactic| walk_at "binaryOp Mult int int") => `(tactic| (k_here; first | (refine r_mul_r (by decide) ?_) | (refine r_mul_l (by decide) ?_) | (refine r_mul_r (by assumption) ?_) | (refine r_mul_l (by assumption) ?_)))
local macro_rules | `(tactic| walk_at "callWith ref") => `(tactic| (k_here; k_dflt (refine' callWith_F ?k1 ?_; (case k1 => exact FnAt.of (by k_asm) (by (first | assumption | exact List.mem_cons_of_mem _ (by assumption) | exact List.mem_cons_of_mem _ (List.mem_cons_of_mem _ (by assumption)) | exact List.mem_cons_of_mem _ (List.mem_cons_of_mem _ (List.mem_cons_of_mem _ (by assumption)))))); k_whole)))
local macro_rules | `(tactic| walk_at "FnAt") => `(tactic| (k_dflt (exact FnAt.of (by k_asm) (by (first | assumption | exact List.mem_cons_of_mem _ (by assumption) | exact List.mem_cons_of_mem _ (List.mem_cons_of_mem _ (by assumption)) | exact List.mem_cons_of_mem _ (List.mem_cons_of_mem _ (List.mem_cons_of_mem _ (by assumption))))))))
local macro_rules | `(tactic| walk_at "call ref") => `(tactic| (k_here; with_reducible refine nil_app ?_))
local macro_rules | `(tactic| walk_at "binaryOp Div float float") => `(tactic| (k_here; with_reducible (refine r_div_TY rfl ?_)))
local macro_rules | `(tactic| walk_at "call builtin:round") => `(tactic| (k_here; (with_reducible show wpAny _ _ (call (Value.builtin "round") [Value.float _ _]) _ _ _); ((with_reducible refine' r_round_TY ?hA ?hx ?hy ?ha ?hn ?h1 ?h2 ?_); (case hA => k_dflt (exact rfl)); (case hx => with_reducible exact rfl); (case hy => exact TY_c); (case h1 => with_reducible assumption); (case h2 => with_reducible assumption); (case ha => k_dflt (first | with_reducible assumption | omega)); (case hn => k_dflt (first | with_reducible assumption | omega)); k_whole)))
local macro_rules | `(tactic| walk_at "call ref") => `(tactic| (k_here; (with_reducible show wpAny _ _ (call (Value.ref 76) [Value.int _ _, Value.int _ _, Value.int _ _]) _ _ _); (refine' con_use (c_tojd _ _ _ _ _ _ (by first | assumption | omega) (by first | assumption | omega) (by first | assumption | exact one_ok _ _) (by first | with_reducible assumption | exact rfl)) ?k1 ?k2 ?k3 ?k4 ?k5 ?kK ?kp ?kd ?ku ?_; (case k1 => k_asm); (case k2 => k_asm); (case k3 => k_asm); (case k4 => k_asm); (case k5 => k_asm); (case kK => first | exact rfl | assumption); (case kp => trivial); (case kd => ktr_room); (case ku => ktr_units)); intro r9 tl9 h9 tk9 F9 N9 l9 ho9; obtain ⟨e9, t9, ho9⟩ := ho9; subst e9; subst ho9; clear l9; (dsimp only [List.nil_append] at N9); (try dsimp only); (try k_fold)))
local macro_rules | `(tactic| walk_at "call ref") => `(tactic| (k_here; (with_reducible show wpAny _ _ (call (Value.ref 113) [Value.int _ _, Value.int _ _, Value.int _ _, Value.ref _]) _ _ _); (refine' con_use (c_topjd (by assumption) (by assumption) _ _ _ _ _ _ (by with_reducible assumption) (by first | with_reducible assumption | decide | omega) (by first | with_reducible assumption | decide | omega) (by first | with_reducible assumption | exact rfl)) ?k1 ?k2 ?k3 ?k4 ?k5 ?kK ?kp ?kd ?ku ?_; (case k1 => k_asm); (case k2 => k_asm); (case k3 => k_asm); (case k4 => k_asm); (case k5 => k_asm); (case kK => first | exact rfl | assumption); (case kp => (first | assumption | exact TurnOk.more (by assumption) _ _ (by first | assumption | exact TurnOk.more (by assumption) _ _ (by assumption)))); (case kd => ktr_room); (case ku => ktr_units)); intro r9 tl9 h9 tk9 F9 N9 l9 ho9; obtain ⟨e9, t9, ho9⟩ := ho9; subst e9; subst ho9; clear l9; (dsimp only [List.nil_append] at N9); (try dsimp only); (try k_fold)))
local macro_rules | `(tactic| walk_at "call ref") => `(tactic| (k_here; (with_reducible show wpAny _ _ (call (Value.ref 120) [Value.float _ _, Value.ref _]) _ _ _); (refine' con_use (c_frompjd (by assumption) (by assumption) _ _ _ (by assumption) (by assumption) (by with_reducible assumption) (by with_reducible assumption)) ?k1 ?k2 ?k3 ?k4 ?k5 ?kK ?kp ?kd ?ku ?_; (case k1 => k_asm); (case k2 => k_asm); (case k3 => k_asm); (case k4 => k_asm); (case k5 => k_asm); (case kK => first | exact rfl | assumption); (case kp => (first | assumption | exact TurnOk.more (by assumption) _ _ (by first | assumption | exact TurnOk.more (by assumption) _ _ (by assumption)))); (case kd => ktr_room); (case ku => ktr_units)); intro r9 tl9 h9 tk9 F9 N9 l9 ho9; obtain ⟨t91, t92, t93, a9, e9, ho9⟩ := ho9; subst e9; subst ho9; (dsimp only [List.cons_append, List.nil_append, tup3] at N9); (have l10 := fun q hq => l9 q hq _ (List.mem_singleton.mpr rfl)); clear l9; (try dsimp only); (try k_fold)))
local macro_rules | `(tactic| walk_at "call ref") => `(tactic| (k_here; (with_reducible show wpAny _ _ (call (Value.ref 83) [Value.float _ _]) _ _ _); (refine' con_use (c_fromjd _ _ _ (by assumption) (by assumption) (by assumption)) ?k1 ?k2 ?k3 ?k4 ?k5 ?kK ?kp ?kd ?ku ?_; (case k1 => k_asm); (case k2 => k_asm); (case k3 => k_asm); (case k4 => k_asm); (case k5 => k_asm); (case kK => first | exact rfl | assumption); (case kp => trivial); (case kd => ktr_room); (case ku => ktr_units)); intro r9 tl9 h9 tk9 F9 N9 l9 ho9; obtain ⟨y9, m9, d9, t91, t92, t93, a9, hd9, e9, ho9⟩ := ho9; subst e9; subst ho9; (dsimp only [List.cons_append, List.nil_append, tup3] at N9); (have l10 := fun q hq => l9 q hq _ (List.mem_singleton.mpr rfl)); clear l9; (try dsimp only); (try k_fold)))
set_option maxRecDepth 100000 in
set_option maxHeartbeats 3000000 in
theorem c_fromgreg {w : World} {p : Program} {loose : List Str} {mean : ExcName → Option Value} {mg mb : Str → Option Value} {b : Int} {T : Int → Int} {tf : Addr} {P : List (Addr × Obj) → Prop} (R : Row b T) (TO : TurnOk w p loose mean mg mb T tf P) (pp n y m1 d : Int) (t t1 t2 : Tok) (hb : b - 5 ≤ pp ∧ pp ≤ b + 15) (hn : T pp ≤ n ∧ n < T (pp + 1))
    (hD : IsDate n y m1 d) {yd : Int} (hyd : n - T pp + 1 = yd) :
    Con w p loose mean mg mb (.ref 127) [.int y t, .int m1 t1, .int d t2, .ref tf] 10 P (fun r tl => ∃ t1 t2 t3 a, r = .ref a ∧ tl = [(a, tup3 pp (pmon yd) (yd - poff (pmon yd)) t1 t2 t3)]) := by
  unfold Con
  k_fill
  intro dp un gd cn cs a ccd cl outer A₀ base h₀ L m news s Q E Bq Fq Xq Nq Tq hk hpre hd hu hret
  w_on
  w_top on
  refine wpAny_call ?_
  k_dflt cell_enter
  rename_i g1 L1 h1 FG F1 N1 BB X1 T1
  obtain ⟨oc, od, fd, sl, hmem⟩ := TO.fn news hpre
  have hy := date_year hD
  have s1 := R.small pp (by omega)
  have s2 := R.small (pp + 1) (by omega)
  have hyb : -100000 ≤ y ∧ y ≤ 100000 := by unfold jan at hy; omega
  obtain ⟨hm1, hd1, hn1⟩ := hD
  have hk1 : 2 * (jan y + moff (leapB y) m1 + d) - 3 = 2 * n - 1 := by omega
  obtain ⟨k, hkk⟩ : ∃ k, 2 * n - 1 = k := ⟨_, rfl⟩
  rw [hkk] at hk1
  clear s1 s2 hy hn1
  w_strict k_steps
  all_goals (refine ret_tup3 hret (by assumption) (by assumption) (by assumption) rfl rfl rfl)
set_option maxRecDepth 100000 in
set_option maxHeartbeats 3000000 in
theorem c_togreg {w : World} {p : Program} {loose : List Str} {mean : ExcName → Option Value} {mg mb : Str → Option Value} {b : Int} {T : Int → Int} {tf : Addr} {P : List (Addr × Obj) → Prop} (R : Row b T) (TO : TurnOk w p loose mean mg mb T tf P) (y mo d n : Int) (t t1 t2 : Tok) (hy : b ≤ y ∧ y ≤ b + 11) (hm : 1 ≤ mo ∧ mo ≤ 12) (hdd : 0 ≤ d ∧ d ≤ 400)
    (hn : T y + poff mo + d - 1 = n) (hnn : T y ≤ n ∧ n < T (y + 1)) :
    Con w p loose mean mg mb (.ref 134) [.int y t, .int mo t1, .int d t2, .ref tf] 12 P (fun r tl => ∃ y m d t1 t2 t3 a, IsDate n y m d ∧ r = .ref a ∧ tl = [(a, tup3 y m d t1 t2 t3)]) := by
  unfold Con
  k_fill
  intro dp un gd cn cs a ccd cl outer A₀ base h₀ L m news s Q E Bq Fq Xq Nq Tq hk hpre hd hu hret
  w_on
  w_top on
  refine wpAny_call ?_
  k_dflt cell_enter
  rename_i g1 L1 h1 FG F1 N1 BB X1 T1
  obtain ⟨oc, od, fd, sl, hmem⟩ := TO.fn news hpre
  have s1 := R.small y (by omega)
  have s2 := R.small (y + 1) (by omega)
  have A := at_day R (show b - 5 ≤ y ∧ y ≤ b + 15 by omega) hnn
  have hk1 : 2 * (T y - 2 + poff mo + d) + 1 = 2 * n - 1 := by omega
  obtain ⟨k, hkk⟩ : ∃ k, 2 * n - 1 = k := ⟨_, rfl⟩
  rw [hkk] at hk1 A
  have hFs := A.hFs
  have hfl := A.hfl
  have hnb : -12000000 ≤ n ∧ n ≤ 16000000 := by omega
  clear s1 s2 hn hnn
  w_strict k_steps
  all_goals (refine ret_tup hret (by assumption) (by assumption) (by assumption) (by assumption))
end Mine
end
section
open PySem PySem.W PyProof.Rows
namespace Mine
local macro_rules | `(tactic| walk_at "binaryOp Sub float float") => `(tactic| (k_here; (with_reducible show wpAny _ _ (binaryOp _ (Value.float _ _) (Value.float _ _)) _ _ _); ((with_reducible refine' r_sub_ff ?hx ?hy ?ha ?hb ?e ?_); (case hx => (with_reducible (first | exact rfl | exact half_c | exact epg_c | exact epp_c))); (case hy => (with_reducible (first | exact rfl | exact half_c | exact epg_c | exact epp_c))); (case ha => k_dflt (first | with_reducible assumption | decide | omega)); (case hb => k_dflt (first | with_reducible assumption | decide | omega)); (case e => (first | with_reducible assumption | (k_dflt (exact rfl)))); k_whole)))
local macro_rules | `(tactic| walk_at "binaryOp Add float int") => `(tactic| (k_here; (with_reducible show wpAny _ _ (binaryOp _ (Value.float _ _) (Value.int _ _)) _ _ _); first | ((with_reducible refine' r_add_fi ?hx ?ha ?hn ?e ?_); (case hx => (with_reducible (first | exact rfl | exact half_c | exact epg_c | exact epp_c))); (case ha => k_dflt (first | with_reducible assumption | decide | omega)); (case hn => k_dflt (first | with_reducible assumption | decide | omega)); (case e => (first | with_reducible assumption | (k_dflt (exact rfl)))); k_whole) | ((with_reducible refine' r_add_xi ?hn ?_); (case hn => k_dflt (first | with_reducible assumption | decide | omega)); k_whole)))
local macro_rules | `(tactic| walk_at "binaryOp Sub float int") => `(tactic| (k_here; (with_reducible show wpAny _ _ (binaryOp _ (Value.float _ _) (Value.int _ _)) _ _ _); ((with_reducible refine' r_sub_fi ?hx ?ha ?hn ?e ?_); (case hx => (with_reducible (first | exact rfl | exact half_c | exact epg_c | exact epp_c))); (case ha => k_dflt (first | with_reducible assumption | decide | omega)); (case hn => k_dflt (first | with_reducible assumption | decide | omega)); (case e => (first | with_reducible assumption | (k_dflt (exact rfl)))); k_whole)))
local macro_rules | `(tactic| walk_at "binaryOp Add int float") => `(tactic| (k_here; (with_reducible show wpAny _ _ (binaryOp _ (Value.int _ _) (Value.float _ _)) _ _ _); ((with_reducible refine' r_add_if ?hx ?ha ?hn ?e ?_); (case hx => (with_reducible (first | exact rfl | exact half_c | exact epg_c | exact epp_c))); (case ha => k_dflt (first | with_reducible assumption | decide | omega)); (case hn => k_dflt (first | with_reducible assumption | decide | omega)); (case e => (first | with_reducible assumption | (k_dflt (exact rfl)))); k_whole)))
local macro_rules | `(tactic| walk_at "binaryOp Sub int float") => `(tactic| (k_here; (with_reducible show wpAny _ _ (binaryOp _ (Value.int _ _) (Value.float _ _)) _ _ _); ((with_reducible refine' r_sub_if ?hx ?ha ?hn ?e ?_); (case hx => (with_reducible (first | exact rfl | exact half_c | exact epg_c | exact epp_c))); (case ha => k_dflt (first | with_reducible assumption | decide | omega)); (case hn => k_dflt (first | with_reducible assumption | decide | omega)); (case e => (first | with_reducible assumption | (k_dflt (exact rfl)))); k_whole)))
local macro_rules | `(tactic| walk_at "binaryOp Mult float int") => `(tactic| (k_here; (with_reducible show wpAny _ _ (binaryOp _ (Value.float _ _) (Value.int _ _)) _ _ _); ((with_reducible refine' r_mul_fi ?hx ?ha ?hn ?hm ?e ?_); (case hx => (with_reducible (first | exact rfl | exact half_c | exact epg_c | exact epp_c))); (case ha => k_dflt (first | with_reducible assumption | decide | omega)); (case hn => k_dflt (first | with_reducible assumption | decide | omega)); (case hm => k_dflt (first | with_reducible assumption | decide | omega)); (case e => (first | with_reducible assumption | (k_dflt (exact rfl)))); k_whole)))
local macro_rules | `(tactic| walk_at "binaryOp Div float int") => `(tactic| (k_here; (with_reducible show wpAny _ _ (binaryOp _ (Value.float _ _) (Value.int _ _)) _ _ _); ((with_reducible refine' r_div_fi ?hn ?hm ?_); (case hn => k_dflt (first | with_reducible assumption | decide | omega)); (case hm => k_dflt (first | with_reducible assumption | decide | omega)); k_whole)))
local macro_rules | `(tactic| walk_at "binaryOp Mod float int") => `(tactic| (k_here; (with_reducible show wpAny _ _ (binaryOp _ (Value.float _ _) (Value.int _ _)) _ _ _); ((with_reducible refine' r_mod_fi ?hx ?ha ?he ?hn ?hm ?e ?_); (case hx => (with_reducible (first | exact rfl | exact half_c | exact epg_c | exact epp_c))); (case ha => k_dflt (first | with_reducible assumption | decide | omega)); (case he => k_dflt (first | with_reducible assumption | decide | omega)); (case hn => k_dflt (first | with_reducible assumption | decide | omega)); (case hm => k_dflt (first | with_reducible assumption | decide | omega)); (case e => (first | with_reducible assumption | (k_dflt (exact rfl)))); k_whole)))
local macro_rules | `(tactic| walk_at "binaryOp Div int int") => `(tactic| (k_here; (with_reducible show wpAny _ _ (binaryOp _ (Value.int _ _) (Value.int _ _)) _ _ _); ((with_reducible refine' r_div_ii ?hA ?ha ?hn ?hm ?_); (case hA => k_dflt (exact rfl)); (case ha => k_dflt (first | with_reducible assumption | decide | omega)); (case hn => k_dflt (first | with_reducible assumption | decide | omega)); (case hm => k_dflt (first | with_reducible assumption | decide | omega)); k_whole)))
local macro_rules | `(tactic| walk_at "call builtin:math.floor") => `(tactic| (k_here; (with_reducible show wpAny _ _ (call (Value.builtin "math.floor") [Value.float _ _]) _ _ _); first | ((with_reducible refine' r_floor_x ?hA ?hx ?e ?_); (case hA => k_dflt (exact rfl)); (case hx => with_reducible assumption); (case e => with_reducible assumption); k_whole) | ((with_reducible refine' r_floor_m ?hA ?hm ?hadj ?hd ?e ?_); (case hA => k_dflt (exact rfl)); (case hm => k_dflt (first | with_reducible assumption | decide | omega)); (case hadj => k_dflt omega); (case hd => k_dflt omega); (case e => (first | with_reducible assumption | (k_dflt (exact rfl)))); k_whole) | ((with_reducible refine' r_floor_q ?hA ?ha ?hn ?hm ?e ?_); (case hA => k_dflt (exact rfl)); (case ha => k_dflt (first | with_reducible assumption | decide | omega)); (case hn => k_dflt (first | with_reducible assumption | decide | omega)); (case hm => k_dflt (first | with_reducible assumption | decide | omega)); (case e => (first | with_reducible assumption | (k_dflt (exact rfl)))); k_whole) | ((with_reducible refine' r_floor_d ?hA ?hx ?ha ?hn ?hm ?e ?_); (case hA => k_dflt (exact rfl)); (case hx => with_reducible exact rfl); (case ha => k_dflt (first | with_reducible assumption | decide | omega)); (case hn => k_dflt (first | with_reducible assumption | decide | omega)); (case hm => k_dflt (first | with_reducible assumption | decide | omega)); (case e => (first | with_reducible assumption | (k_dflt (exact rfl)))); k_whole) | ((with_reducible refine' r_floor_h ?hA ?hx ?ha ?e ?_); (case hA => k_dflt (exact rfl)); (case hx => with_reducible exact rfl); (case ha => k_dflt (first | with_reducible assumption | decide | omega)); (case e => (first | with_reducible assumption | (k_dflt (exact rfl)))); k_whole)))
local macro_rules | `(tactic| walk_at "call builtin:math.ceil") => `(tactic| (k_here; (with_reducible show wpAny _ _ (call (Value.builtin "math.ceil") [Value.float _ _]) _ _ _); ((with_reducible refine' r_ceil_d ?hA ?hx ?ha ?hn ?hm ?e ?_); (case hA => k_dflt (exact rfl)); (case hx => with_reducible exact rfl); (case ha => k_dflt (first | with_reducible assumption | decide | omega)); (case hn => k_dflt (first | with_reducible assumption | decide | omega)); (case hm => k_dflt (first | with_reducible assumption | decide | omega)); (case e => (first | with_reducible assumption | (k_dflt (exact rfl)))); k_whole)))
local macro_rules | `(tactic| walk_at "call builtin:math.trunc") => `(tactic| (k_here; (with_reducible show wpAny _ _ (call (Value.builtin "math.trunc") [Value.float _ _]) _ _ _); ((with_reducible refine' r_trunc_h ?hA ?hx ?ha ?he ?e ?_); (case hA => k_dflt (exact rfl)); (case hx => with_reducible exact rfl); (case ha => k_dflt (first | with_reducible assumption | decide | omega)); (case he => k_dflt (first | with_reducible assumption | decide | omega)); (case e => (first | with_reducible assumption | (k_dflt (exact rfl)))); k_whole)))
local macro_rules | `(tactic| walk_at "call type:int") => `(tactic| (k_here; (with_reducible show wpAny _ _ (call (Value.type "int") [Value.float _ _]) _ _ _); ((with_reducible refine' r_int_h ?hA ?hx ?ha ?he ?e ?_); (case hA => k_dflt (exact rfl)); (case hx => with_reducible exact rfl); (case ha => k_dflt (first | with_reducible assumption | decide | omega)); (case he => k_dflt (first | with_reducible assumption | decide | omega)); (case e => (first | with_reducible assumption | (k_dflt (exact rfl)))); k_whole)))
local macro_rules | `(tactic| walk_at "compareOp Lt float int") => `(tactic| (k_here; (with_reducible show wpAny _ _ (compareOp _ (Value.float _ _) (Value.int _ _)) _ _ _); first | ((with_reducible refine' r_lt_fi ?hx ?ha ?e ?_); (case hx => with_reducible exact rfl); (case ha => k_dflt (first | with_reducible assumption | decide | omega)); (case e => (first | with_reducible assumption | (k_dflt (exact rfl)))); k_whole) | ((with_reducible refine' r_lt_xi ?hx ?e ?_); (case hx => assumption); (case e => (first | with_reducible assumption | (k_dflt (exact rfl)))); k_whole)))
local macro_rules | `(tactic| walk_at "compareOp LtE float int") => `(tactic| (k_here; (with_reducible show wpAny _ _ (compareOp _ (Value.float _ _) (Value.int _ _)) _ _ _); ((with_reducible refine' r_le_fi ?hx ?ha ?e ?_); (case hx => with_reducible exact rfl); (case ha => k_dflt (first | with_reducible assumption | decide | omega)); (case e => (first | with_reducible assumption | (k_dflt (exact rfl)))); k_whole)))
local macro_rules | `(tactic| walk_at "compareOp Gt float int") => `(tactic| (k_here; (with_reducible show wpAny _ _ (compareOp _ (Value.float _ _) (Value.int _ _)) _ _ _); ((with_reducible refine' r_gt_fi ?hx ?ha ?e ?_); (case hx => with_reducible exact rfl); (case ha => k_dflt (first | with_reducible assumption | decide | omega)); (case e => (first | with_reducible assumption | (k_dflt (exact rfl)))); k_whole)))
local macro_rules | `(tactic| walk_at "compareOp Gt int float") => `(tactic| (k_here; (with_reducible show wpAny _ _ (compareOp _ (Value.int _ _) (Value.float _ _)) _ _ _); ((with_reducible refine' r_gt_ix ?hx ?e ?_); (case hx => assumption); (case e => (first | with_reducible assumption | (k_dflt (exact rfl)))); k_whole)))
local macro_rules | `(tactic| walk_at "compareOp LtE int float") => `(tactic| (k_here; (with_reducible show wpAny _ _ (compareOp _ (Value.int _ _) (Value.float _ _)) _ _ _); ((with_reducible refine' r_le_ix ?hx ?e ?_); (case hx => assumption); (case e => (first | with_reducible assumption | (k_dflt (exact rfl)))); k_whole)))
local macro_rules | `(tactic| walk_at "compareOp NotEq float float") => `(tactic| (k_here; (with_reducible show wpAny _ _ (compareOp _ (Value.float _ _) (Value.float _ _)) _ _ _); ((with_reducible refine' r_ne_ff ?hx ?hy ?ha ?hb ?_); (case hx => with_reducible exact rfl); (case hy => with_reducible exact rfl); (case ha => k_dflt (first | with_reducible assumption | decide | omega)); (case hb => k_dflt (first | with_reducible assumption | decide | omega)); k_whole)))
local macro_rules | `(tactic| walk_at "compareOp In int ref") => `(tactic| (k_here; (with_reducible show wpAny _ _ (compareOp _ (Value.int _ _) (Value.ref _)) _ _ _); ((with_reducible refine' in_tupK ?F ?X ?l ?i ?b ?_); (case F => k_asm); (case X => k_asm); (case l => k_is); (case i => (repeat constructor)); (case b => assumption); k_whole)))
local macro_rules | `(tactic| walk_at "compareOp Eq int int") => `(tactic| (k_here; with_reducible (first | refine r_eq_y (by assumption) ?_ | refine r_eq_n (by assumption) ?_)))
local macro_rules | `(tactic| walk_at "compareOp NotEq int int") => `(tactic| (k_here; with_reducible (first | refine r_ne_y (by assumption) ?_ | refine r_ne_n (by assumption) ?_)))
local macro_rules | `(tactic| walk_at "compareOp Lt int int") => `(tactic| (k_here; with_reducible (first | refine r_lt_y (by assumption) ?_ | refine r_lt_n (by assumption) ?_)))
local macro_rules | `(tactic| walk_at "compareOp LtE int int") => `(tactic| (k_here; with_reducible (first | refine r_le_y (by assumption) ?_ | refine r_le_n (by assumption) ?_)))
local macro_rules | `(tactic| walk_at "compareOp Gt int int") => `(tactic| (k_here; with_reducible (first | refine r_gt_y (by assumption) ?_ | refine r_gt_n (by assumption) ?_)))
local macro_rules | `(tactic| walk_at "binaryOp Add int bool") => `(tactic| (k_here; with_reducible (refine r_add_ib (by assumption) ?_)))
local macro_rules | `(tactic| walk_at "binaryOp Mult int int") => `(tactic| (k_here; first | (refine r_mul_r (by decide) ?_) | (refine r_mul_l (by decide) ?_) | (refine r_mul_r (by assumption) ?_) | (refine r_mul_l (by assumption) ?_)))
local macro_rules | `(tactic| walk_at "callWith ref") => `(tactic| (k_here; k_dflt (refine' callWith_F ?k1 ?_; (case k1 => exact FnAt.of (by k_asm) (by (first | assumption | exact List.mem_cons_of_mem _ (by assumption) | exact List.mem_cons_of_mem _ (List.mem_cons_of_mem _ (by assumption)) | exact List.mem_cons_of_mem _ (List.mem_cons_of_mem _ (List.mem_cons_of_mem _ (by assumption)))))); k_whole)))
local macro_rules | `(tactic| walk_at "FnAt") => `(tactic| (k_dflt (exact FnAt.of (by k_asm) (by (first | assumption | exact List.mem_cons_of_mem _ (by assumption) | exact List.mem_cons_of_mem _ (List.mem_cons_of_mem _ (by assumption)) | exact List.mem_cons_of_mem _ (List.mem_cons_of_mem _ (List.mem_cons_of_mem _ (by assumption))))))))
local macro_rules | `(tactic| walk_at "call ref") => `(tactic| (k_here; with_reducible refine nil_app ?_))
local macro_rules | `(tactic| walk_at "binaryOp Div float float") => `(tactic| (k_here; with_reducible (refine r_div_TY rfl ?_)))
local macro_rules | `(tactic| walk_at "call builtin:round") => `(tactic| (k_here; (with_reducible show wpAny _ _ (call (Value.builtin "round") [Value.float _ _]) _ _ _); ((with_reducible refine' r_round_TY ?hA ?hx ?hy ?ha ?hn ?h1 ?h2 ?_); (case hA => k_dflt (exact rfl)); (case hx => with_reducible exact rfl); (case hy => exact TY_c); (case h1 => with_reducible assumption); (case h2 => with_reducible assumption); (case ha => k_dflt (first | with_reducible assumption | omega)); (case hn => k_dflt (first | with_reducible assumption | omega)); k_whole)))
local macro_rules | `(tactic| walk_at "call ref") => `(tactic| (k_here; (with_reducible show wpAny _ _ (call (Value.ref 92) [Value.int _ _, Value.ref _]) _ _ _); (refine' con_use (c_pleap (by assumption) (by assumption) _ _ (by assumption) (by with_reducible assumption)) ?k1 ?k2 ?k3 ?k4 ?k5 ?kK ?kp ?kd ?ku ?_; (case k1 => k_asm); (case k2 => k_asm); (case k3 => k_asm); (case k4 => k_asm); (case k5 => k_asm); (case kK => first | exact rfl | assumption); (case kp => (first | assumption | exact TurnOk.more (by assumption) _ _ (by first | assumption | exact TurnOk.more (by assumption) _ _ (by assumption)))); (case kd => ktr_room); (case ku => ktr_units)); intro r9 tl9 h9 tk9 F9 N9 l9 ho9; obtain ⟨e9, ho9⟩ := ho9; subst e9; subst ho9; clear l9; (dsimp only [List.nil_append] at N9); (try dsimp only); (try k_fold)))
def plen (mo : Int) (l : Bool) : Int := if mo ≤ 6 then 31 else if mo ≤ 11 then 30 else if l then 30 else 29
set_option maxRecDepth 100000 in
set_option maxHeartbeats 3000000 in
theorem c_mlen {w : World} {p : Program} {loose : List Str} {mean : ExcName → Option Value} {mg mb : Str → Option Value} {b : Int} {T : Int → Int} {tf : Addr} {P : List (Addr × Obj) → Prop} (R : Row b T) (TO : TurnOk w p loose mean mg mb T tf P) (y mo : Int) (t t1 : Tok) (hy : b ≤ y ∧ y ≤ b + 10) (hm : 1 ≤ mo ∧ mo ≤ 12)
    {l : Bool} (hl : decide (T (y + 1) - T y = 366) = l) {k : Int} (hkk : plen mo l = k) :
    Con w p loose mean mg mb (.ref 141) [.int y t, .int mo t1, .ref tf] 14 P (fun r tl => tl = [] ∧ ∃ t', r = .int k t') := by
  unfold Con
  k_fill
  intro dp un gd cn cs a ccd cl outer A₀ base h₀ L m news s Q E Bq Fq Xq Nq Tq hk hpre hd hu hret
  w_on
  w_top on
  refine wpAny_call ?_
  k_dflt cell_enter
  rename_i g1 L1 h1 FG F1 N1 BB X1 T1
  obtain ⟨oc, od, fd, sl, hmem⟩ := TO.fn news hpre
  by_cases h6 : mo ≤ 6
  · have hin : ([7, 8, 9, 10, 11] : List Int).any (· == mo) = false := by simp; omega
    have hin2 : ([1, 2, 3, 4, 5, 6] : List Int).any (· == mo) = true := by simp; omega
    have h12 : mo ≠ 12 := by omega
    have hke : 31 = k := by rw [← hkk]; unfold plen; rw [if_pos h6]
    w_strict k_steps
    all_goals (refine ret_int hret (by assumption) (by assumption) hke)
  · by_cases h11 : mo ≤ 11
    · have hin : ([7, 8, 9, 10, 11] : List Int).any (· == mo) = true := by simp; omega
      have hke : 30 = k := by rw [← hkk]; unfold plen; rw [if_neg h6, if_pos h11]
      w_strict k_steps
      all_goals (refine ret_int hret (by assumption) (by assumption) hke)
    · have h12 : mo = 12 := by omega
      have hin : ([7, 8, 9, 10, 11] : List Int).any (· == mo) = false := by simp; omega
      have hin2 : ([1, 2, 3, 4, 5, 6] : List Int).any (· == mo) = false := by simp; omega
      cases l
      · have hke : 29 = k := by rw [← hkk]; unfold plen; rw [if_neg h6, if_neg h11]; rfl
        w_strict k_steps
        all_goals (refine ret_int hret (by assumption) (by assumption) hke)
      · have hke : 30 = k := by rw [← hkk]; unfold plen; rw [if_neg h6, if_neg h11]; rfl
        w_strict k_steps
        all_goals (refine ret_int hret (by assumption) (by assumption) hke)
set_option maxRecDepth 100000 in
set_option maxHeartbeats 3000000 in
theorem c_january {w : World} {p : Program} {loose : List Str} {mean : ExcName → Option Value} {mg mb : Str → Option Value} (y : Int) (t : Tok) {k : Int} (hkk : jan y = k) :
    Con w p loose mean mg mb (.ref 155) [.int y t] 2 (fun _ => True) (fun r tl => tl = [] ∧ ∃ t', r = .int k t') := by
  unfold Con
  k_fill
  intro dp un gd cn cs a ccd cl outer A₀ base h₀ L m news s Q E Bq Fq Xq Nq Tq hk hpre hd hu hret
  w_on
  w_top on
  refine wpAny_call ?_
  k_dflt cell_enter
  rename_i g1 L1 h1 FG F1 N1 BB X1 T1
  w_strict k_steps
  all_goals (refine ret_int hret (by assumption) (by assumption) ?_)
  all_goals (simp only [Int.fmod_eq_emod_of_nonneg _ (show (0 : Int) ≤ 400 by decide), Int.fmod_eq_emod_of_nonneg _ (show (0 : Int) ≤ 100 by decide), Int.fmod_eq_emod_of_nonneg _ (show (0 : Int) ≤ 4 by decide), Int.fdiv_eq_ediv_of_nonneg _ (show (0 : Int) ≤ 400 by decide), Int.fdiv_eq_ediv_of_nonneg _ (show (0 : Int) ≤ 100 by decide), Int.fdiv_eq_ediv_of_nonneg _ (show (0 : Int) ≤ 4 by decide)]; rw [← hkk]; unfold jan; omega)
end Mine
end
section
open PySem PySem.W PyProof.Rows
namespace Mine
theorem walk_guess {n y m d : Int} (h : IsDate n y m d) (hn : -12000000 ≤ n ∧ n ≤ 16000000) : (n - 1721426) * 400 / 146097 + 1 = y - 1 ∨ (n - 1721426) * 400 / 146097 + 1 = y ∨ (n - 1721426) * 400 / 146097 + 1 = y + 1 := by
  have a := date_year h
  unfold jan at a
  omega
local macro_rules | `(tactic| walk_at "no such step 0") => `(tactic| fail)
local macro_rules | `(tactic| walk_at "no such step 1") => `(tactic| fail)
local macro_rules | `(tactic| walk_at "no such step 2") => `(tactic| fail)
local macro_rules | `(tactic| walk_at "no such step 3") => `(tactic| fail)
local macro_rules | `(tactic| walk_at "no such step 4") => `(tactic| fail)
local macro_rules | `(tactic| walk_at "no such step 5") => `(tactic| fail)
local macro_rules | `(tactic| walk_at "no such step 6") => `(tactic| fail)
local macro_rules | `(tactic| walk_at "no such step 7") => `(tactic| fail)
local macro_rules | `(tactic| walk_at "no such step 8") => `(tactic| fail)
local macro_rules | `(tactic| walk_at "no such step 9") => `(tactic| fail)
local macro_rules | `(tactic| walk_at "no such step 10") => `(tactic| fail)
local macro_rules | `(tactic| walk_at "no such step 11") => `(tactic| fail)
local macro_rules | `(tactic| walk_at "no such step 12") => `(tactic| fail)
local macro_rules | `(tactic| walk_at "no such step 13") => `(tactic| fail)
local macro_rules | `(tactic| walk_at "no such step 14") => `(tactic| fail)
local macro_rules | `(tactic| walk_at "no such step 15") => `(tactic| fail)
local macro_rules | `(tactic| walk_at "no such step 16") => `(tactic| fail)
local macro_rules | `(tactic| walk_at "no such step 17") => `(tactic| fail)
local macro_rules | `(tactic| walk_at "no such step 18") => `(tactic| fail)
local macro_rules | `(tactic| walk_at "no such step 19") => `(tactic| fail)
local macro_rules | `(tactic| walk_at "no such step 20") => `(tactic| fail)
local macro_rules | `(tactic| walk_at "no such step 21") => `(tactic| fail)
local macro_rules | `(tactic| walk_at "no such step 22") => `(tactic| fail)
local macro_rules | `(tactic| walk_at "no such step 23") => `(tactic| fail)
local macro_rules | `(tactic| walk_at "no such step 24") => `(tactic| fail)
local macro_rules | `(tactic| walk_at "no such step 25") => `(tactic| fail)
local macro_rules | `(tactic| walk_at "no such step 26") => `(tactic| fail)
local macro_rules | `(tactic| walk_at "no such step 27") => `(tactic| fail)
local macro_rules | `(tactic| walk_at "no such step 28") => `(tactic| fail)
local macro_rules | `(tactic| walk_at "no such step 29") => `(tactic| fail)
local macro_rules | `(tactic| walk_at "no such step 30") => `(tactic| fail)
local macro_rules | `(tactic| walk_at "no such step 31") => `(tactic| fail)
local macro_rules | `(tactic| walk_at "no such step 32") => `(tactic| fail)
local macro_rules | `(tactic| walk_at "no such step 33") => `(tactic| fail)
local macro_rules | `(tactic| walk_at "no such step 34") => `(tactic| fail)
local macro_rules | `(tactic| walk_at "no such step 35") => `(tactic| fail)
local macro_rules | `(tactic| walk_at "no such step 36") => `(tactic| fail)
local macro_rules | `(tactic| walk_at "no such step 37") => `(tactic| fail)
local macro_rules | `(tactic| walk_at "no such step 38") => `(tactic| fail)
local macro_rules | `(tactic| walk_at "no such step 39") => `(tactic| fail)
local macro_rules | `(tactic| walk_at "binaryOp Sub float float") => `(tactic| (k_here; (with_reducible show wpAny _ _ (binaryOp _ (Value.float _ _) (Value.float _ _)) _ _ _); ((with_reducible refine' r_sub_ff ?hx ?hy ?ha ?hb ?e ?_); (case hx => (with_reducible (first | exact rfl | exact half_c | exact epg_c | exact epp_c))); (case hy => (with_reducible (first | exact rfl | exact half_c | exact epg_c | exact epp_c))); (case ha => k_dflt (first | with_reducible assumption | decide | omega)); (case hb => k_dflt (first | with_reducible assumption | decide | omega)); (case e => (first | with_reducible assumption | (k_dflt (exact rfl)))); k_whole)))
local macro_rules | `(tactic| walk_at "binaryOp Add float int") => `(tactic| (k_here; (with_reducible show wpAny _ _ (binaryOp _ (Value.float _ _) (Value.int _ _)) _ _ _); first | ((with_reducible refine' r_add_fi ?hx ?ha ?hn ?e ?_); (case hx => (with_reducible (first | exact rfl | exact half_c | exact epg_c | exact epp_c))); (case ha => k_dflt (first | with_reducible assumption | decide | omega)); (case hn => k_dflt (first | with_reducible assumption | decide | omega)); (case e => (first | with_reducible assumption | (k_dflt (exact rfl)))); k_whole) | ((with_reducible refine' r_add_xi ?hn ?_); (case hn => k_dflt (first | with_reducible assumption | decide | omega)); k_whole)))
local macro_rules | `(tactic| walk_at "binaryOp Sub float int") => `(tactic| (k_here; (with_reducible show wpAny _ _ (binaryOp _ (Value.float _ _) (Value.int _ _)) _ _ _); ((with_reducible refine' r_sub_fi ?hx ?ha ?hn ?e ?_); (case hx => (with_reducible (first | exact rfl | exact half_c | exact epg_c | exact epp_c))); (case ha => k_dflt (first | with_reducible assumption | decide | omega)); (case hn => k_dflt (first | with_reducible assumption | decide | omega)); (case e => (first | with_reducible assumption | (k_dflt (exact rfl)))); k_whole)))
local macro_rules | `(tactic| walk_at "binaryOp Add int float") => `(tactic| (k_here; (with_reducible show wpAny _ _ (binaryOp _ (Value.int _ _) (Value.float _ _)) _ _ _); ((with_reducible refine' r_add_if ?hx ?ha ?hn ?e ?_); (case hx => (with_reducible (first | exact rfl | exact half_c | exact epg_c | exact epp_c))); (case ha => k_dflt (first | with_reducible assumption | decide | omega)); (case hn => k_dflt (first | with_reducible assumption | decide | omega)); (case e => (first | with_reducible assumption | (k_dflt (exact rfl)))); k_whole)))
local macro_rules | `(tactic| walk_at "binaryOp Sub int float") => `(tactic| (k_here; (with_reducible show wpAny _ _ (binaryOp _ (Value.int _ _) (Value.float _ _)) _ _ _); ((with_reducible refine' r_sub_if ?hx ?ha ?hn ?e ?_); (case hx => (with_reducible (first | exact rfl | exact half_c | exact epg_c | exact epp_c))); (case ha => k_dflt (first | with_reducible assumption | decide | omega)); (case hn => k_dflt (first | with_reducible assumption | decide | omega)); (case e => (first | with_reducible assumption | (k_dflt (exact rfl)))); k_whole)))
local macro_rules | `(tactic| walk_at "binaryOp Mult float int") => `(tactic| (k_here; (with_reducible show wpAny _ _ (binaryOp _ (Value.float _ _) (Value.int _ _)) _ _ _); ((with_reducible refine' r_mul_fi ?hx ?ha ?hn ?hm ?e ?_); (case hx => (with_reducible (first | exact rfl | exact half_c | exact epg_c | exact epp_c))); (case ha => k_dflt (first | with_reducible assumption | decide | omega)); (case hn => k_dflt (first | with_reducible assumption | decide | omega)); (case hm => k_dflt (first | with_reducible assumption | decide | omega)); (case e => (first | with_reducible assumption | (k_dflt (exact rfl)))); k_whole)))
local macro_rules | `(tactic| walk_at "binaryOp Div float int") => `(tactic| (k_here; (with_reducible show wpAny _ _ (binaryOp _ (Value.float _ _) (Value.int _ _)) _ _ _); ((with_reducible refine' r_div_fi ?hn ?hm ?_); (case hn => k_dflt (first | with_reducible assumption | decide | omega)); (case hm => k_dflt (first | with_reducible assumption | decide | omega)); k_whole)))
local macro_rules | `(tactic| walk_at "binaryOp Mod float int") => `(tactic| (k_here; (with_reducible show wpAny _ _ (binaryOp _ (Value.float _ _) (Value.int _ _)) _ _ _); ((with_reducible refine' r_mod_fi ?hx ?ha ?he ?hn ?hm ?e ?_); (case hx => (with_reducible (first | exact rfl | exact half_c | exact epg_c | exact epp_c))); (case ha => k_dflt (first | with_reducible assumption | decide | omega)); (case he => k_dflt (first | with_reducible assumption | decide | omega)); (case hn => k_dflt (first | with_reducible assumption | decide | omega)); (case hm => k_dflt (first | with_reducible assumption | decide | omega)); (case e => (first | with_reducible assumption | (k_dflt (exact rfl)))); k_whole)))
local macro_rules | `(tactic| walk_at "binaryOp Div int int") => `(tactic| (k_here; (with_reducible show wpAny _ _ (binaryOp _ (Value.int _ _) (Value.int _ _)) _ _ _); ((with_reducible refine' r_div_ii ?hA ?ha ?hn ?hm ?_); (case hA => k_dflt (exact rfl)); (case ha => k_dflt (first | with_reducible assumption | decide | omega)); (case hn => k_dflt (first | with_reducible assumption | decide | omega)); (case hm => k_dflt (first | with_reducible assumption | decide | omega)); k_whole)))
local macro_rules | `(tactic| walk_at "call builtin:math.floor") => `(tactic| (k_here; (with_reducible show wpAny _ _ (call (Value.builtin "math.floor") [Value.float _ _]) _ _ _); first | ((with_reducible refine' r_floor_x ?hA ?hx ?e ?_); (case hA => k_dflt (exact rfl)); (case hx => with_reducible assumption); (case e => with_reducible assumption); k_whole) | ((with_reducible refine' r_floor_m ?hA ?hm ?hadj ?hd ?e ?_); (case hA => k_dflt (exact rfl)); (case hm => k_dflt (first | with_reducible assumption | decide | omega)); (case hadj => k_dflt omega); (case hd => k_dflt omega); (case e => (first | with_reducible assumption | (k_dflt (exact rfl)))); k_whole) | ((with_reducible refine' r_floor_q ?hA ?ha ?hn ?hm ?e ?_); (case hA => k_dflt (exact rfl)); (case ha => k_dflt (first | with_reducible assumption | decide | omega)); (case hn => k_dflt (first | with_reducible assumption | decide | omega)); (case hm => k_dflt (first | with_reducible assumption | decide | omega)); (case e => (first | with_reducible assumption | (k_dflt (exact rfl)))); k_whole) | ((with_reducible refine' r_floor_d ?hA ?hx ?ha ?hn ?hm ?e ?_); (case hA => k_dflt (exact rfl)); (case hx => with_reducible exact rfl); (case ha => k_dflt (first | with_reducible assumption | decide | omega)); (case hn => k_dflt (first | with_reducible assumption | decide | omega)); (case hm => k_dflt (first | with_reducible assumption | decide | omega)); (case e => (first | with_reducible assumption | (k_dflt (exact rfl)))); k_whole) | ((with_reducible refine' r_floor_h ?hA ?hx ?ha ?e ?_); (case hA => k_dflt (exact rfl)); (case hx => with_reducible exact rfl); (case ha => k_dflt (first | with_reducible assumption | decide | omega)); (case e => (first | with_reducible assumption | (k_dflt (exact rfl)))); k_whole)))
local macro_rules | `(tactic| walk_at "call builtin:math.ceil") => `(tactic| (k_here; (with_reducible show wpAny _ _ (call (Value.builtin "math.ceil") [Value.float _ _]) _ _ _); ((with_reducible refine' r_ceil_d ?hA ?hx ?ha ?hn ?hm ?e ?_); (case hA => k_dflt (exact rfl)); (case hx => with_reducible exact rfl); (case ha => k_dflt (first | with_reducible assumption | decide | omega)); (case hn => k_dflt (first | with_reducible assumption | decide | omega)); (case hm => k_dflt (first | with_reducible assumption | decide | omega)); (case e => (first | with_reducible assumption | (k_dflt (exact rfl)))); k_whole)))
local macro_rules | `(tactic| walk_at "call builtin:math.trunc") => `(tactic| (k_here; (with_reducible show wpAny _ _ (call (Value.builtin "math.trunc") [Value.float _ _]) _ _ _); ((with_reducible refine' r_trunc_h ?hA ?hx ?ha ?he ?e ?_); (case hA => k_dflt (exact rfl)); (case hx => with_reducible exact rfl); (case ha => k_dflt (first | with_reducible assumption | decide | omega)); (case he => k_dflt (first | with_reducible assumption | decide | omega)); (case e => (first | with_reducible assumption | (k_dflt (exact rfl)))); k_whole)))
local macro_rules | `(tactic| walk_at "call type:int") => `(tactic| (k_here; (with_reducible show wpAny _ _ (call (Value.type "int") [Value.float _ _]) _ _ _); ((with_reducible refine' r_int_h ?hA ?hx ?ha ?he ?e ?_); (case hA => k_dflt (exact rfl)); (case hx => with_reducible exact rfl); (case ha => k_dflt (first | with_reducible assumption | decide | omega)); (case he => k_dflt (first | with_reducible assumption | decide | omega)); (case e => (first | with_reducible assumption | (k_dflt (exact rfl)))); k_whole)))
local macro_rules | `(tactic| walk_at "compareOp Lt float int") => `(tactic| (k_here; (with_reducible show wpAny _ _ (compareOp _ (Value.float _ _) (Value.int _ _)) _ _ _); first | ((with_reducible refine' r_lt_fi ?hx ?ha ?e ?_); (case hx => with_reducible exact rfl); (case ha => k_dflt (first | with_reducible assumption | decide | omega)); (case e => (first | with_reducible assumption | (k_dflt (exact rfl)))); k_whole) | ((with_reducible refine' r_lt_xi ?hx ?e ?_); (case hx => assumption); (case e => (first | with_reducible assumption | (k_dflt (exact rfl)))); k_whole)))
local macro_rules | `(tactic| walk_at "compareOp LtE float int") => `(tactic| (k_here; (with_reducible show wpAny _ _ (compareOp _ (Value.float _ _) (Value.int _ _)) _ _ _); ((with_reducible refine' r_le_fi ?hx ?ha ?e ?_); (case hx => with_reducible exact rfl); (case ha => k_dflt (first | with_reducible assumption | decide | omega)); (case e => (first | with_reducible assumption | (k_dflt (exact rfl)))); k_whole)))
local macro_rules | `(tactic| walk_at "compareOp Gt float int") => `(tactic| (k_here; (with_reducible show wpAny _ _ (compareOp _ (Value.float _ _) (Value.int _ _)) _ _ _); ((with_reducible refine' r_gt_fi ?hx ?ha ?e ?_); (case hx => with_reducible exact rfl); (case ha => k_dflt (first | with_reducible assumption | decide | omega)); (case e => (first | with_reducible assumption | (k_dflt (exact rfl)))); k_whole)))
local macro_rules | `(tactic| walk_at "compareOp Gt int float") => `(tactic| (k_here; (with_reducible show wpAny _ _ (compareOp _ (Value.int _ _) (Value.float _ _)) _ _ _); ((with_reducible refine' r_gt_ix ?hx ?e ?_); (case hx => assumption); (case e => (first | with_reducible assumption | (k_dflt (exact rfl)))); k_whole)))
local macro_rules | `(tactic| walk_at "compareOp LtE int float") => `(tactic| (k_here; (with_reducible show wpAny _ _ (compareOp _ (Value.int _ _) (Value.float _ _)) _ _ _); ((with_reducible refine' r_le_ix ?hx ?e ?_); (case hx => assumption); (case e => (first | with_reducible assumption | (k_dflt (exact rfl)))); k_whole)))
local macro_rules | `(tactic| walk_at "compareOp NotEq float float") => `(tactic| (k_here; (with_reducible show wpAny _ _ (compareOp _ (Value.float _ _) (Value.float _ _)) _ _ _); ((with_reducible refine' r_ne_ff ?hx ?hy ?ha ?hb ?_); (case hx => with_reducible exact rfl); (case hy => with_reducible exact rfl); (case ha => k_dflt (first | with_reducible assumption | decide | omega)); (case hb => k_dflt (first | with_reducible assumption | decide | omega)); k_whole)))
local macro_rules | `(tactic| walk_at "compareOp In int ref") => `(tactic| (k_here; (with_reducible show wpAny _ _ (compareOp _ (Value.int _ _) (Value.ref _)) _ _ _); ((with_reducible refine' in_tupK ?F ?X ?l ?i ?b ?_); (case F => k_asm); (case X => k_asm); (case l => k_is); (case i => (repeat constructor)); (case b => assumption); k_whole)))
local macro_rules | `(tactic| walk_at "compareOp Eq int int") => `(tactic| (k_here; with_reducible (first | refine r_eq_y (by assumption) ?_ | refine r_eq_n (by assumption) ?_)))
local macro_rules | `(tactic| walk_at "compareOp NotEq int int") => `(tactic| (k_here; with_reducible (first | refine r_ne_y (by assumption) ?_ | refine r_ne_n (by assumption) ?_)))
local macro_rules | `(tactic| walk_at "compareOp Lt int int") => `(tactic| (k_here; with_reducible (first | refine r_lt_y (by assumption) ?_ | refine r_lt_n (by assumption) ?_)))
local macro_rules | `(tactic| walk_at "compareOp LtE int int") => `(tactic| (k_here; with_reducible (first | refine r_le_y (by assumption) ?_ | refine r_le_n (by assumption) ?_)))
local macro_rules | `(tactic| walk_at "compareOp Gt int int") => `(tactic| (k_here; with_reducible (first | refine r_gt_y (by assumption) ?_ | refine r_gt_n (by assumption) ?_)))
local macro_rules | `(tactic| walk_at "binaryOp Add int bool") => `(tactic| (k_here; with_reducible (refine r_add_ib (by assumption) ?_)))
local macro_rules | `(tactic| walk_at "binaryOp Mult int int") => `(tactic| (k_here; first | (refine r_mul_r (by decide) ?_) | (refine r_mul_l (by decide) ?_) | (refine r_mul_r (by assumption) ?_) | (refine r_mul_l (by assumption) ?_)))
local macro_rules | `(tactic| walk_at "callWith ref") => `(tactic| (k_here; k_dflt (refine' callWith_F ?k1 ?_; (case k1 => exact FnAt.of (by k_asm) (by (first | assumption | exact List.mem_cons_of_mem _ (by assumption) | exact List.mem_cons_of_mem _ (List.mem_cons_of_mem _ (by assumption)) | exact List.mem_cons_of_mem _ (List.mem_cons_of_mem _ (List.mem_cons_of_mem _ (by assumption)))))); k_whole)))
local macro_rules | `(tactic| walk_at "FnAt") => `(tactic| (k_dflt (exact FnAt.of (by k_asm) (by (first | assumption | exact List.mem_cons_of_mem _ (by assumption) | exact List.mem_cons_of_mem _ (List.mem_cons_of_mem _ (by assumption)) | exact List.mem_cons_of_mem _ (List.mem_cons_of_mem _ (List.mem_cons_of_mem _ (by assumption))))))))
local macro_rules | `(tactic| walk_at "call ref") => `(tactic| (k_here; with_reducible refine nil_app ?_))
local macro_rules | `(tactic| walk_at "binaryOp Div float float") => `(tactic| (k_here; with_reducible (refine r_div_TY rfl ?_)))
local macro_rules | `(tactic| walk_at "call builtin:round") => `(tactic| (k_here; (with_reducible show wpAny _ _ (call (Value.builtin "round") [Value.float _ _]) _ _ _); ((with_reducible refine' r_round_TY ?hA ?hx ?hy ?ha ?hn ?h1 ?h2 ?_); (case hA => k_dflt (exact rfl)); (case hx => with_reducible exact rfl); (case hy => exact TY_c); (case h1 => with_reducible assumption); (case h2 => with_reducible assumption); (case ha => k_dflt (first | with_reducible assumption | omega)); (case hn => k_dflt (first | with_reducible assumption | omega)); k_whole)))
local macro_rules | `(tactic| walk_at "exec While") => `(tactic| (k_here; k_dflt (refine whl_start 100 ?_)))
local macro_rules | `(tactic| walk_at "exec For Name List cons nil") => `(tactic| (k_here; (rename Fr _ _ _ _ => lF'); (with_reducible refine' For_invVF ?kF ?k1 ?k2 ?_ ?k4 ?k5); (case kF => with_unfolding_all exact lF'); (case k1 => k_dflt exact rfl); (case k2 => k_dflt exact rfl); (case k4 => with_unfolding_all (intro _; rfl)); (case k5 => with_unfolding_all passes_own); k_whole))
local macro_rules | `(tactic| walk_at "pyIter ref") => `(tactic| (k_here; (with_reducible show wpAny _ _ (pyIter (Value.ref _)) (fun it s₂ => LoopAtV _ _ _ _ _ _ _ _ _ it s₂) _ _); (with_reducible refine Hold.out ?_)))
local macro_rules | `(tactic| walk_at "TurnQ") => `(tactic| (with_reducible (first | refine TurnQ.brk ?_ | refine TurnQ.next ?_)))
local macro_rules | `(tactic| walk_at "call ref") => `(tactic| (k_here; (with_reducible show wpAny _ _ (call (Value.ref 155) [Value.int _ _]) _ _ _); (refine' con_use (c_january _ _ (by with_reducible assumption)) ?k1 ?k2 ?k3 ?k4 ?k5 ?kK ?kp ?kd ?ku ?_; (case k1 => k_asm); (case k2 => k_asm); (case k3 => k_asm); (case k4 => k_asm); (case k5 => k_asm); (case kK => first | exact rfl | assumption); (case kp => trivial); (case kd => ktr_room); (case ku => ktr_units)); intro r9 tl9 h9 tk9 F9 N9 l9 ho9; obtain ⟨e9, t9, ho9⟩ := ho9; subst e9; subst ho9; clear l9; (dsimp only [List.nil_append] at N9); (try dsimp only); (try k_fold)))
theorem moff_succ (b : Bool) (k : Int) (h : 1 ≤ k ∧ k ≤ 12) : moff b (k + 1) = moff b k + mlen b k := by
  have hm : k = 1 ∨ k = 2 ∨ k = 3 ∨ k = 4 ∨ k = 5 ∨ k = 6 ∨ k = 7 ∨ k = 8 ∨ k = 9 ∨ k = 10 ∨ k = 11 ∨ k = 12 := by omega
  unfold moff mlen
  cases b <;> rcases hm with rfl | rfl | rfl | rfl | rfl | rfl | rfl | rfl | rfl | rfl | rfl | rfl <;> rfl
theorem mrest_succ (b : Bool) (k : Int) (f : Nat) : mrest b k (f + 1) = mlen b k :: mrest b (k + 1) f := rfl
theorem ints_eq {l : List Value} {ms ns : List Int} (h : ms = ns) (hi : IntsAre l ns) : IntsAre l ms := h ▸ hi
theorem mrest_all (b : Bool) : mrest b 1 12 = [31, mlen b 2, 31, 30, 31, 30, 31, 31, 30, 31, 30, 31] := by cases b <;> rfl
set_option maxRecDepth 100000 in
set_option maxHeartbeats 3000000 in
theorem c_walked {w : World} {p : Program} {loose : List Str} {mean : ExcName → Option Value} {mg mb : Str → Option Value} (n y m1 d : Int) (t : Tok) (hD : IsDate n y m1 d) (hn : -12000000 ≤ n ∧ n ≤ 16000000) :
    Con w p loose mean mg mb (.ref 162) [.int n t] 4 (fun _ => True) (fun r tl => ∃ y m d t1 t2 t3 a, IsDate n y m d ∧ r = .ref a ∧ tl = [(a, tup3 y m d t1 t2 t3)]) := by
  unfold Con
  k_fill
  intro dp un gd cn cs a ccd cl outer A₀ base h₀ L m news s Q E Bq Fq Xq Nq Tq hk hpre hd hu hret
  w_on
  w_top on
  refine wpAny_call ?_
  k_dflt cell_enter
  rename_i g1 L1 h1 FG F1 N1 BB X1 T1
  have hg := walk_guess hD hn
  have hy := date_year hD
  have js := jan_succ y
  obtain ⟨J, hJ⟩ : ∃ J, jan y = J := ⟨_, rfl⟩
  obtain ⟨J1, hJ1⟩ : ∃ J1, jan (y + 1) = J1 := ⟨_, rfl⟩
  obtain ⟨J0, hJ0⟩ : ∃ J0, jan (y - 1) = J0 := ⟨_, rfl⟩
  have hJ00 : J0 ≤ J := by rw [← hJ, ← hJ0]; exact jan_mono _ _ (by omega)
  rw [hJ, hJ1] at hy
  have a1 : ¬ n < J := by omega
  have a2 : n < J1 := by omega
  have a3 : ¬ J1 ≤ n := by omega
  have a4 : J ≤ n := by omega
  have a5 : ¬ n < J0 := by omega
  refine execs_cut [_, _, _] _ (Mid g1 L1 s news (fun m => ∃ t1 t2, m (Str.ofString "day") = some (.int n t1) ∧ m (Str.ofString "year") = some (.int y t2))) ?_ ?_
  · obtain ⟨E, hE⟩ : ∃ E, ((n - 1721426) * 400).fdiv 146097 + 1 = E := ⟨_, rfl⟩
    have hEe : (n - 1721426) * 400 / 146097 + 1 = E := by rw [← hE, Int.fdiv_eq_ediv_of_nonneg _ (by decide)]
    rw [hEe] at hg
    clear hEe
    rcases hg with hg | hg | hg
    · have f1 : jan (((n - 1721426) * 400).fdiv 146097 + 1) = J0 := by rw [hE, hg]; exact hJ0
      have f2 : jan (((n - 1721426) * 400).fdiv 146097 + 1 + 1) = J := by rw [hE, hg, show y - 1 + 1 = y by omega]; exact hJ
      have f3 : jan (((n - 1721426) * 400).fdiv 146097 + 1 + 1 + 1) = J1 := by rw [hE, hg, show y - 1 + 1 + 1 = y + 1 by omega]; exact hJ1
      have f4 : y = ((n - 1721426) * 400).fdiv 146097 + 1 + 1 := by omega
      w_strict k_steps
      all_goals (dsimp only)
      all_goals (refine Mid.intro (by k_asm) (by k_asm) ?_)
      all_goals (obtain rfl := f4; with_unfolding_all exact ⟨_, _, rfl, rfl⟩)
    · have f1 : jan (((n - 1721426) * 400).fdiv 146097 + 1) = J := by rw [hE, hg]; exact hJ
      have f2 : jan (((n - 1721426) * 400).fdiv 146097 + 1 + 1) = J1 := by rw [hE, hg]; exact hJ1
      have f4 : y = ((n - 1721426) * 400).fdiv 146097 + 1 := by omega
      w_strict k_steps
      all_goals (dsimp only)
      all_goals (refine Mid.intro (by k_asm) (by k_asm) ?_)
      all_goals (obtain rfl := f4; with_unfolding_all exact ⟨_, _, rfl, rfl⟩)
    · have f1 : jan (((n - 1721426) * 400).fdiv 146097 + 1) = J1 := by rw [hE, hg]; exact hJ1
      have f2 : jan (((n - 1721426) * 400).fdiv 146097 + 1 - 1) = J := by rw [hE, hg, show y + 1 - 1 = y by omega]; exact hJ
      have f3 : jan (((n - 1721426) * 400).fdiv 146097 + 1 - 1 + 1) = J1 := by rw [hE, hg, show y + 1 - 1 + 1 = y + 1 by omega]; exact hJ1
      have f4 : y = ((n - 1721426) * 400).fdiv 146097 + 1 - 1 := by omega
      w_strict k_steps
      all_goals (dsimp only)
      all_goals (refine Mid.intro (by k_asm) (by k_asm) ?_)
      all_goals (obtain rfl := f4; with_unfolding_all exact ⟨_, _, rfl, rfl⟩)
  rintro s' ⟨h2, tk2, m2, rfl, F2, N2, t1, t2, e1, e2⟩
  have F3 := fr_cast F2 (put_eq e2 (put_eq e1 rfl))
  clear F2 F1 N1 e1 e2 a1 a2 a3 a4 a5 hJ0 hJ00 hg
  refine execs_cut [_, _, _] _ (Mid g1 L1 s news (fun m => ∃ t1 t2 t3 t4, m (Str.ofString "year") = some (.int y t1) ∧ m (Str.ofString "rest") = some (.int (n - J) t2) ∧ m (Str.ofString "place") = some (.int 0 t3) ∧ m (Str.ofString "february") = some (.int (J1 - J - 337) t4))) ?_ ?_
  · w_strict k_steps
    all_goals (dsimp only)
    all_goals (refine Mid.intro (by k_asm) (by k_asm) ?_)
    all_goals (with_unfolding_all exact ⟨_, _, _, _, rfl, rfl, rfl, rfl⟩)
  clear F3 N2
  rintro s' ⟨h2, tk2, m2, rfl, F2, N2, t1, t2, t3, t4, e1, e2, e3, e4⟩
  have F3 := fr_cast F2 (put_eq e1 (put_eq e2 (put_eq e3 (put_eq e4 rfl))))
  clear F2
  have hfeb : J1 - J - 337 = mlen (leapB y) 2 := by rw [← hJ1, ← hJ, js]; unfold mlen lp; cases leapB y <;> simp <;> omega
  refine execs_cut [_] _ (Mid g1 L1 s news (fun m => ∃ pl rs t1 t2 t3, m (Str.ofString "year") = some (.int y t1) ∧ m (Str.ofString "place") = some (.int pl t2) ∧ m (Str.ofString "rest") = some (.int rs t3) ∧ IsDate n y (pl + 1) (rs + 1))) ?_ ?_
  · w_strict k_steps
    dsimp only
    refine list_loop (fun l m => ∃ f pl rs t1 t2 t3, m (Str.ofString "year") = some (.int y t1) ∧ m (Str.ofString "place") = some (.int pl t2) ∧ m (Str.ofString "rest") = some (.int rs t3) ∧ IntsAre l (mrest (leapB y) (pl + 1) f) ∧ (0 ≤ pl ∧ pl + f = 12) ∧ 0 ≤ rs ∧ J + moff (leapB y) (pl + 1) + rs = n) rfl (by k_asm) (by k_asm) (by k_mem) rfl rfl ?_ ?_ ?_
    · refine ⟨12, 0, n - J, _, _, _, by with_unfolding_all exact rfl, by with_unfolding_all exact rfl, by with_unfolding_all exact rfl, ?_, by omega, by omega, ?_⟩
      · show IntsAre _ (mrest (leapB y) 1 12)
        have hm12 := mrest_all (leapB y)
        rw [← hfeb] at hm12
        refine ints_eq hm12 ?_
        exact .cons _ _ (.cons _ _ (.cons _ _ (.cons _ _ (.cons _ _ (.cons _ _ (.cons _ _ (.cons _ _ (.cons _ _ (.cons _ _ (.cons _ _ (.cons _ _ .nil)))))))))))
      · have : moff (leapB y) (0 + 1) = 0 := by unfold moff; rfl
        omega
    · rintro I v r m ⟨f, pl, rs, t1, t2, t3, e1, e2, e3, hi, hpl, hrs, hn⟩ it h tk hc F N
      cases f with
      | zero => exact absurd hi (fun q => ints_nil q)
      | succ f =>
        rw [mrest_succ] at hi
        obtain ⟨t4, hv4, hi2⟩ := ints_cons hi
        subst hv4
        have F4 := fr_putc F (put_eq e1 (put_eq e2 (put_eq e3 rfl)))
        clear F
        have hms := moff_succ (leapB y) (pl + 1) (by omega)
        by_cases hlt : rs < mlen (leapB y) (pl + 1)
        · have hdt : IsDate n y (pl + 1) (rs + 1) := ⟨by omega, ⟨by omega, by omega⟩, by rw [hJ]; omega⟩
          w_strict k_steps
          all_goals (try dsimp only [Hold])
          all_goals (refine Mid.intro (by k_asm) (news_tl (news_tl (by k_asm))) ?_)
          all_goals (refine ⟨pl, rs, _, _, _, by with_unfolding_all exact rfl, by with_unfolding_all exact rfl, by with_unfolding_all exact rfl, hdt⟩)
        · have hd1 : 0 ≤ pl + 1 ∧ pl + 1 + (f : Int) = 12 := by omega
          have hd2 : 0 ≤ rs - mlen (leapB y) (pl + 1) := by omega
          have hd3 : J + moff (leapB y) (pl + 1 + 1) + (rs - mlen (leapB y) (pl + 1)) = n := by omega
          w_strict k_steps
          all_goals (try dsimp only [Hold])
          all_goals (refine Mid.intro (by k_asm) (by k_asm) ?_)
          all_goals (refine ⟨f, pl + 1, rs - mlen (leapB y) (pl + 1), _, _, _, by with_unfolding_all exact rfl, by with_unfolding_all exact rfl, by with_unfolding_all exact rfl, hi2, hd1, hd2, hd3⟩)
    · rintro m ⟨f, pl, rs, t1, t2, t3, e1, e2, e3, hi, hpl, hrs, hn⟩ h tk F N
      exfalso
      have hf : f = 0 := by
        cases f with
        | zero => rfl
        | succ f => cases hi
      have hp12 : pl = 12 := by omega
      have h13 : moff (leapB y) (pl + 1) = 365 + lp (leapB y) := by
        subst hp12
        unfold moff lp
        cases leapB y <;> rfl
      omega
  rintro s' ⟨h2, tk2, m2, rfl, F2, N2, pl, rs, t1, t2, t3, e1, e2, e3, hdt⟩
  have F3 := fr_cast F2 (put_eq e1 (put_eq e2 (put_eq e3 rfl)))
  clear F2
  w_strict k_steps
  rename (∀ p : Addr × Obj, p ∈ news → p.1 < _) => lz
  all_goals (refine hret _ [(_, tup3 y (pl + 1) (rs + 1) _ _ _)] _ _ (by k_asm) (by k_asm) (fun q hq p hp => by rw [List.mem_singleton.mp hp]; exact lz q hq) ⟨_, _, _, _, _, _, _, hdt, rfl, rfl⟩)
end Mine
end
section
open PySem PySem.W PyProof.Rows
namespace Mine
/-- the new years that the script asks for -/
def tn (v n : Int) : Nat → Int
  | 0 => v
  | i + 1 => tn v n i + 365 + (n.fdiv (2 ^ i)).fmod 2
theorem tn_succ (v n : Int) (i : Nat) : tn v n (i + 1) = tn v n i + 365 + (n.fdiv (2 ^ i)).fmod 2 := rfl
theorem tn_step (v n : Int) (i : Nat) : tn v n (i + 1) = tn v n i + 365 ∨ tn v n (i + 1) = tn v n i + 366 := by
  rw [tn_succ, Int.fmod_eq_emod_of_nonneg _ (show (0 : Int) ≤ 2 by decide)]
  omega
def TT (v n b p : Int) : Int := if p < b then v + 365 * (p - b) else if b + 10 < p then tn v n 10 + 365 * (p - b - 10) else tn v n (p - b).toNat
theorem TT_low {v n b p : Int} (h : p < b) : TT v n b p = v + 365 * (p - b) := by unfold TT; rw [if_pos h]
theorem TT_high {v n b p : Int} (h : b + 10 < p) : TT v n b p = tn v n 10 + 365 * (p - b - 10) := by unfold TT; rw [if_neg (by omega), if_pos h]
theorem TT_mid {v n b p : Int} (h : b ≤ p) (h2 : p ≤ b + 10) : TT v n b p = tn v n (p - b).toNat := by unfold TT; rw [if_neg (by omega), if_neg (by omega)]
theorem tn_near (v n : Int) : ∀ i : Nat, v + 365 * i ≤ tn v n i ∧ tn v n i ≤ v + 365 * i + i
  | 0 => by show v + 365 * 0 ≤ v ∧ v ≤ v + 365 * 0 + 0; omega
  | i + 1 => by
    have := tn_near v n i
    have := tn_step v n i
    omega
theorem row_of {b d v n : Int} (h1 : -20000 ≤ b) (h2 : b ≤ 19999) (h3 : 0 ≤ d) (h4 : d ≤ 140) (h5 : v = 1948321 + 365 * (b - 1) + (8 * (b - 1)) / 33 + d - 40) : Row b (TT v n b) where
  lo := h1
  hi := h2
  base := ⟨d, h3, h4, by
    rw [TT_mid (by omega) (by omega)]
    have e : (b - b).toNat = 0 := by omega
    rw [e]
    exact h5⟩
  step p := by
    by_cases k1 : p < b
    · rw [TT_low k1]
      by_cases k2 : p + 1 < b
      · rw [TT_low k2]; omega
      · rw [TT_mid (by omega) (by omega)]
        have e : (p + 1 - b).toNat = 0 := by omega
        rw [e]
        show v = _ ∨ _
        omega
    · by_cases k2 : b + 10 < p
      · rw [TT_high k2, TT_high (show b + 10 < p + 1 by omega)]; omega
      · rw [TT_mid (v := v) (n := n) (show b ≤ p by omega) (show p ≤ b + 10 by omega)]
        by_cases k3 : b + 10 < p + 1
        · rw [TT_high k3]
          have e : (p - b).toNat = 10 := by omega
          rw [e]; omega
        · rw [TT_mid (show b ≤ p + 1 by omega) (show p + 1 ≤ b + 10 by omega)]
          have e : (p + 1 - b).toNat = (p - b).toNat + 1 := by omega
          rw [e]
          exact tn_step _ _ _
  near p := by
    have e0 : TT v n b b = v := by
      rw [TT_mid (by omega) (by omega)]
      have e : (b - b).toNat = 0 := by omega
      rw [e]; rfl
    rw [e0]
    have t10 := tn_near v n 10
    by_cases k1 : p < b
    · rw [TT_low k1]; omega
    · by_cases k2 : b + 10 < p
      · rw [TT_high k2]; omega
      · rw [TT_mid (by omega) (by omega)]
        have := tn_near v n (p - b).toNat
        omega
/-- the list of the new years -/
def NewsAre (vs : List Value) (b : Int) (T : Int → Int) : Prop := vs.length = 11 ∧ ∀ k : Int, 0 ≤ k → k ≤ 10 → ∃ t, vs[k.toNat]? = some (Value.int (T (b + k)) t)
def tns (v n : Int) (k : Nat) : List Int := (List.range k).map (tn v n)
theorem tns_succ (v n : Int) (k : Nat) : tns v n (k + 1) = tns v n k ++ [tn v n k] := by
  unfold tns; rw [List.range_succ, List.map_append]; rfl
theorem tns_len (v n : Int) (k : Nat) : (tns v n k).length = k := by unfold tns; simp
theorem ints_app {vs : List Value} {ns : List Int} (h : IntsAre vs ns) (x : Int) (t : Tok) : IntsAre (vs ++ [Value.int x t]) (ns ++ [x]) := by
  induction h with
  | nil => exact .cons _ _ .nil
  | cons n t _ ih => exact .cons _ _ ih
theorem news_are {vs : List Value} {v n b : Int} (h : IntsAre vs (tns v n 11)) : NewsAre vs b (TT v n b) := by
  refine ⟨by rw [h.length, tns_len], fun k h1 h2 => ?_⟩
  obtain ⟨t, ht⟩ := h.get k.toNat (tn v n k.toNat) (by unfold tns; rw [List.getElem?_map, List.getElem?_range (by omega)]; rfl)
  refine ⟨t, ?_⟩
  rw [ht, TT_mid (by omega) (by omega)]
  have e : (b + k - b).toNat = k.toNat := by omega
  rw [e]
section
variable {prog : Program} {w : World} {A : Around} {E : Value → Shared → Prop} {s : Shared} {env : Env} {h₀ : Heap} {x : Str} {body : List Stmt} {Q : Flow → Shared → Prop} {L : Addr} {m : Str → Option Value} {news : List (Addr × Obj)}
theorem r_news {value slice : Expr} {l : Addr} {vs : List Value} {b k y : Int} {T : Int → Int} {u : Tok} {n : Nat} {Q : Value → Shared → Prop} (N : News h₀ L s.heap news) (hm : (l, listOf vs.toArray n) ∈ news) (hv : NewsAre vs b T)
    (h0 : 0 ≤ k) (h1 : k ≤ 10) (e : T (b + k) = y) (h : ∀ t, Q (.int y t) s)
    (hs : subscripted slice false (.ref l) (.int k u) = operate [.ref l, .int k u] (getItem (.ref l) (.int k u)) := by with_unfolding_all rfl) (hg : ∀ r, letTemporaryGo value (.ref l) r = pure () := by intro _; with_unfolding_all rfl) :
    wpAny (model prog w) A (subscriptTail value slice (.ref l) (.int k u)) Q E s := by
  subst e
  obtain ⟨t, ht⟩ := hv.2 k h0 h1
  exact item_list (N.isList hm) h0 (Int.lt_of_le_of_lt h1 (by decide)) (by simpa using ht) (h t) hs hg
theorem r_last {value slice : Expr} {l : Addr} {vs : List Value} {v c : Int} {i : Nat} {u : Tok} {n : Nat} {Q : Value → Shared → Prop} (N : News h₀ L s.heap news) (hm : (l, listOf vs.toArray n) ∈ news) (hi : IntsAre vs (tns v c (i + 1)))
    (h : ∀ t, Q (.int (tn v c i) t) s)
    (hs : subscripted slice false (.ref l) (.int (-1) u) = operate [.ref l, .int (-1) u] (getItem (.ref l) (.int (-1) u)) := by with_unfolding_all rfl) (hg : ∀ r, letTemporaryGo value (.ref l) r = pure () := by intro _; with_unfolding_all rfl) :
    wpAny (model prog w) A (subscriptTail value slice (.ref l) (.int (-1) u)) Q E s := by
  refine item_list_ints_neg (N.isList hm) hi (by decide) (by rw [tns_len]; omega) (by decide) (fun t => ?_) hs hg
  have e : ((-1 : Int) + ((tns v c (i + 1)).length : Nat)).toNat = i := by rw [tns_len]; omega
  rw [e]
  have g : (tns v c (i + 1)).getD i 0 = tn v c i := by
    unfold tns
    rw [List.getD_eq_getElem?_getD, List.getElem?_map, List.getElem?_range (by omega)]
    rfl
  rw [g]
  exact h t
def RangeM (h₀ : Heap) (L : Addr) (s : Shared) (it : Addr × Obj) (lN : Addr) (rest : List (Addr × Obj)) (P : (Str → Option Value) → Obj → Prop) (s' : Shared) : Prop :=
  ∃ h' tk' m' o', s' = { s with heap := h', toks := tk' } ∧ Fr h₀ L h' m' ∧ News h₀ L h' (it :: (lN, o') :: rest) ∧ P m' o'
def RangeQ (h₀ : Heap) (L : Addr) (s : Shared) (it : Addr × Obj) (lN : Addr) (rest : List (Addr × Obj)) (P : (Str → Option Value) → Obj → Prop) (Q : Flow → Shared → Prop) (f : Flow) (s' : Shared) : Prop :=
  match f with
  | .ret v => Q (.ret v) s'
  | .brk => Q .next s'
  | _ => RangeM h₀ L s it lN rest P s'
theorem RangeQ.next {h₀ : Heap} {L : Addr} {s : Shared} {it : Addr × Obj} {lN : Addr} {rest : List (Addr × Obj)} {P : (Str → Option Value) → Obj → Prop} {Q : Flow → Shared → Prop} {s' : Shared} (h : Hold (RangeM h₀ L s it lN rest P s')) : RangeQ h₀ L s it lN rest P Q .next s' := h
theorem RangeM.intro {h₀ : Heap} {L : Addr} {s : Shared} {it : Addr × Obj} {lN : Addr} {rest : List (Addr × Obj)} {P : (Str → Option Value) → Obj → Prop} {h' : Heap} {tk' : Nat} {m' : Str → Option Value} {o' : Obj} (F : Fr h₀ L h' m') (N : News h₀ L h' (it :: (lN, o') :: rest)) (p : P m' o') :
    RangeM h₀ L s it lN rest P { s with heap := h', toks := tk' } := ⟨_, _, _, _, rfl, F, N, p⟩
theorem range_rest {I lN : Addr} {a : Int} {n : Nat} {rest : List (Addr × Obj)} (Inv : Nat → (Str → Option Value) → Obj → Prop) (o₀ : Obj) (off : ∀ p ∈ (lN, o₀) :: rest, p.1 < I)
    (turn : ∀ i m o, i < n → Inv i m o → ∀ t h tk, Fr h₀ env.locals h (fun y => if y = x then some (.int (a + (i : Int)) t) else m y) →
      News h₀ env.locals h ((I, itR (a + ((i + 1 : Nat) : Int)) ((n : Int) - ((i + 1 : Nat) : Int))) :: (lN, o) :: rest) →
      wpAny (model prog w) A (execs body env) (RangeQ h₀ env.locals s (I, itR (a + ((i + 1 : Nat) : Int)) ((n : Int) - ((i + 1 : Nat) : Int))) lN rest (Inv (i + 1)) Q) E { s with heap := h, toks := tk })
    (done : ∀ m o, Inv n m o → ∀ h tk, Fr h₀ env.locals h m → News h₀ env.locals h ((lN, o) :: rest) → Q .next { s with heap := h, toks := tk }) :
    ∀ k i m o, i + k = n → Inv i m o → RangeRest prog w A E h₀ env x body Q s I a n k i m ((lN, o) :: rest) := by
  intro k
  induction k with
  | zero =>
    intro i m o hik hi
    have : i = n := by omega
    subst this
    exact RangeRest.zero (done m o hi)
  | succ k ih =>
    intro i m o hik hi
    refine RangeRest.succ fun t h tk F N => wpAny_mono (turn i m o (by omega) hi t h tk F N) (fun f s' q => ?_) fun _ _ e => e
    have fin : (∃ h' tk' m' o', s' = { s with heap := h', toks := tk' } ∧ Fr h₀ env.locals h' m' ∧ News h₀ env.locals h' ((I, itR (a + ((i + 1 : Nat) : Int)) ((n : Int) - ((i + 1 : Nat) : Int))) :: (lN, o') :: rest) ∧ Inv (i + 1) m' o') →
        UnrEnd h₀ env.locals { s with heap := h, toks := tk } I (itR (a + ((i + 1 : Nat) : Int)) ((n : Int) - ((i + 1 : Nat) : Int))) (RangeRest prog w A E h₀ env x body Q s I a n k (i + 1)) s' := by
      rintro ⟨h', tk', m', o', rfl, F', N', hi'⟩
      refine ⟨h', tk', m', (lN, o') :: rest, rfl, F', N', fun p hp => ?_, ih _ _ _ (by omega) hi'⟩
      rcases List.mem_cons.mp hp with rfl | hp
      · exact Nat.ne_of_lt (off (lN, o₀) (.head _))
      · exact Nat.ne_of_lt (off p (.tail _ hp))
    cases f with
    | next => exact fin q
    | cont => exact fin q
    | brk => exact q
    | ret v => exact q
end
theorem put_off {g h : Heap} {L : Addr} {m m' : Str → Option Value} {x : Str} {v : Value} (o : ∀ y, y ≠ x → m y = m' y) (F : Fr g L h (fun y => if y = x then some v else m y)) : Fr g L h (fun y => if y = x then some v else m' y) := by
  have e : (fun y => if y = x then some v else m y) = fun y => if y = x then some v else m' y := by
    funext y
    by_cases q : y = x
    · rw [if_pos q, if_pos q]
    · rw [if_neg q, if_neg q, o y q]
  exact e ▸ F
theorem pow_ne (k : Nat) : (2 : Int) ^ k ≠ 0 := by
  have : (0 : Int) < 2 ^ k := Int.pow_pos (by decide)
  omega
theorem tns_app {vs : List Value} {v n x : Int} {i : Nat} {t : Tok} (h : IntsAre vs (tns v n (i + 1))) (e : x = tn v n (i + 1)) : IntsAre (vs ++ [Value.int x t]) (tns v n (i + 1 + 1)) := by
  subst e
  rw [tns_succ]
  exact ints_app h _ _
theorem news_both {h₀ h : Heap} {L : Addr} {led news : List (Addr × Obj)} (N : News h₀ L h news) (hp : ∀ q ∈ led, q ∈ news) : News h₀ L h (led ++ news) := fun q hq => (List.mem_append.mp hq).elim (fun h => N q (hp q h)) (N q)
theorem tt_zero (v n b : Int) : TT v n b (b + 0) = v := by
  rw [TT_mid (by omega) (by omega)]
  have e : (b + 0 - b).toNat = 0 := by omega
  rw [e]; rfl
theorem row_num {n0 n2 b v : Int} (hb : n0.fmod 40000 - 20000 = b) (hv : 1948321 + 365 * (b - 1) + (8 * (b - 1)).fdiv 33 + n2.fmod 141 - 40 = v) (n1 : Int) : Row b (TT v n1 b) := by
  rw [Int.fmod_eq_emod_of_nonneg _ (show (0 : Int) ≤ 40000 by decide)] at hb
  rw [Int.fmod_eq_emod_of_nonneg _ (show (0 : Int) ≤ 141 by decide), Int.fdiv_eq_ediv_of_nonneg _ (show (0 : Int) ≤ 33 by decide)] at hv
  exact row_of (d := n2 % 141) (by omega) (by omega) (by omega) (by omega) hv.symm
theorem fmod_bd {n m ch : Int} (hm : 0 < m) (h : n.fmod m = ch) : 0 ≤ ch ∧ ch < m := by
  rw [Int.fmod_eq_emod_of_nonneg _ (Int.le_of_lt hm)] at h
  rw [← h]
  exact ⟨Int.emod_nonneg _ (by omega), Int.emod_lt_of_pos _ hm⟩
end Mine
end
section
open PySem PySem.W PyProof.Rows
namespace Mine
theorem plens {lb : Bool} {Y0 Y1 : Int} (h : decide (Y1 - Y0 = 366) = lb) (st : Y1 = Y0 + 365 ∨ Y1 = Y0 + 366) : List.map (fun k => plen k lb) (rangeKs 1 12) = [31, 31, 31, 31, 31, 31, 30, 30, 30, 30, 30, Y1 - Y0 - 336] := by
  rcases st with e | e
  · have h1 : lb = false := by rw [← h, decide_eq_false_iff_not]; omega
    subst h1
    have h2 : Y1 - Y0 - 336 = 29 := by omega
    rw [h2]
    decide
  · have h1 : lb = true := by rw [← h, decide_eq_true_iff]; omega
    subst h1
    have h2 : Y1 - Y0 - 336 = 30 := by omega
    rw [h2]
    decide
/-- the Persian date of a day -/
structure Pd (b : Int) (T : Int → Int) (k n pp mo d : Int) : Prop where
  hk : 2 * n - 1 = k
  hb : b - 5 ≤ pp ∧ pp ≤ b + 15
  hn : T pp ≤ n ∧ n < T (pp + 1)
  hm : pmon (n - T pp + 1) = mo
  hd : n - T pp + 1 - poff (pmon (n - T pp + 1)) = d
section
variable {w : World} {p : Program} {loose : List Str} {mean : ExcName → Option Value} {mg mb : Str → Option Value} {b : Int} {T : Int → Int} {tf : Addr} {P : List (Addr × Obj) → Prop}
theorem c_frompjdD (R : Row b T) (TO : TurnOk w p loose mean mg mb T tf P) {k n pp mo d : Int} {t : Tok} (D : Pd b T k n pp mo d) :
    Con w p loose mean mg mb (.ref 120) [.float (hf k) t, .ref tf] 8 P (fun r tl => ∃ t1 t2 t3 a, r = .ref a ∧ tl = [(a, tup3 pp mo d t1 t2 t3)]) := by
  have c := c_frompjd R TO pp n t D.hb D.hn D.hk rfl
  rw [D.hd, D.hm] at c
  exact c
theorem c_fromgregD (R : Row b T) (TO : TurnOk w p loose mean mg mb T tf P) {k n pp mo d y m1 d1 : Int} {t t1 t2 : Tok} (hD : IsDate n y m1 d1) (D : Pd b T k n pp mo d) :
    Con w p loose mean mg mb (.ref 127) [.int y t, .int m1 t1, .int d1 t2, .ref tf] 10 P (fun r tl => ∃ t1 t2 t3 a, r = .ref a ∧ tl = [(a, tup3 pp mo d t1 t2 t3)]) := by
  have c := c_fromgreg R TO pp n y m1 d1 t t1 t2 D.hb D.hn hD rfl
  rw [D.hd, D.hm] at c
  exact c
theorem pd_at (R : Row b T) {k n pp mo d : Int} (D : Pd b T k n pp mo d) : At b T (hf k) pp n := by
  have A := at_day R D.hb D.hn
  rw [D.hk] at A
  exact A
theorem pd_first {y Y0 k : Int} (R : Row b T) (hy : b ≤ y ∧ y ≤ b + 11) (e : T y = Y0) (hk : 2 * Y0 - 1 = k) : Pd b T k Y0 y 1 1 := by
  have st := R.step y
  refine ⟨hk, by omega, by omega, ?_, ?_⟩
  · rw [e, show Y0 - Y0 + 1 = 1 by omega]; rfl
  · rw [e, show Y0 - Y0 + 1 = 1 by omega]; rfl
theorem pd_last {y Y0 Y1 k : Int} (R : Row b T) (hy : b ≤ y ∧ y ≤ b + 11) (e : T y = Y0) (e1 : T (y + 1) = Y1) (hk : 2 * (Y1 - 1) - 1 = k) : Pd b T k (Y1 - 1) y 12 (Y1 - Y0 - 336) := by
  have st := R.step y
  rw [e, e1] at st
  have hp : pmon (Y1 - 1 - T y + 1) = 12 := by
    unfold pmon
    rw [e, if_neg (by omega)]
    omega
  refine ⟨hk, by omega, by omega, hp, ?_⟩
  rw [hp, e]
  unfold poff
  rw [if_neg (by decide)]
  omega
end
theorem item_lit {prog : Program} {w : World} {A : Around} {E : Value → Shared → Prop} {s : Shared} {h₀ : Heap} {L : Addr} {news : List (Addr × Obj)} {value slice : Expr} {l : Addr} {vs : List Value} {n : Nat} {k : Int} {u : Tok} {x : Value} {Q : Value → Shared → Prop} (N : News h₀ L s.heap news) (hm : (l, listOf vs.toArray n) ∈ news)
    (h0 : 0 ≤ k) (hfit : k < 2 ^ 63) (hx : vs[k.toNat]? = some x) (h : Q x s)
    (hs : subscripted slice false (.ref l) (.int k u) = operate [.ref l, .int k u] (getItem (.ref l) (.int k u)) := by with_unfolding_all rfl) (hg : ∀ r, letTemporaryGo value (.ref l) r = pure () := by intro _; with_unfolding_all rfl) :
    wpAny (model prog w) A (subscriptTail value slice (.ref l) (.int k u)) Q E s :=
  item_list (N.isList hm) h0 hfit (by simpa using hx) h hs hg
theorem whl_ind {prog : Program} {w : World} {A : Around} {E : Value → Shared → Prop} {env : Env} {test : PySem.Expr} {body orelse : List Stmt} {Q : Flow → Shared → Prop} {K : Nat} (_hE : PassesOwn (model prog w) A env E) (Inv : Nat → Shared → Prop)
    (turn : ∀ k s, Inv k s → (∀ m s', m < k → Inv m s' → WhlRest prog w A E env test body orelse Q 0 s') → WhlRest prog w A E env test body orelse Q 0 s) : ∀ k s, Inv k s → WhlRest prog w A E env test body orelse Q K s := by
  have key : ∀ k s, Inv k s → WhlRest prog w A E env test body orelse Q 0 s := by
    intro k
    induction k using Nat.strongRecOn with
    | _ k ih => exact fun s hi => turn k s hi fun m s' hm hi' => ih m hm s' hi'
  exact key
theorem fr_over {g h : Heap} {L : Addr} {f : Str → Option Value} {x : Str} {v u : Option Value} (F : Fr g L h (fun y => if y = x then v else if y = x then u else f y)) : Fr g L h (fun y => if y = x then v else f y) := by
  have e : (fun y => if y = x then v else if y = x then u else f y) = fun y => if y = x then v else f y := by
    funext y
    by_cases q : y = x
    · rw [if_pos q, if_pos q]
    · rw [if_neg q, if_neg q, if_neg q]
  exact e ▸ F
def prest (k : Int) : Nat → List Int
  | 0 => []
  | f + 1 => plen k false :: prest (k + 1) f
theorem prest_all : prest 1 11 = [31, 31, 31, 31, 31, 31, 30, 30, 30, 30, 30] := rfl
theorem poff_succ (mo : Int) (h : 1 ≤ mo ∧ mo ≤ 11) : poff (mo + 1) = poff mo + plen mo false := by
  have hm : mo = 1 ∨ mo = 2 ∨ mo = 3 ∨ mo = 4 ∨ mo = 5 ∨ mo = 6 ∨ mo = 7 ∨ mo = 8 ∨ mo = 9 ∨ mo = 10 ∨ mo = 11 := by omega
  rcases hm with rfl | rfl | rfl | rfl | rfl | rfl | rfl | rfl | rfl | rfl | rfl <;> rfl
theorem pd_any {b : Int} {T : Int → Int} {pp n mo rs k P0 : Int} (hb : b - 5 ≤ pp ∧ pp ≤ b + 15) (hn : T pp ≤ n ∧ n < T (pp + 1)) (hk : 2 * n - 1 = k) (e : T pp = P0) (hy : n - P0 ≤ 365) (hmo : 1 ≤ mo ∧ mo ≤ 12) (hrs : 0 ≤ rs) (hp : poff mo + rs = n - P0) (hl : mo ≤ 11 → rs < plen mo false) :
    Pd b T k n pp mo (rs + 1) := by
  have hm : pmon (n - T pp + 1) = mo := by
    rw [e, ← hp]
    have hm : mo = 1 ∨ mo = 2 ∨ mo = 3 ∨ mo = 4 ∨ mo = 5 ∨ mo = 6 ∨ mo = 7 ∨ mo = 8 ∨ mo = 9 ∨ mo = 10 ∨ mo = 11 ∨ mo = 12 := by omega
    unfold pmon
    unfold poff at *
    unfold plen at hl
    rcases hm with rfl | rfl | rfl | rfl | rfl | rfl | rfl | rfl | rfl | rfl | rfl | rfl <;> simp at * <;> (first | (rw [if_pos (by omega)]; omega) | (rw [if_neg (by omega)]; omega) | omega)
  refine ⟨hk, hb, hn, hm, ?_⟩
  rw [hm, e]
  omega
def DateF (mo rs z : Int) : Prop := (1 ≤ mo ∧ mo ≤ 12) ∧ 0 ≤ rs ∧ poff mo + rs = z ∧ (mo ≤ 11 → rs < plen mo false)
def OneF (T : Int → Int) (b i dy : Int) : Prop := (0 ≤ i ∧ i ≤ 9) ∧ T (b + i) ≤ dy ∧ dy < T (b + (i + 1))
theorem year_ex {n Y : Int} {P : Prop} (h : (¬ P → jan (Y + 1) ≤ n ∧ n < jan (Y + 1) + 365) ∧ (P → n = jan Y + 365 ∧ leapB Y = true)) : ∃ y, jan y ≤ n ∧ n < jan (y + 1) := by
  by_cases c : P
  · obtain ⟨h1, h2⟩ := h.2 c
    refine ⟨Y, by omega, ?_⟩
    rw [jan_succ, h2]
    unfold lp
    rw [if_pos rfl]
    omega
  · obtain ⟨h1, h2⟩ := h.1 c
    refine ⟨Y + 1, h1, ?_⟩
    rw [jan_succ]
    have : 0 ≤ lp (leapB (Y + 1)) := by unfold lp; split <;> decide
    omega
theorem date_exists (n : Int) : ∃ y m d, IsDate n y m d := by
  have hy := year_ex (year_of (n := n) rfl rfl rfl rfl rfl rfl rfl)
  obtain ⟨y, h1, h2⟩ := hy
  rw [jan_succ] at h2
  obtain ⟨adj, hadj⟩ : ∃ adj, adj = if n - jan y < 58 + lp (leapB y) then 0 else if leapB y then (1 : Int) else 2 := ⟨_, rfl⟩
  obtain ⟨k1, k2, k3⟩ := month_of (leapB y) (n - jan y) adj _ (by omega) hadj rfl
  exact ⟨y, _, _, k1, ⟨k2, k3⟩, by omega⟩
theorem execs_cut1 {M : Model} {A : Around} {E : Value → Shared → Prop} {s : Shared} {env : Env} {Q : Flow → Shared → Prop} {a : Stmt} {l2 : List Stmt} (Mid : Shared → Prop)
    (h : wpAny M A (execs [a] env) (fun f s' => match f with | .next => Mid s' | f => Q f s') E s) (k : ∀ s', Mid s' → wpAny M A (execs l2 env) Q E s') : wpAny M A (execs (a :: l2) env) Q E s := execs_cut [a] l2 Mid h k
theorem execs_cut2 {M : Model} {A : Around} {E : Value → Shared → Prop} {s : Shared} {env : Env} {Q : Flow → Shared → Prop} {a b : Stmt} {l2 : List Stmt} (Mid : Shared → Prop)
    (h : wpAny M A (execs [a, b] env) (fun f s' => match f with | .next => Mid s' | f => Q f s') E s) (k : ∀ s', Mid s' → wpAny M A (execs l2 env) Q E s') : wpAny M A (execs (a :: b :: l2) env) Q E s := execs_cut [a, b] l2 Mid h k
theorem execs_cut4 {M : Model} {A : Around} {E : Value → Shared → Prop} {s : Shared} {env : Env} {Q : Flow → Shared → Prop} {a b c d : Stmt} {l2 : List Stmt} (Mid : Shared → Prop)
    (h : wpAny M A (execs [a, b, c, d] env) (fun f s' => match f with | .next => Mid s' | f => Q f s') E s) (k : ∀ s', Mid s' → wpAny M A (execs l2 env) Q E s') : wpAny M A (execs (a :: b :: c :: d :: l2) env) Q E s := execs_cut [a, b, c, d] l2 Mid h k
def Seen (n y m d : Int) : Prop := IsDate n y m d
theorem date_seen {n y m d y' m' d' : Int} (h : IsDate n y m d) (h' : Seen n y' m' d') : y = y' ∧ m = m' ∧ d = d' := date_unique h h'
end Mine
end
section
open PySem PySem.W PyProof.Rows PySem.Spec
namespace Mine
/-- the rows of a month: c days lie before it, n days are its own -/
def cells (c n : Nat) : List PyData := List.replicate c .none ++ (List.range n).map (fun i : Nat => PyData.int ((i : Int) + 1)) ++ List.replicate 7 .none
def rowsD (c n : Nat) : List PyData := (List.range ((c + n + 6) / 7)).map (fun i => .list (((cells c n).drop (7 * i)).take 7))
def calD (c n : Int) : PyData := .list (rowsD c.toNat n.toNat)
def RdAs (d : PyData) (r : Value) (tl : List (Addr × Obj)) : Prop := (∃ a, r = .ref a) ∧ ∀ h : Heap, (∀ q ∈ tl, h.get? q.1 = some q.2) → ∃ as, Reads h r d as
theorem seven {P : Int → Prop} (h0 : P 0) (h1 : P 1) (h2 : P 2) (h3 : P 3) (h4 : P 4) (h5 : P 5) (h6 : P 6) {c : Int} (h : 0 ≤ c ∧ c < 7) : P c := by
  have : c = 0 ∨ c = 1 ∨ c = 2 ∨ c = 3 ∨ c = 4 ∨ c = 5 ∨ c = 6 := by omega
  rcases this with rfl | rfl | rfl | rfl | rfl | rfl | rfl <;> assumption
theorem three {P : Int → Prop} (h0 : P 29) (h1 : P 30) (h2 : P 31) {c : Int} (h : 29 ≤ c ∧ c ≤ 31) : P c := by
  have : c = 29 ∨ c = 30 ∨ c = 31 := by omega
  rcases this with rfl | rfl | rfl <;> assumption
theorem cal_ok {c n : Int} (hc : 0 ≤ c ∧ c < 7) (hn : 29 ≤ n ∧ n ≤ 31) : SeqAt.shaped (calD c n) = true ∧ PyData.eqv (calD c n) (calD c n) = true := by
  refine three (P := fun n => SeqAt.shaped (calD c n) = true ∧ PyData.eqv (calD c n) (calD c n) = true) ?_ ?_ ?_ hn <;> refine seven (P := fun c => SeqAt.shaped (calD c _) = true ∧ PyData.eqv (calD c _) (calD c _) = true) ?_ ?_ ?_ ?_ ?_ ?_ ?_ hc <;> decide +kernel
theorem rd_new {d : PyData} {r : Value} {tl news : List (Addr × Obj)} {g h : Heap} {L : Addr} (N : News g L h (tl ++ news)) (x : RdAs d r tl) : ∃ as, Reads h r d as := x.2 h fun q hq => (N q (List.mem_append_left _ hq)).1
theorem rd_old {d : PyData} {r : Value} {tl t2 news : List (Addr × Obj)} {g h : Heap} {L : Addr} (N : News g L h (t2 ++ (tl ++ news))) (x : RdAs d r tl) : ∃ as, Reads h r d as := x.2 h fun q hq => (N q (List.mem_append_right _ (List.mem_append_left _ hq))).1
theorem news_drop {tl news : List (Addr × Obj)} {g h : Heap} {L : Addr} (N : News g L h (tl ++ news)) : News g L h news := fun q hq => N q (List.mem_append_right _ hq)
theorem eq_cal {prog : Program} {w : World} {A : Around} {E : Value → Shared → Prop} {s : Shared} {Q : Value → Shared → Prop} {a b : Value} {c n n' : Int} (ra : ∃ as, Reads s.heap a (calD c n) as) (rb : ∃ as, Reads s.heap b (calD c n') as) (e : n' = n) (hc : 0 ≤ c ∧ c < 7) (hn : 29 ≤ n ∧ n ≤ 31)
    (hu : A.units + 64 < cLine) (h : Q (.bool true) s) : wpAny (model prog w) A (compareOp .Eq a b) Q E s := by
  subst e
  obtain ⟨as, ra⟩ := ra
  obtain ⟨bs, rb⟩ := rb
  have k := cal_ok hc hn
  refine eq_dataH ra rb k.1 k.1 hu ?_
  rw [k.2]
  exact h
theorem take_sum (mo x : Int) (h : 1 ≤ mo ∧ mo ≤ 12) : (List.take (mo - 1).toNat [31, 31, 31, 31, 31, 31, 30, 30, 30, 30, 30, x]).sum = poff mo := by
  have hm : mo = 1 ∨ mo = 2 ∨ mo = 3 ∨ mo = 4 ∨ mo = 5 ∨ mo = 6 ∨ mo = 7 ∨ mo = 8 ∨ mo = 9 ∨ mo = 10 ∨ mo = 11 ∨ mo = 12 := by omega
  rcases hm with rfl | rfl | rfl | rfl | rfl | rfl | rfl | rfl | rfl | rfl | rfl | rfl <;> rfl
theorem len_at {lb : Bool} {Y0 Y1 mo : Int} (hlb : decide (Y1 - Y0 = 366) = lb) (st : Y1 = Y0 + 365 ∨ Y1 = Y0 + 366) (h : 1 ≤ mo ∧ mo ≤ 12) : [31, 31, 31, 31, 31, 31, 30, 30, 30, 30, 30, Y1 - Y0 - 336].getD (mo - 1).toNat 0 = plen mo lb := by
  have hm : mo = 1 ∨ mo = 2 ∨ mo = 3 ∨ mo = 4 ∨ mo = 5 ∨ mo = 6 ∨ mo = 7 ∨ mo = 8 ∨ mo = 9 ∨ mo = 10 ∨ mo = 11 ∨ mo = 12 := by omega
  rw [← plens hlb st]
  rcases hm with rfl | rfl | rfl | rfl | rfl | rfl | rfl | rfl | rfl | rfl | rfl | rfl <;> rfl
theorem plen_bd (mo : Int) (l : Bool) : 29 ≤ plen mo l ∧ plen mo l ≤ 31 := by
  unfold plen
  split
  · decide
  · split
    · decide
    · split <;> decide
theorem r_add_ff {prog : Program} {wd : World} {A : Around} {E : Value → Shared → Prop} {s : Shared} {Q : Value → Shared → Prop} {t u : Tok} {x y : UInt64} {a b : Int} (hx : x = hf a) (hy : y = hf b) (ha : a.natAbs ≤ 1073741824) (hb : b.natAbs ≤ 1073741824) {c : Int} (he : (a + b) = c) (h : Q (.float (hf c) s.toks) { s with toks := s.toks + 1 }) : wpAny (model prog wd) A (binaryOp .Add (.float x t) (.float y u)) Q E s := by
  subst he
  subst hx hy
  refine add_float ?_
  rw [hf_add a b (by omega) (by omega) (by omega)]; exact h
theorem rd_ref {d : PyData} {r : Value} {tl : List (Addr × Obj)} (x : RdAs d r tl) : ∃ a, r = .ref a := x.1
end Mine
end
section
open PySem PySem.W PyProof.Rows PySem.Spec
namespace Mine
theorem rep_none (k : Nat) : (List.replicate k [Value.none]).flatten = List.replicate k Value.none := by
  induction k with
  | zero => rfl
  | succ k ih => rw [List.replicate_succ, List.flatten_cons, ih]; rfl
section
variable {prog : Program} {w : World} {A : Around} {E : Value → Shared → Prop} {s : Shared} {h₀ : Heap} {L : Addr} {m : Str → Option Value} {news : List (Addr × Obj)} {Q : Value → Shared → Prop}
theorem r_mul {l : Addr} {n : Nat} {x : Int} {u : Tok} {k : Nat} (F : Fr h₀ L s.heap m) (N : News h₀ L s.heap news) (hl : (l, listOf [Value.none].toArray n) ∈ news) (hx : 0 ≤ x ∧ x ≤ 100) (hk : x.toNat = k)
    (h : ∀ D h', Fr h₀ L h' m → News h₀ L h' ((D, listOf (List.replicate k Value.none).toArray 0) :: news) → (∀ p ∈ news, p.1 < D) → (List.replicate k Value.none).length = k → CarriedAll (List.replicate k Value.none) (List.replicate k PyData.none) → Q (.ref D) { s with heap := h' }) :
    wpAny (model prog w) A (binaryOp .Mult (.ref l) (.int x u)) Q E s := by
  subst hk
  refine KMa.mul F N (N.isList hl) (by omega) (by omega) (by simp only [List.length_cons, List.length_nil]; omega) (rep_none _) (fun D h' F' N' l' => h D h' F' N' l' List.length_replicate ?_)
  generalize x.toNat = k
  induction k with
  | zero => exact .nil
  | succ k ih => exact .cons .none ih
theorem carried_app {vs ws : List Value} {ds es : List PyData} (h : CarriedAll vs ds) (g : CarriedAll ws es) : CarriedAll (vs ++ ws) (ds ++ es) := by
  induction h with
  | nil => exact g
  | cons a _ ih => exact .cons a ih
theorem r_cat {a b : Addr} {vs ws : List Value} {n1 n2 k1 k2 : Nat} {ds es : List PyData} (F : Fr h₀ L s.heap m) (N : News h₀ L s.heap news) (ha : (a, listOf vs.toArray n1) ∈ news) (hb : (b, listOf ws.toArray n2) ∈ news) (hv : vs.length = k1) (hw : ws.length = k2) (hz : k1 + k2 ≤ 1000) (cv : CarriedAll vs ds) (cw : CarriedAll ws es)
    (h : ∀ D h', Fr h₀ L h' m → News h₀ L h' ((D, listOf (vs ++ ws).toArray 0) :: news) → (∀ p ∈ news, p.1 < D) → (vs ++ ws).length = k1 + k2 → CarriedAll (vs ++ ws) (ds ++ es) → Q (.ref D) { s with heap := h' }) :
    wpAny (model prog w) A (binaryOp .Add (.ref a) (.ref b)) Q E s := by
  refine kmk_add_lit F N (N.isList ha) (N.isList hb) rfl (fun D h' F' N' l' => h D h' F' (by simpa using N') l' (by rw [List.length_append, hv, hw]) (carried_app cv cw)) ?_
  have h1 : vs.toArray.toList.length = k1 := by simpa using hv
  have h2 : ws.toArray.toList.length = k2 := by simpa using hw
  rw [h1, h2]
  exact Nat.le_trans hz (by decide)
theorem r_lrange {r : Addr} {x y : Int} {t₀ u₀ v₀ : Tok} {k : Nat} (hh : A.handled = none) (F : Fr h₀ L s.heap m) (N : News h₀ L s.heap news) (hr : IsRange s.heap r x y 1 t₀ u₀ v₀) (hb : -1000 ≤ x ∧ x ≤ y ∧ y ≤ 1000) (hk : (y - x).toNat = k)
    (h : ∀ D us c h' tk, Fr h₀ L h' m → News h₀ L h' ((D, listOf (List.toArray us) c) :: news) → (∀ p ∈ news, p.1 < D) → us.length = k → CarriedAll us ((rangeKs x k).map PyData.int) → Q (.ref D) { s with heap := h', toks := tk }) :
    wpAny (model prog w) A (call (.type "list") [.ref r]) Q E s := by
  subst hk
  refine kll_range hh F N hr (small_one (by omega) (by omega) (by omega) (by omega)) (rangeSize_nat _ _) (by omega) (fun D us c h' tk F' N' l' hi => h D us c h' tk F' N' l' (by rw [hi.length, rangeKs_length]) (ke_carried hi))
end
theorem ne_all {D : Addr} {l : List (Addr × Obj)} (h : ∀ p ∈ l, p.1 < D) : ∀ p ∈ l, p.1 ≠ D := fun p hp => Nat.ne_of_lt (h p hp)
theorem lt_all {D : Addr} {rest news : List (Addr × Obj)} (h : ∀ p ∈ rest, p.1 < D) (sub : ∀ q ∈ news, q ∈ rest) : ∀ q ∈ news, q.1 < D := fun q hq => h q (sub q hq)
theorem ord_cons {e : Addr × Obj} {tl news : List (Addr × Obj)} (a : ∀ q ∈ news, q.1 < e.1) (b : ∀ q ∈ news, ∀ p ∈ tl, q.1 < p.1) : ∀ q ∈ news, ∀ p ∈ e :: tl, q.1 < p.1 := fun q hq p hp => by
  rcases List.mem_cons.mp hp with rfl | hp
  · exact a q hq
  · exact b q hq p hp
theorem row_reads {h : Heap} {D : Addr} {vs : List Value} {n : Nat} {ds : List PyData} (g : h.get? D = some (listOf vs.toArray n)) (c : CarriedAll vs ds) : ∃ as, Reads h (.ref D) (.list ds) as :=
  ⟨_, reads_newData ⟨_, g, rfl, _, rfl⟩ c⟩
theorem rows5 {h : Heap} {l D1 D2 D3 D4 D5 : Addr} {k : Nat} {d1 d2 d3 d4 d5 : List PyData} (hl : h.get? l = some (listOf #[.ref D1, .ref D2, .ref D3, .ref D4, .ref D5] k))
    (r1 : ∃ as, Reads h (.ref D1) (.list d1) as) (r2 : ∃ as, Reads h (.ref D2) (.list d2) as) (r3 : ∃ as, Reads h (.ref D3) (.list d3) as) (r4 : ∃ as, Reads h (.ref D4) (.list d4) as) (r5 : ∃ as, Reads h (.ref D5) (.list d5) as) :
    ∃ as, Reads h (.ref l) (.list [.list d1, .list d2, .list d3, .list d4, .list d5]) as := by
  obtain ⟨a1, r1⟩ := r1
  obtain ⟨a2, r2⟩ := r2
  obtain ⟨a3, r3⟩ := r3
  obtain ⟨a4, r4⟩ := r4
  obtain ⟨a5, r5⟩ := r5
  exact ⟨_, reads_list_at hl rfl rfl (.cons r1 (.cons r2 (.cons r3 (.cons r4 (.cons r5 .nil)))))⟩
theorem rows6 {h : Heap} {l D1 D2 D3 D4 D5 D6 : Addr} {k : Nat} {d1 d2 d3 d4 d5 d6 : List PyData} (hl : h.get? l = some (listOf #[.ref D1, .ref D2, .ref D3, .ref D4, .ref D5, .ref D6] k))
    (r1 : ∃ as, Reads h (.ref D1) (.list d1) as) (r2 : ∃ as, Reads h (.ref D2) (.list d2) as) (r3 : ∃ as, Reads h (.ref D3) (.list d3) as) (r4 : ∃ as, Reads h (.ref D4) (.list d4) as) (r5 : ∃ as, Reads h (.ref D5) (.list d5) as) (r6 : ∃ as, Reads h (.ref D6) (.list d6) as) :
    ∃ as, Reads h (.ref l) (.list [.list d1, .list d2, .list d3, .list d4, .list d5, .list d6]) as := by
  obtain ⟨a1, r1⟩ := r1
  obtain ⟨a2, r2⟩ := r2
  obtain ⟨a3, r3⟩ := r3
  obtain ⟨a4, r4⟩ := r4
  obtain ⟨a5, r5⟩ := r5
  obtain ⟨a6, r6⟩ := r6
  exact ⟨_, reads_list_at hl rfl rfl (.cons r1 (.cons r2 (.cons r3 (.cons r4 (.cons r5 (.cons r6 .nil))))))⟩
abbrev nn (k : Nat) : List PyData := List.replicate k PyData.none
abbrev ii (a : Int) (k : Nat) : List PyData := (rangeKs a k).map PyData.int
theorem leaf34 {c n : Int} (hc : 0 ≤ c ∧ c < 7) (hn : 29 ≤ n ∧ n ≤ 31) (h : c + n ≤ 34) :
    calD c n = .list [.list (nn c.toNat ++ ii 1 (8 - c - 1).toNat), .list (ii (8 - c) 7), .list (ii (8 - c + 7) 7), .list (ii (8 - c + 7 + 7) 7), .list (ii (8 - c + 7 + 7 + 7) (n + 1 - (8 - c + 7 + 7 + 7)).toNat ++ nn (8 - c + 7 + 7 + 7 + 6 - n).toNat)] := by
  revert h
  refine three (P := fun n => c + n ≤ 34 → calD c n = .list [.list (nn c.toNat ++ ii 1 (8 - c - 1).toNat), .list (ii (8 - c) 7), .list (ii (8 - c + 7) 7), .list (ii (8 - c + 7 + 7) 7), .list (ii (8 - c + 7 + 7 + 7) (n + 1 - (8 - c + 7 + 7 + 7)).toNat ++ nn (8 - c + 7 + 7 + 7 + 6 - n).toNat)]) ?_ ?_ ?_ hn <;>
    refine seven (P := fun c => c + _ ≤ 34 → calD c _ = .list [.list (nn c.toNat ++ ii 1 (8 - c - 1).toNat), .list (ii (8 - c) 7), .list (ii (8 - c + 7) 7), .list (ii (8 - c + 7 + 7) 7), .list (ii (8 - c + 7 + 7 + 7) (_ + 1 - (8 - c + 7 + 7 + 7)).toNat ++ nn (8 - c + 7 + 7 + 7 + 6 - _).toNat)]) ?_ ?_ ?_ ?_ ?_ ?_ ?_ hc <;> intro h <;> first | (exfalso; omega) | rfl
theorem leaf35 {c n : Int} (hc : 0 ≤ c ∧ c < 7) (hn : 29 ≤ n ∧ n ≤ 31) (h : c + n = 35) :
    calD c n = .list [.list (nn c.toNat ++ ii 1 (8 - c - 1).toNat), .list (ii (8 - c) 7), .list (ii (8 - c + 7) 7), .list (ii (8 - c + 7 + 7) 7), .list (ii (8 - c + 7 + 7 + 7) 7)] := by
  have : (c = 4 ∧ n = 31) ∨ (c = 5 ∧ n = 30) ∨ (c = 6 ∧ n = 29) := by omega
  rcases this with ⟨rfl, rfl⟩ | ⟨rfl, rfl⟩ | ⟨rfl, rfl⟩ <;> rfl
theorem leaf36 {c n : Int} (hc : 0 ≤ c ∧ c < 7) (hn : 29 ≤ n ∧ n ≤ 31) (h : 36 ≤ c + n) :
    calD c n = .list [.list (nn c.toNat ++ ii 1 (8 - c - 1).toNat), .list (ii (8 - c) 7), .list (ii (8 - c + 7) 7), .list (ii (8 - c + 7 + 7) 7), .list (ii (8 - c + 7 + 7 + 7) 7), .list (ii (8 - c + 7 + 7 + 7 + 7) (n + 1 - (8 - c + 7 + 7 + 7 + 7)).toNat ++ nn (8 - c + 7 + 7 + 7 + 7 + 6 - n).toNat)] := by
  have : (c = 5 ∧ n = 31) ∨ (c = 6 ∧ n = 30) ∨ (c = 6 ∧ n = 31) := by omega
  rcases this with ⟨rfl, rfl⟩ | ⟨rfl, rfl⟩ | ⟨rfl, rfl⟩ <;> rfl
section
variable {prog : Program} {w : World} {A : Around} {E : Value → Shared → Prop} {s : Shared} {h₀ : Heap} {L : Addr} {m : Str → Option Value} {news : List (Addr × Obj)} {Q : Value → Shared → Prop}
theorem r_mul7 {l : Addr} {n : Nat} {u : Tok} (F : Fr h₀ L s.heap m) (N : News h₀ L s.heap news) (hl : (l, listOf [Value.none].toArray n) ∈ news)
    (h : ∀ D h', Fr h₀ L h' m → News h₀ L h' ((D, listOf (List.replicate 7 Value.none).toArray 0) :: news) → (∀ p ∈ news, p.1 < D) → (List.replicate 7 Value.none).length = 7 → CarriedAll (List.replicate 7 Value.none) (List.replicate 7 PyData.none) → Q (.ref D) { s with heap := h' }) :
    wpAny (model prog w) A (binaryOp .Mult (.int 7 u) (.ref l)) Q E s :=
  mul_list_r F N (N _ hl).1 (by decide) (by decide) (by decide) (fun h' F' N' => h _ h' F' N' (fun p hp => Heap.lt_size (N p hp).1) rfl (.cons .none (.cons .none (.cons .none (.cons .none (.cons .none (.cons .none (.cons .none .nil))))))))
end
end Mine
end
section
open PySem PySem.W PyProof.Rows PySem.Spec PySem.Calls
namespace Mine
section
variable {prog : Program} {w : World} {A : Around} {E : Value → Shared → Prop} {s : Shared} {env : Env} {h₀ : Heap} {L : Addr} {m : Str → Option Value}
/-- the source of a comprehension that steps by k -/
def StepSrc (prog : Program) (w : World) (A : Around) (h₀ : Heap) (L : Addr) (m : Str → Option Value) (env : Env) (elt : Expr) (x : Str) (scope : Scope) (cl : List (Str × Addr)) (k : Int) (Fin : Shared → List Value → List (Addr × Obj) → Prop) (xv : Value) (s₁ : Shared) : Prop :=
  ∃ r a b t u v n news, xv = .ref r ∧ A.handled = none ∧ Fr h₀ L s₁.heap m ∧ News h₀ L s₁.heap news ∧ IsRange s₁.heap r a b k t u v ∧ Builtin.Range.small a b k = true ∧ Builtin.Range.rangeSize a b k = ((n : Nat) : Int) ∧ n ≤ sizeLine ∧
    ∀ g, LCg.CompRest prog w A h₀ L m env elt x scope cl { s₁ with heap := g } (fun _ => True) (fun i v => ∃ t, v = .int (a + (i : Int) * k) t) (Fin { s₁ with heap := g }) n 0 [] news
theorem step_walks {I : Addr} (hh : A.handled = none) (a k : Int) (n : Nat) : Walks prog w A I [I] [I] n (fun i v => ∃ t, v = .int (a + (i : Int) * k) t) (fun i h => IsRangeIter h I (a + (i : Nat) * k) ((n : Int) - (i : Nat)) k) := by
  have W := (Walks.range (prog := prog) (w := w) hh I a k n).bound
  exact { sub := W.sub, frame := W.frame, done := W.done, self := W.self, item := fun i s Q E hi st hQ => W.item i s Q E hi st fun v h' tk hP => hQ v h' tk hP.2 }
theorem comp_step {elt iter : Expr} {x : Str} {px : Pos} {scope : Scope} {cl : List (Str × Addr)} {pos : Pos} {Q : Value → Shared → Prop} (k : Int) (_F₀ : Fr h₀ L s.heap m)
    (hclos : closureFor scope env = pure cl) (hcell : ∀ y ∈ scope.names, y.2 ≠ .cell) (hkind : scope.kind = .function)
    (hnames : ∀ y ∈ scope.names, y.2 = .local → scope.names.lookup y.1 = some .local) (hx : scope.names.lookup x = some .local)
    (h : wpAny (model prog w) A (eval iter env) (StepSrc prog w A h₀ L m env elt x scope cl k (fun s₂ => LCg.FinE h₀ L m s₂ Q)) E s)
    (hs : ∀ x, foldedSetIterable iter env x = pure x := by intro _; rfl) :
    wpAny (model prog w) A (eval (.ListComp elt [⟨.Name x px, iter, [], 0⟩] scope pos) env) Q E s := by
  rw [eval_ListComp]
  refine wpAny_comprehension_free (use := none) rfl hs hclos hkind hnames (wpAny_mono h (fun xv s₁ h₁ => ?_) fun _ _ e => e)
  obtain ⟨r, a, b, t, u, v, n, news, rfl, hh, F, N, hr, hsm, hn, hsz, R⟩ := h₁
  refine wpAny_pyIter_range hr hsm ?_
  have st : ∀ i (h h' : Heap) (o : Obj) (nw : List (Addr × Obj)), IsRangeIter h s₁.heap.objs.size (a + (i : Nat) * k) ((n : Int) - (i : Nat)) k → h.get? s₁.heap.objs.size = some o → h'.get? s₁.heap.objs.size = some o → (∀ b o, h₀.get? b = some o → h'.get? b = some o) → News h₀ L h' nw → True →
      IsRangeIter h' s₁.heap.objs.size (a + (i : Nat) * k) ((n : Int) - (i : Nat)) k := fun i h h' o nw z e e' _ _ _ => by
    have z' : h.get? s₁.heap.objs.size = some _ := z
    rw [e] at z'
    exact e'.trans z'
  refine LCg.block_U (step_walks hh a k n) hsz (fun i h z => ⟨_, z⟩) st hcell hkind hx ?_ (fun b hb => ?_)
    (F.keeps fun _ _ e => Heap.get?_push_of_some _ e) (N.grown fun _ _ e => Heap.get?_push_of_some _ e) (Nat.ne_of_lt F.ns.lt) (next_is_new F) (fun p hp => Nat.ne_of_lt (Heap.lt_size (N p hp).1)) trivial (R _) ?_
  · show IsRangeIter _ _ _ _ _
    rw [hn]
    simpa using Heap.get?_push_size _ rfl
  · rw [List.mem_singleton.mp hb]
    show s₁.heap.objs.size < (s₁.heap.push _).objs.size
    rw [Heap.size_push]
    exact Nat.lt_succ_self _
  · intro D C h' tk m' ys news' F' N' o1 hn' hC hD hCL hDL hCD offC fin
    refine ⟨m', hn', fun h2 hs2 => fin D h2 tk (F'.change hs2 hCL hC) (fun p hp => ?_) o1⟩
    refine ⟨hs2.extBut _ _ ?_ (N' p hp).1, (N' p hp).2⟩
    rcases List.mem_cons.mp hp with rfl | hp
    · exact Ne.symm hCD
    · exact offC p hp
end
theorem ne_succ {D : Addr} {l : List (Addr × Obj)} (h : ∀ p ∈ l, p.1 < D) : ∀ p ∈ l, p.1 ≠ D + 1 := fun p hp => Nat.ne_of_lt (Nat.lt_succ_of_lt (h p hp))
theorem size5 {t : Int} (h : 29 ≤ t ∧ t ≤ 35) : Builtin.Range.rangeSize 0 t 7 = ((5 : Nat) : Int) ∧ Builtin.Range.small 0 t 7 = true := by
  have : t = 29 ∨ t = 30 ∨ t = 31 ∨ t = 32 ∨ t = 33 ∨ t = 34 ∨ t = 35 := by omega
  rcases this with rfl | rfl | rfl | rfl | rfl | rfl | rfl <;> decide
theorem size6 {t : Int} (h : 36 ≤ t ∧ t ≤ 37) : Builtin.Range.rangeSize 0 t 7 = ((6 : Nat) : Int) ∧ Builtin.Range.small 0 t 7 = true := by
  have : t = 36 ∨ t = 37 := by omega
  rcases this with rfl | rfl <;> decide
theorem pick7 (l : List Value) (a : Nat) (h : a + 7 ≤ l.length) : kms_pick l (some (a : Int)) (some ((a : Int) + 7)) = (l.drop a).take 7 := by
  unfold kms_pick kms_lo kms_hi
  simp only []
  rw [if_neg (by omega), if_neg (by omega)]
  have e1 : min (a : Int).toNat l.length = a := by omega
  have e2 : min ((a : Int) + 7).toNat l.length = a + 7 := by omega
  rw [e1, e2]
  congr 1
  omega
theorem carried_drop {vs : List Value} {ds : List PyData} (h : CarriedAll vs ds) : ∀ a, CarriedAll (vs.drop a) (ds.drop a) := by
  induction h with
  | nil => intro a; simpa using CarriedAll.nil
  | cons c h ih =>
    intro a
    cases a with
    | zero => exact .cons c h
    | succ a => exact ih a
theorem carried_take {vs : List Value} {ds : List PyData} (h : CarriedAll vs ds) : ∀ a, CarriedAll (vs.take a) (ds.take a) := by
  induction h with
  | nil => intro a; simpa using CarriedAll.nil
  | cons c h ih =>
    intro a
    cases a with
    | zero => exact .nil
    | succ a => exact .cons c (ih a)
theorem r_slice7 {prog : Program} {w : World} {A : Around} {E : Value → Shared → Prop} {s : Shared} {h₀ : Heap} {L l : Addr} {m : Str → Option Value} {news : List (Addr × Obj)} {value slice : PySem.Expr} {vs : List Value} {ds : List PyData} {n1 K a : Nat} {x y : Int} {t1 t2 : Tok} {Q : Value → Shared → Prop}
    (F : Fr h₀ L s.heap m) (N : News h₀ L s.heap news) (hl : (l, listOf vs.toArray n1) ∈ news) (hK : vs.length = K) (cv : CarriedAll vs ds) (hx : x = (a : Int)) (hy : y = x + 7) (ha : a + 7 ≤ K) (hK2 : K ≤ 1000)
    (h : ∀ D h', Fr h₀ L h' m → News h₀ L h' ((D, listOf ((vs.drop a).take 7).toArray 0) :: news) → (∀ p ∈ news, p.1 < D) → CarriedAll ((vs.drop a).take 7) ((ds.drop a).take 7) → Q (.ref D) { s with heap := h' })
    (hs : subscripted slice false (.ref l) (.ref s.heap.objs.size) = operate [.ref s.heap.objs.size, .ref l] (getItem (.ref l) (.ref s.heap.objs.size)) := by with_unfolding_all rfl) (ht : ∀ r, letTemporaryGo value (.ref l) r = pure () := by intro _; with_unfolding_all rfl) :
    wpAny (model prog w) A (subscriptTail value slice (.ref l) (.ref s.heap.objs.size)) Q E { s with heap := s.heap.push { cls := .type "slice", data := .fields #[.int x t1, .int y t2, .none] } } := by
  subst hx hy hK
  refine kms_slice_lit F N (N.isList hl) (IsPart.int _ _) (IsPart.int _ _) (pick7 _ a (by simpa using ha)) (fun D h' F' N' l' => h D h' F' N' l' (carried_take (carried_drop cv a) 7)) hs ht ?_
  rw [List.size_toArray]
  exact Nat.le_trans hK2 (by decide)
theorem step_at (i : Nat) : (0 : Int) + (i : Int) * 7 = ((7 * i : Nat) : Int) := by omega
/-- a contract that does not say where the new objects lie -/
def ConW (w : World) (p : Program) (loose : List Str) (mean : ExcName → Option Value) (mg mb : Str → Option Value) (f : Value) (vs : List Value) (dn : Nat)
    (pre : List (Addr × Obj) → Prop) (Out : Value → List (Addr × Obj) → Prop) : Prop :=
  ∀ (dp un : Nat) (gd : Option (List Code)) (cn : Str) (cs : Scope) (a : Addr) (ccd : Value) (cl : List (Str × Addr)) (outer : List Env) (A₀ : Around) (base h₀ : Heap) (L : Addr) (m : Str → Option Value) (news : List (Addr × Obj)) (s : Shared) (Q E : Value → Shared → Prop),
    Below A₀ base outer h₀ → Fr h₀ L s.heap m → (hd.heap_39 w.params).In h₀ → News h₀ L s.heap news → Top p loose mean mg mb h₀ → cs.kind = .function → pre news →
    dp + dn < recursionLimit → un + 8 * dn < cLine →
    (∀ r tl h' tk', Fr h₀ L h' m → News h₀ L h' (tl ++ news) → Out r tl → Q r { s with heap := h', toks := tk' }) →
    wpAny (model PySem.Challenge.rw_ad5015_01.row.prog w) (ktrTop dp un gd cn cs L a ccd cl outer) (call f vs) Q E s
section
variable {w : World} {p : Program} {loose : List Str} {mean : ExcName → Option Value} {mg mb : Str → Option Value} {f : Value} {vs : List Value} {dn : Nat} {pre : List (Addr × Obj) → Prop} {Out : Value → List (Addr × Obj) → Prop}
  {cn : Str} {cs : Scope} {a : Addr} {ccd : Value} {A₀ : Around} {base h₀ : Heap} {L : Addr} {m : Str → Option Value} {news : List (Addr × Obj)} {s : Shared} {Q E : Value → Shared → Prop}
theorem conW_use {dp un : Nat} {gd : Option (List Code)} {cl : List (Str × Addr)} {outer : List Env} (c : ConW w p loose mean mg mb f vs dn pre Out) (B : Below A₀ base outer h₀) (F : Fr h₀ L s.heap m) (X : (hd.heap_39 w.params).In h₀) (N : News h₀ L s.heap news) (T : Top p loose mean mg mb h₀) (hk : cs.kind = .function) (hp : pre news)
    (hd : dp + dn < recursionLimit) (hu : un + 8 * dn < cLine) (ret : ∀ r tl h' tk', Fr h₀ L h' m → News h₀ L h' (tl ++ news) → Out r tl → Q r { s with heap := h', toks := tk' }) :
    wpAny (model PySem.Challenge.rw_ad5015_01.row.prog w) (ktrTop dp un gd cn cs L a ccd cl outer) (call f vs) Q E s := c _ _ _ _ _ _ _ _ _ _ _ _ _ _ _ _ _ _ B F X N T hk hp hd hu ret
theorem conW_useL (c : ConW w p loose mean mg mb f vs dn pre Out) (B : Below A₀ base [] h₀) (F : Fr h₀ L s.heap m) (X : (hd.heap_39 w.params).In h₀) (N : News h₀ L s.heap news) (T : Top p loose mean mg mb h₀) (hk : cs.kind = .function) (hp : pre news)
    (hd : (callerA.deeper (envOfC cn cs L a ccd)).depth + dn < recursionLimit) (hu : (callerA.deeper (envOfC cn cs L a ccd)).units + 8 * dn < cLine)
    (ret : ∀ r tl h' tk', Fr h₀ L h' m → News h₀ L h' (tl ++ news) → Out r tl → Q r { s with heap := h', toks := tk' }) :
    wpAny (model PySem.Challenge.rw_ad5015_01.row.prog w) (callerA.deeper (envOfC cn cs L a ccd)) (call f vs) Q E s :=
  c (callerA.deeper (envOfC cn cs L a ccd)).depth (callerA.deeper (envOfC cn cs L a ccd)).units (callerA.deeper (envOfC cn cs L a ccd)).guards cn cs a ccd (cellsFrom (L + 1) cs.names []) [] _ _ _ _ _ _ _ _ _ B F X N T hk hp hd hu ret
end
theorem sub4 {a b c d : Addr × Obj} {rest : List (Addr × Obj)} : ∀ p ∈ a :: b :: c :: d :: rest, p ∈ d :: a :: b :: c :: rest := by
  intro p hp
  rcases List.mem_cons.mp hp with rfl | hp
  · exact .tail _ (.head _)
  · rcases List.mem_cons.mp hp with rfl | hp
    · exact .tail _ (.tail _ (.head _))
    · rcases List.mem_cons.mp hp with rfl | hp
      · exact .tail _ (.tail _ (.tail _ (.head _)))
      · rcases List.mem_cons.mp hp with rfl | hp
        · exact .head _
        · exact .tail _ (.tail _ (.tail _ (.tail _ hp)))
def cells' (kc kn : Nat) : List PyData := nn kc ++ ii 1 kn ++ nn 7
theorem help35 {c n : Int} (hc : 0 ≤ c ∧ c < 7) (hn : 29 ≤ n ∧ n ≤ 31) (h : c + n ≤ 35) :
    calD c n = .list [.list (((cells' c.toNat n.toNat).drop 0).take 7), .list (((cells' c.toNat n.toNat).drop 7).take 7), .list (((cells' c.toNat n.toNat).drop 14).take 7), .list (((cells' c.toNat n.toNat).drop 21).take 7), .list (((cells' c.toNat n.toNat).drop 28).take 7)] := by
  revert h
  refine three (P := fun n => c + n ≤ 35 → calD c n = .list [.list (((cells' c.toNat n.toNat).drop 0).take 7), .list (((cells' c.toNat n.toNat).drop 7).take 7), .list (((cells' c.toNat n.toNat).drop 14).take 7), .list (((cells' c.toNat n.toNat).drop 21).take 7), .list (((cells' c.toNat n.toNat).drop 28).take 7)]) ?_ ?_ ?_ hn <;>
    refine seven (P := fun c => c + _ ≤ 35 → calD c _ = .list [.list (((cells' c.toNat _).drop 0).take 7), .list (((cells' c.toNat _).drop 7).take 7), .list (((cells' c.toNat _).drop 14).take 7), .list (((cells' c.toNat _).drop 21).take 7), .list (((cells' c.toNat _).drop 28).take 7)]) ?_ ?_ ?_ ?_ ?_ ?_ ?_ hc <;> intro h <;> first | (exfalso; omega) | rfl
theorem help36 {c n : Int} (hc : 0 ≤ c ∧ c < 7) (hn : 29 ≤ n ∧ n ≤ 31) (h : 36 ≤ c + n) :
    calD c n = .list [.list (((cells' c.toNat n.toNat).drop 0).take 7), .list (((cells' c.toNat n.toNat).drop 7).take 7), .list (((cells' c.toNat n.toNat).drop 14).take 7), .list (((cells' c.toNat n.toNat).drop 21).take 7), .list (((cells' c.toNat n.toNat).drop 28).take 7), .list (((cells' c.toNat n.toNat).drop 35).take 7)] := by
  have : (c = 5 ∧ n = 31) ∨ (c = 6 ∧ n = 30) ∨ (c = 6 ∧ n = 31) := by omega
  rcases this with ⟨rfl, rfl⟩ | ⟨rfl, rfl⟩ | ⟨rfl, rfl⟩ <;> rfl
end Mine
end
section
open PySem PySem.W PyProof.Rows PySem.Spec
namespace Mine
local macro_rules | `(tactic| walk_at "binaryOp Sub float float") => `(tactic| (k_here; (with_reducible show wpAny _ _ (binaryOp _ (Value.float _ _) (Value.float _ _)) _ _ _); ((with_reducible refine' r_sub_ff ?hx ?hy ?ha ?hb ?e ?_); (case hx => (with_reducible (first | exact rfl | exact half_c | exact epg_c | exact epp_c))); (case hy => (with_reducible (first | exact rfl | exact half_c | exact epg_c | exact epp_c))); (case ha => k_dflt (first | with_reducible assumption | decide | omega)); (case hb => k_dflt (first | with_reducible assumption | decide | omega)); (case e => (first | with_reducible assumption | (k_dflt (exact rfl)))); k_whole)))
local macro_rules | `(tactic| walk_at "binaryOp Add float int") => `(tactic| (k_here; (with_reducible show wpAny _ _ (binaryOp _ (Value.float _ _) (Value.int _ _)) _ _ _); first | ((with_reducible refine' r_add_fi ?hx ?ha ?hn ?e ?_); (case hx => (with_reducible (first | exact rfl | exact half_c | exact epg_c | exact epp_c))); (case ha => k_dflt (first | with_reducible assumption | decide | omega)); (case hn => k_dflt (first | with_reducible assumption | decide | omega)); (case e => (first | with_reducible assumption | (k_dflt (exact rfl)))); k_whole) | ((with_reducible refine' r_add_xi ?hn ?_); (case hn => k_dflt (first | with_reducible assumption | decide | omega)); k_whole)))
local macro_rules | `(tactic| walk_at "binaryOp Sub float int") => `(tactic| (k_here; (with_reducible show wpAny _ _ (binaryOp _ (Value.float _ _) (Value.int _ _)) _ _ _); ((with_reducible refine' r_sub_fi ?hx ?ha ?hn ?e ?_); (case hx => (with_reducible (first | exact rfl | exact half_c | exact epg_c | exact epp_c))); (case ha => k_dflt (first | with_reducible assumption | decide | omega)); (case hn => k_dflt (first | with_reducible assumption | decide | omega)); (case e => (first | with_reducible assumption | (k_dflt (exact rfl)))); k_whole)))
local macro_rules | `(tactic| walk_at "binaryOp Add int float") => `(tactic| (k_here; (with_reducible show wpAny _ _ (binaryOp _ (Value.int _ _) (Value.float _ _)) _ _ _); ((with_reducible refine' r_add_if ?hx ?ha ?hn ?e ?_); (case hx => (with_reducible (first | exact rfl | exact half_c | exact epg_c | exact epp_c))); (case ha => k_dflt (first | with_reducible assumption | decide | omega)); (case hn => k_dflt (first | with_reducible assumption | decide | omega)); (case e => (first | with_reducible assumption | (k_dflt (exact rfl)))); k_whole)))
local macro_rules | `(tactic| walk_at "binaryOp Sub int float") => `(tactic| (k_here; (with_reducible show wpAny _ _ (binaryOp _ (Value.int _ _) (Value.float _ _)) _ _ _); ((with_reducible refine' r_sub_if ?hx ?ha ?hn ?e ?_); (case hx => (with_reducible (first | exact rfl | exact half_c | exact epg_c | exact epp_c))); (case ha => k_dflt (first | with_reducible assumption | decide | omega)); (case hn => k_dflt (first | with_reducible assumption | decide | omega)); (case e => (first | with_reducible assumption | (k_dflt (exact rfl)))); k_whole)))
local macro_rules | `(tactic| walk_at "binaryOp Mult float int") => `(tactic| (k_here; (with_reducible show wpAny _ _ (binaryOp _ (Value.float _ _) (Value.int _ _)) _ _ _); ((with_reducible refine' r_mul_fi ?hx ?ha ?hn ?hm ?e ?_); (case hx => (with_reducible (first | exact rfl | exact half_c | exact epg_c | exact epp_c))); (case ha => k_dflt (first | with_reducible assumption | decide | omega)); (case hn => k_dflt (first | with_reducible assumption | decide | omega)); (case hm => k_dflt (first | with_reducible assumption | decide | omega)); (case e => (first | with_reducible assumption | (k_dflt (exact rfl)))); k_whole)))
local macro_rules | `(tactic| walk_at "binaryOp Div float int") => `(tactic| (k_here; (with_reducible show wpAny _ _ (binaryOp _ (Value.float _ _) (Value.int _ _)) _ _ _); ((with_reducible refine' r_div_fi ?hn ?hm ?_); (case hn => k_dflt (first | with_reducible assumption | decide | omega)); (case hm => k_dflt (first | with_reducible assumption | decide | omega)); k_whole)))
local macro_rules | `(tactic| walk_at "binaryOp Mod float int") => `(tactic| (k_here; (with_reducible show wpAny _ _ (binaryOp _ (Value.float _ _) (Value.int _ _)) _ _ _); ((with_reducible refine' r_mod_fi ?hx ?ha ?he ?hn ?hm ?e ?_); (case hx => (with_reducible (first | exact rfl | exact half_c | exact epg_c | exact epp_c))); (case ha => k_dflt (first | with_reducible assumption | decide | omega)); (case he => k_dflt (first | with_reducible assumption | decide | omega)); (case hn => k_dflt (first | with_reducible assumption | decide | omega)); (case hm => k_dflt (first | with_reducible assumption | decide | omega)); (case e => (first | with_reducible assumption | (k_dflt (exact rfl)))); k_whole)))
local macro_rules | `(tactic| walk_at "binaryOp Div int int") => `(tactic| (k_here; (with_reducible show wpAny _ _ (binaryOp _ (Value.int _ _) (Value.int _ _)) _ _ _); ((with_reducible refine' r_div_ii ?hA ?ha ?hn ?hm ?_); (case hA => k_dflt (exact rfl)); (case ha => k_dflt (first | with_reducible assumption | decide | omega)); (case hn => k_dflt (first | with_reducible assumption | decide | omega)); (case hm => k_dflt (first | with_reducible assumption | decide | omega)); k_whole)))
local macro_rules | `(tactic| walk_at "call builtin:math.floor") => `(tactic| (k_here; (with_reducible show wpAny _ _ (call (Value.builtin "math.floor") [Value.float _ _]) _ _ _); first | ((with_reducible refine' r_floor_x ?hA ?hx ?e ?_); (case hA => k_dflt (exact rfl)); (case hx => with_reducible assumption); (case e => with_reducible assumption); k_whole) | ((with_reducible refine' r_floor_m ?hA ?hm ?hadj ?hd ?e ?_); (case hA => k_dflt (exact rfl)); (case hm => k_dflt (first | with_reducible assumption | decide | omega)); (case hadj => k_dflt omega); (case hd => k_dflt omega); (case e => (first | with_reducible assumption | (k_dflt (exact rfl)))); k_whole) | ((with_reducible refine' r_floor_q ?hA ?ha ?hn ?hm ?e ?_); (case hA => k_dflt (exact rfl)); (case ha => k_dflt (first | with_reducible assumption | decide | omega)); (case hn => k_dflt (first | with_reducible assumption | decide | omega)); (case hm => k_dflt (first | with_reducible assumption | decide | omega)); (case e => (first | with_reducible assumption | (k_dflt (exact rfl)))); k_whole) | ((with_reducible refine' r_floor_d ?hA ?hx ?ha ?hn ?hm ?e ?_); (case hA => k_dflt (exact rfl)); (case hx => with_reducible exact rfl); (case ha => k_dflt (first | with_reducible assumption | decide | omega)); (case hn => k_dflt (first | with_reducible assumption | decide | omega)); (case hm => k_dflt (first | with_reducible assumption | decide | omega)); (case e => (first | with_reducible assumption | (k_dflt (exact rfl)))); k_whole) | ((with_reducible refine' r_floor_h ?hA ?hx ?ha ?e ?_); (case hA => k_dflt (exact rfl)); (case hx => with_reducible exact rfl); (case ha => k_dflt (first | with_reducible assumption | decide | omega)); (case e => (first | with_reducible assumption | (k_dflt (exact rfl)))); k_whole)))
local macro_rules | `(tactic| walk_at "call builtin:math.ceil") => `(tactic| (k_here; (with_reducible show wpAny _ _ (call (Value.builtin "math.ceil") [Value.float _ _]) _ _ _); ((with_reducible refine' r_ceil_d ?hA ?hx ?ha ?hn ?hm ?e ?_); (case hA => k_dflt (exact rfl)); (case hx => with_reducible exact rfl); (case ha => k_dflt (first | with_reducible assumption | decide | omega)); (case hn => k_dflt (first | with_reducible assumption | decide | omega)); (case hm => k_dflt (first | with_reducible assumption | decide | omega)); (case e => (first | with_reducible assumption | (k_dflt (exact rfl)))); k_whole)))
local macro_rules | `(tactic| walk_at "call builtin:math.trunc") => `(tactic| (k_here; (with_reducible show wpAny _ _ (call (Value.builtin "math.trunc") [Value.float _ _]) _ _ _); ((with_reducible refine' r_trunc_h ?hA ?hx ?ha ?he ?e ?_); (case hA => k_dflt (exact rfl)); (case hx => with_reducible exact rfl); (case ha => k_dflt (first | with_reducible assumption | decide | omega)); (case he => k_dflt (first | with_reducible assumption | decide | omega)); (case e => (first | with_reducible assumption | (k_dflt (exact rfl)))); k_whole)))
local macro_rules | `(tactic| walk_at "call type:int") => `(tactic| (k_here; (with_reducible show wpAny _ _ (call (Value.type "int") [Value.float _ _]) _ _ _); ((with_reducible refine' r_int_h ?hA ?hx ?ha ?he ?e ?_); (case hA => k_dflt (exact rfl)); (case hx => with_reducible exact rfl); (case ha => k_dflt (first | with_reducible assumption | decide | omega)); (case he => k_dflt (first | with_reducible assumption | decide | omega)); (case e => (first | with_reducible assumption | (k_dflt (exact rfl)))); k_whole)))
local macro_rules | `(tactic| walk_at "compareOp Lt float int") => `(tactic| (k_here; (with_reducible show wpAny _ _ (compareOp _ (Value.float _ _) (Value.int _ _)) _ _ _); first | ((with_reducible refine' r_lt_fi ?hx ?ha ?e ?_); (case hx => with_reducible exact rfl); (case ha => k_dflt (first | with_reducible assumption | decide | omega)); (case e => (first | with_reducible assumption | (k_dflt (exact rfl)))); k_whole) | ((with_reducible refine' r_lt_xi ?hx ?e ?_); (case hx => assumption); (case e => (first | with_reducible assumption | (k_dflt (exact rfl)))); k_whole)))
local macro_rules | `(tactic| walk_at "compareOp LtE float int") => `(tactic| (k_here; (with_reducible show wpAny _ _ (compareOp _ (Value.float _ _) (Value.int _ _)) _ _ _); ((with_reducible refine' r_le_fi ?hx ?ha ?e ?_); (case hx => with_reducible exact rfl); (case ha => k_dflt (first | with_reducible assumption | decide | omega)); (case e => (first | with_reducible assumption | (k_dflt (exact rfl)))); k_whole)))
local macro_rules | `(tactic| walk_at "compareOp Gt float int") => `(tactic| (k_here; (with_reducible show wpAny _ _ (compareOp _ (Value.float _ _) (Value.int _ _)) _ _ _); ((with_reducible refine' r_gt_fi ?hx ?ha ?e ?_); (case hx => with_reducible exact rfl); (case ha => k_dflt (first | with_reducible assumption | decide | omega)); (case e => (first | with_reducible assumption | (k_dflt (exact rfl)))); k_whole)))
local macro_rules | `(tactic| walk_at "compareOp Gt int float") => `(tactic| (k_here; (with_reducible show wpAny _ _ (compareOp _ (Value.int _ _) (Value.float _ _)) _ _ _); ((with_reducible refine' r_gt_ix ?hx ?e ?_); (case hx => assumption); (case e => (first | with_reducible assumption | (k_dflt (exact rfl)))); k_whole)))
local macro_rules | `(tactic| walk_at "compareOp LtE int float") => `(tactic| (k_here; (with_reducible show wpAny _ _ (compareOp _ (Value.int _ _) (Value.float _ _)) _ _ _); ((with_reducible refine' r_le_ix ?hx ?e ?_); (case hx => assumption); (case e => (first | with_reducible assumption | (k_dflt (exact rfl)))); k_whole)))
local macro_rules | `(tactic| walk_at "compareOp NotEq float float") => `(tactic| (k_here; (with_reducible show wpAny _ _ (compareOp _ (Value.float _ _) (Value.float _ _)) _ _ _); ((with_reducible refine' r_ne_ff ?hx ?hy ?ha ?hb ?_); (case hx => with_reducible exact rfl); (case hy => with_reducible exact rfl); (case ha => k_dflt (first | with_reducible assumption | decide | omega)); (case hb => k_dflt (first | with_reducible assumption | decide | omega)); k_whole)))
local macro_rules | `(tactic| walk_at "compareOp In int ref") => `(tactic| (k_here; (with_reducible show wpAny _ _ (compareOp _ (Value.int _ _) (Value.ref _)) _ _ _); ((with_reducible refine' in_tupK ?F ?X ?l ?i ?b ?_); (case F => k_asm); (case X => k_asm); (case l => k_is); (case i => (repeat constructor)); (case b => assumption); k_whole)))
local macro_rules | `(tactic| walk_at "compareOp Eq int int") => `(tactic| (k_here; with_reducible (first | refine r_eq_y (by assumption) ?_ | refine r_eq_n (by assumption) ?_)))
local macro_rules | `(tactic| walk_at "compareOp NotEq int int") => `(tactic| (k_here; with_reducible (first | refine r_ne_y (by assumption) ?_ | refine r_ne_n (by assumption) ?_)))
local macro_rules | `(tactic| walk_at "compareOp Lt int int") => `(tactic| (k_here; with_reducible (first | refine r_lt_y (by assumption) ?_ | refine r_lt_n (by assumption) ?_)))
local macro_rules | `(tactic| walk_at "compareOp LtE int int") => `(tactic| (k_here; with_reducible (first | refine r_le_y (by assumption) ?_ | refine r_le_n (by assumption) ?_)))
local macro_rules | `(tactic| walk_at "compareOp Gt int int") => `(tactic| (k_here; with_reducible (first | refine r_gt_y (by assumption) ?_ | refine r_gt_n (by assumption) ?_)))
local macro_rules | `(tactic| walk_at "binaryOp Add int bool") => `(tactic| (k_here; with_reducible (refine r_add_ib (by assumption) ?_)))
local macro_rules | `(tactic| walk_at "binaryOp Mult int int") => `(tactic| (k_here; first | (refine r_mul_r (by decide) ?_) | (refine r_mul_l (by decide) ?_) | (refine r_mul_r (by assumption) ?_) | (refine r_mul_l (by assumption) ?_)))
local macro_rules | `(tactic| walk_at "callWith ref") => `(tactic| (k_here; k_dflt (refine' callWith_F ?k1 ?_; (case k1 => exact FnAt.of (by k_asm) (by (first | assumption | exact List.mem_cons_of_mem _ (by assumption) | exact List.mem_cons_of_mem _ (List.mem_cons_of_mem _ (by assumption)) | exact List.mem_cons_of_mem _ (List.mem_cons_of_mem _ (List.mem_cons_of_mem _ (by assumption)))))); k_whole)))
local macro_rules | `(tactic| walk_at "FnAt") => `(tactic| (k_dflt (exact FnAt.of (by k_asm) (by (first | assumption | exact List.mem_cons_of_mem _ (by assumption) | exact List.mem_cons_of_mem _ (List.mem_cons_of_mem _ (by assumption)) | exact List.mem_cons_of_mem _ (List.mem_cons_of_mem _ (List.mem_cons_of_mem _ (by assumption))))))))
local macro_rules | `(tactic| walk_at "call ref") => `(tactic| (k_here; with_reducible refine nil_app ?_))
local macro_rules | `(tactic| walk_at "binaryOp Div float float") => `(tactic| (k_here; with_reducible (refine r_div_TY rfl ?_)))
local macro_rules | `(tactic| walk_at "call builtin:round") => `(tactic| (k_here; (with_reducible show wpAny _ _ (call (Value.builtin "round") [Value.float _ _]) _ _ _); ((with_reducible refine' r_round_TY ?hA ?hx ?hy ?ha ?hn ?h1 ?h2 ?_); (case hA => k_dflt (exact rfl)); (case hx => with_reducible exact rfl); (case hy => exact TY_c); (case h1 => with_reducible assumption); (case h2 => with_reducible assumption); (case ha => k_dflt (first | with_reducible assumption | omega)); (case hn => k_dflt (first | with_reducible assumption | omega)); k_whole)))
local macro_rules | `(tactic| walk_at "exec While") => `(tactic| (k_here; k_dflt (refine whl_start 100 ?_)))
local macro_rules | `(tactic| walk_at "binaryOp Mult ref int") => `(tactic| (k_here; (with_reducible show wpAny _ _ (binaryOp Operator.Mult (Value.ref _) (Value.int _ _)) _ _ _); k_dflt (refine' r_mul ?F ?N ?l ?x ?k ?_; (case F => k_asm); (case N => k_asm); (case l => k_mem); (case x => k_dflt omega); (case k => assumption); k_whole); intro D' h' F' N' l1 q1 q2; (have l2 := l1); (try k_lt l1)))
local macro_rules | `(tactic| walk_at "binaryOp Add ref ref") => `(tactic| (k_here; (with_reducible show wpAny _ _ (binaryOp _ (Value.ref _) (Value.ref _)) _ _ _); k_dflt (refine' r_cat ?F ?N ?a ?b ?v ?w ?z ?cv ?cw ?_; (case F => k_asm); (case N => k_asm); (case a => k_mem); (case b => k_mem); (case v => assumption); (case w => assumption); (case z => k_dflt omega); (case cv => assumption); (case cw => assumption); k_whole); intro D' h' F' N' l1 q1 q2; (have l2 := l1); (try k_lt l1)))
local macro_rules | `(tactic| walk_at "call type:list") => `(tactic| (k_here; (with_reducible show wpAny _ _ (call (Value.type _) [Value.ref _]) _ _ _); (rename IsRange _ _ _ _ _ _ _ _ => rgX); k_dflt (refine' r_lrange ?hh ?F ?N rgX ?b ?k ?_; (case hh => exact rfl); (case F => k_asm); (case N => k_asm); (case b => k_dflt omega); (case k => assumption); k_whole); intro D' us' c' h' tk' F' N' l1 q1 q2; (have l2 := l1); (try k_lt l1)))
local macro_rules | `(tactic| walk_at "newList") => `(tactic| (k_here; k_dflt (refine' newList_K ?k1 ?k2 ?_; (case k1 => k_asm); (case k2 => k_asm); k_whole); intro l' h' F' N' l1; (have l2 := l1); (try k_lt l1)))
local macro_rules | `(tactic| walk_at "call builtin:list.append") => `(tactic| (k_here; k_dflt (show wpAny _ _ (call (Value.builtin _) [Value.ref _, _]) _ _ _); k_dflt (refine' append_K ?k1 ?k2 ?k3 ?_ ?z; (case k1 => k_asm); (case k2 => k_asm); (case k3 => (first | (refine' Upd.head ?a; (case a => exact ne_all (by assumption))) | (refine' Upd.tail ?a ?b; (case a => k_ne); (case b => (first | (refine' Upd.head ?a; (case a => exact ne_all (by assumption))) | (refine' Upd.tail ?a ?b; (case a => k_ne); (case b => (first | (refine' Upd.head ?a; (case a => exact ne_all (by assumption))) | (refine' Upd.tail ?a ?b; (case a => k_ne); (case b => (first | (refine' Upd.head ?a; (case a => exact ne_all (by assumption))) | (refine' Upd.tail ?a ?b; (case a => k_ne); (case b => (first | (refine' Upd.head ?a; (case a => exact ne_all (by assumption))) | (refine' Upd.tail ?a ?b; (case a => k_ne); (case b => (first | (refine' Upd.head ?a; (case a => exact ne_all (by assumption))) | (refine' Upd.tail ?a ?b; (case a => k_ne); (case b => (first | (refine' Upd.head ?a; (case a => exact ne_all (by assumption))) | (refine' Upd.tail ?a ?b; (case a => k_ne); (case b => (first | (refine' Upd.head ?a; (case a => exact ne_all (by assumption))) | (refine' Upd.tail ?a ?b; (case a => k_ne); (case b => (first | (refine' Upd.head ?a; (case a => exact ne_all (by assumption))) | (refine' Upd.tail ?a ?b; (case a => k_ne); (case b => (first | (refine' Upd.head ?a; (case a => exact ne_all (by assumption))) | (refine' Upd.tail ?a ?b; (case a => k_ne); (case b => (first | (refine' Upd.head ?a; (case a => exact ne_all (by assumption))) | (refine' Upd.tail ?a ?b; (case a => k_ne); (case b => (first | (refine' Upd.head ?a; (case a => exact ne_all (by assumption))) | (refine' Upd.tail ?a ?b; (case a => k_ne); (case b => (refine' Upd.head ?a; (case a => exact ne_all (by assumption)))))))))))))))))))))))))))))))))))))))); (case z => exact Nat.le_of_ble_eq_true rfl); k_whole); intro h' F' N'))
set_option maxRecDepth 100000 in
set_option maxHeartbeats 3000000 in
theorem c_leaf {w : World} {p : Program} {loose : List Str} {mean : ExcName → Option Value} {mg mb : Str → Option Value} (c n : Int) (t t1 : Tok) (hc : 0 ≤ c ∧ c < 7) (hn : 29 ≤ n ∧ n ≤ 31) : Con w p loose mean mg mb (.ref 169) [.int c t, .int n t1] 2 (fun _ => True) (fun r tl => RdAs (calD c n) r tl) := by
  unfold Con
  k_fill
  intro dp un gd cn cs a ccd cl outer A₀ base h₀ L m news s Q E Bq Fq Xq Nq Tq hk hpre hd hu hret
  w_on
  w_top on
  refine wpAny_call ?_
  k_dflt cell_enter
  rename_i g1 L1 h1 FG F1 N1 BB X1 T1
  obtain ⟨kc, hkc⟩ : ∃ k, c.toNat = k := ⟨_, rfl⟩
  obtain ⟨kd, hkd⟩ : ∃ k, (8 - c - 1).toNat = k := ⟨_, rfl⟩
  have k0 : 8 - c + 6 ≤ n := by omega
  have k1 : 8 - c + 7 + 6 ≤ n := by omega
  have k2 : 8 - c + 7 + 7 + 6 ≤ n := by omega
  have r0 : (8 - c + 7 - (8 - c)).toNat = 7 := by omega
  have r1 : (8 - c + 7 + 7 - (8 - c + 7)).toNat = 7 := by omega
  have r2 : (8 - c + 7 + 7 + 7 - (8 - c + 7 + 7)).toNat = 7 := by omega
  have r3 : (8 - c + 7 + 7 + 7 + 7 - (8 - c + 7 + 7 + 7)).toNat = 7 := by omega
  by_cases h34 : c + n ≤ 34
  · have k3 : ¬ 8 - c + 7 + 7 + 7 + 6 ≤ n := by omega
    have k4 : 8 - c + 7 + 7 + 7 ≤ n := by omega
    obtain ⟨ke, hke⟩ : ∃ k, (n + 1 - (8 - c + 7 + 7 + 7)).toNat = k := ⟨_, rfl⟩
    obtain ⟨kf, hkf⟩ : ∃ k, (8 - c + 7 + 7 + 7 + 6 - n).toNat = k := ⟨_, rfl⟩
    w_strict k_steps
    have he := leaf34 hc hn h34
    rw [hkc, hkd, hke, hkf] at he
    refine hret _ [_, _, _, _, _, _, _, _, _, _, _, _] _ _ (by k_asm) (by k_asm) ?_ ?_
    · (repeat (refine ord_cons (lt_all (by assumption) (fun q hq => by (repeat (first | exact hq | refine List.mem_cons_of_mem _ ?_)))) ?_))
      exact ord_nil
    · refine ⟨⟨_, rfl⟩, fun h hg => ?_⟩
      rw [he]
      exact rows5 (hg (_, _) (by k_mem)) (row_reads (hg (_, _) (by k_mem)) (by assumption)) (row_reads (hg (_, _) (by k_mem)) (by assumption)) (row_reads (hg (_, _) (by k_mem)) (by assumption)) (row_reads (hg (_, _) (by k_mem)) (by assumption)) (row_reads (hg (_, _) (by k_mem)) (by assumption))
  · have k3 : 8 - c + 7 + 7 + 7 + 6 ≤ n := by omega
    have k4 : ¬ 8 - c + 7 + 7 + 7 + 7 + 6 ≤ n := by omega
    by_cases h35 : c + n = 35
    · have k5 : ¬ 8 - c + 7 + 7 + 7 + 7 ≤ n := by omega
      w_strict k_steps
      have he := leaf35 hc hn h35
      rw [hkc, hkd] at he
      refine hret _ [_, _, _, _, _, _, _, _, _] _ _ (by k_asm) (by k_asm) ?_ ?_
      · (repeat (refine ord_cons (lt_all (by assumption) (fun q hq => by (repeat (first | exact hq | refine List.mem_cons_of_mem _ ?_)))) ?_))
        exact ord_nil
      · refine ⟨⟨_, rfl⟩, fun h hg => ?_⟩
        rw [he]
        exact rows5 (hg (_, _) (by k_mem)) (row_reads (hg (_, _) (by k_mem)) (by assumption)) (row_reads (hg (_, _) (by k_mem)) (by assumption)) (row_reads (hg (_, _) (by k_mem)) (by assumption)) (row_reads (hg (_, _) (by k_mem)) (by assumption)) (row_reads (hg (_, _) (by k_mem)) (by assumption))
    · have k5 : 8 - c + 7 + 7 + 7 + 7 ≤ n := by omega
      obtain ⟨ke, hke⟩ : ∃ k, (n + 1 - (8 - c + 7 + 7 + 7 + 7)).toNat = k := ⟨_, rfl⟩
      obtain ⟨kf, hkf⟩ : ∃ k, (8 - c + 7 + 7 + 7 + 7 + 6 - n).toNat = k := ⟨_, rfl⟩
      w_strict k_steps
      have he := leaf36 hc hn (by omega)
      rw [hkc, hkd, hke, hkf] at he
      refine hret _ [_, _, _, _, _, _, _, _, _, _, _, _, _] _ _ (by k_asm) (by k_asm) ?_ ?_
      · (repeat (refine ord_cons (lt_all (by assumption) (fun q hq => by (repeat (first | exact hq | refine List.mem_cons_of_mem _ ?_)))) ?_))
        exact ord_nil
      · refine ⟨⟨_, rfl⟩, fun h hg => ?_⟩
        rw [he]
        exact rows6 (hg (_, _) (by k_mem)) (row_reads (hg (_, _) (by k_mem)) (by assumption)) (row_reads (hg (_, _) (by k_mem)) (by assumption)) (row_reads (hg (_, _) (by k_mem)) (by assumption)) (row_reads (hg (_, _) (by k_mem)) (by assumption)) (row_reads (hg (_, _) (by k_mem)) (by assumption)) (row_reads (hg (_, _) (by k_mem)) (by assumption))
end Mine
end
section
open PySem PySem.W PyProof.Rows PySem.Spec
namespace Mine
local macro_rules | `(tactic| walk_at "no such step 0") => `(tactic| fail)
local macro_rules | `(tactic| walk_at "no such step 1") => `(tactic| fail)
local macro_rules | `(tactic| walk_at "no such step 2") => `(tactic| fail)
local macro_rules | `(tactic| walk_at "no such step 3") => `(tactic| fail)
local macro_rules | `(tactic| walk_at "no such step 4") => `(tactic| fail)
local macro_rules | `(tactic| walk_at "no such step 5") => `(tactic| fail)
local macro_rules | `(tactic| walk_at "no such step 6") => `(tactic| fail)
local macro_rules | `(tactic| walk_at "no such step 7") => `(tactic| fail)
local macro_rules | `(tactic| walk_at "no such step 8") => `(tactic| fail)
local macro_rules | `(tactic| walk_at "no such step 9") => `(tactic| fail)
local macro_rules | `(tactic| walk_at "no such step 10") => `(tactic| fail)
local macro_rules | `(tactic| walk_at "no such step 11") => `(tactic| fail)
local macro_rules | `(tactic| walk_at "no such step 12") => `(tactic| fail)
local macro_rules | `(tactic| walk_at "no such step 13") => `(tactic| fail)
local macro_rules | `(tactic| walk_at "no such step 14") => `(tactic| fail)
local macro_rules | `(tactic| walk_at "no such step 15") => `(tactic| fail)
local macro_rules | `(tactic| walk_at "no such step 16") => `(tactic| fail)
local macro_rules | `(tactic| walk_at "no such step 17") => `(tactic| fail)
local macro_rules | `(tactic| walk_at "no such step 18") => `(tactic| fail)
local macro_rules | `(tactic| walk_at "no such step 19") => `(tactic| fail)
local macro_rules | `(tactic| walk_at "no such step 20") => `(tactic| fail)
local macro_rules | `(tactic| walk_at "no such step 21") => `(tactic| fail)
local macro_rules | `(tactic| walk_at "no such step 22") => `(tactic| fail)
local macro_rules | `(tactic| walk_at "no such step 23") => `(tactic| fail)
local macro_rules | `(tactic| walk_at "no such step 24") => `(tactic| fail)
local macro_rules | `(tactic| walk_at "no such step 25") => `(tactic| fail)
local macro_rules | `(tactic| walk_at "no such step 26") => `(tactic| fail)
local macro_rules | `(tactic| walk_at "no such step 27") => `(tactic| fail)
local macro_rules | `(tactic| walk_at "no such step 28") => `(tactic| fail)
local macro_rules | `(tactic| walk_at "no such step 29") => `(tactic| fail)
local macro_rules | `(tactic| walk_at "no such step 30") => `(tactic| fail)
local macro_rules | `(tactic| walk_at "no such step 31") => `(tactic| fail)
local macro_rules | `(tactic| walk_at "no such step 32") => `(tactic| fail)
local macro_rules | `(tactic| walk_at "no such step 33") => `(tactic| fail)
local macro_rules | `(tactic| walk_at "no such step 34") => `(tactic| fail)
local macro_rules | `(tactic| walk_at "no such step 35") => `(tactic| fail)
local macro_rules | `(tactic| walk_at "no such step 36") => `(tactic| fail)
local macro_rules | `(tactic| walk_at "no such step 37") => `(tactic| fail)
local macro_rules | `(tactic| walk_at "no such step 38") => `(tactic| fail)
local macro_rules | `(tactic| walk_at "no such step 39") => `(tactic| fail)
local macro_rules | `(tactic| walk_at "binaryOp Sub float float") => `(tactic| (k_here; (with_reducible show wpAny _ _ (binaryOp _ (Value.float _ _) (Value.float _ _)) _ _ _); ((with_reducible refine' r_sub_ff ?hx ?hy ?ha ?hb ?e ?_); (case hx => (with_reducible (first | exact rfl | exact half_c | exact epg_c | exact epp_c))); (case hy => (with_reducible (first | exact rfl | exact half_c | exact epg_c | exact epp_c))); (case ha => k_dflt (first | with_reducible assumption | decide | omega)); (case hb => k_dflt (first | with_reducible assumption | decide | omega)); (case e => (first | with_reducible assumption | (k_dflt (exact rfl)))); k_whole)))
local macro_rules | `(tactic| walk_at "binaryOp Add float int") => `(tactic| (k_here; (with_reducible show wpAny _ _ (binaryOp _ (Value.float _ _) (Value.int _ _)) _ _ _); first | ((with_reducible refine' r_add_fi ?hx ?ha ?hn ?e ?_); (case hx => (with_reducible (first | exact rfl | exact half_c | exact epg_c | exact epp_c))); (case ha => k_dflt (first | with_reducible assumption | decide | omega)); (case hn => k_dflt (first | with_reducible assumption | decide | omega)); (case e => (first | with_reducible assumption | (k_dflt (exact rfl)))); k_whole) | ((with_reducible refine' r_add_xi ?hn ?_); (case hn => k_dflt (first | with_reducible assumption | decide | omega)); k_whole)))
local macro_rules | `(tactic| walk_at "binaryOp Sub float int") => `(tactic| (k_here; (with_reducible show wpAny _ _ (binaryOp _ (Value.float _ _) (Value.int _ _)) _ _ _); ((with_reducible refine' r_sub_fi ?hx ?ha ?hn ?e ?_); (case hx => (with_reducible (first | exact rfl | exact half_c | exact epg_c | exact epp_c))); (case ha => k_dflt (first | with_reducible assumption | decide | omega)); (case hn => k_dflt (first | with_reducible assumption | decide | omega)); (case e => (first | with_reducible assumption | (k_dflt (exact rfl)))); k_whole)))
local macro_rules | `(tactic| walk_at "binaryOp Add int float") => `(tactic| (k_here; (with_reducible show wpAny _ _ (binaryOp _ (Value.int _ _) (Value.float _ _)) _ _ _); ((with_reducible refine' r_add_if ?hx ?ha ?hn ?e ?_); (case hx => (with_reducible (first | exact rfl | exact half_c | exact epg_c | exact epp_c))); (case ha => k_dflt (first | with_reducible assumption | decide | omega)); (case hn => k_dflt (first | with_reducible assumption | decide | omega)); (case e => (first | with_reducible assumption | (k_dflt (exact rfl)))); k_whole)))
local macro_rules | `(tactic| walk_at "binaryOp Sub int float") => `(tactic| (k_here; (with_reducible show wpAny _ _ (binaryOp _ (Value.int _ _) (Value.float _ _)) _ _ _); ((with_reducible refine' r_sub_if ?hx ?ha ?hn ?e ?_); (case hx => (with_reducible (first | exact rfl | exact half_c | exact epg_c | exact epp_c))); (case ha => k_dflt (first | with_reducible assumption | decide | omega)); (case hn => k_dflt (first | with_reducible assumption | decide | omega)); (case e => (first | with_reducible assumption | (k_dflt (exact rfl)))); k_whole)))
local macro_rules | `(tactic| walk_at "binaryOp Mult float int") => `(tactic| (k_here; (with_reducible show wpAny _ _ (binaryOp _ (Value.float _ _) (Value.int _ _)) _ _ _); ((with_reducible refine' r_mul_fi ?hx ?ha ?hn ?hm ?e ?_); (case hx => (with_reducible (first | exact rfl | exact half_c | exact epg_c | exact epp_c))); (case ha => k_dflt (first | with_reducible assumption | decide | omega)); (case hn => k_dflt (first | with_reducible assumption | decide | omega)); (case hm => k_dflt (first | with_reducible assumption | decide | omega)); (case e => (first | with_reducible assumption | (k_dflt (exact rfl)))); k_whole)))
local macro_rules | `(tactic| walk_at "binaryOp Div float int") => `(tactic| (k_here; (with_reducible show wpAny _ _ (binaryOp _ (Value.float _ _) (Value.int _ _)) _ _ _); ((with_reducible refine' r_div_fi ?hn ?hm ?_); (case hn => k_dflt (first | with_reducible assumption | decide | omega)); (case hm => k_dflt (first | with_reducible assumption | decide | omega)); k_whole)))
local macro_rules | `(tactic| walk_at "binaryOp Mod float int") => `(tactic| (k_here; (with_reducible show wpAny _ _ (binaryOp _ (Value.float _ _) (Value.int _ _)) _ _ _); ((with_reducible refine' r_mod_fi ?hx ?ha ?he ?hn ?hm ?e ?_); (case hx => (with_reducible (first | exact rfl | exact half_c | exact epg_c | exact epp_c))); (case ha => k_dflt (first | with_reducible assumption | decide | omega)); (case he => k_dflt (first | with_reducible assumption | decide | omega)); (case hn => k_dflt (first | with_reducible assumption | decide | omega)); (case hm => k_dflt (first | with_reducible assumption | decide | omega)); (case e => (first | with_reducible assumption | (k_dflt (exact rfl)))); k_whole)))
local macro_rules | `(tactic| walk_at "binaryOp Div int int") => `(tactic| (k_here; (with_reducible show wpAny _ _ (binaryOp _ (Value.int _ _) (Value.int _ _)) _ _ _); ((with_reducible refine' r_div_ii ?hA ?ha ?hn ?hm ?_); (case hA => k_dflt (exact rfl)); (case ha => k_dflt (first | with_reducible assumption | decide | omega)); (case hn => k_dflt (first | with_reducible assumption | decide | omega)); (case hm => k_dflt (first | with_reducible assumption | decide | omega)); k_whole)))
local macro_rules | `(tactic| walk_at "call builtin:math.floor") => `(tactic| (k_here; (with_reducible show wpAny _ _ (call (Value.builtin "math.floor") [Value.float _ _]) _ _ _); first | ((with_reducible refine' r_floor_x ?hA ?hx ?e ?_); (case hA => k_dflt (exact rfl)); (case hx => with_reducible assumption); (case e => with_reducible assumption); k_whole) | ((with_reducible refine' r_floor_m ?hA ?hm ?hadj ?hd ?e ?_); (case hA => k_dflt (exact rfl)); (case hm => k_dflt (first | with_reducible assumption | decide | omega)); (case hadj => k_dflt omega); (case hd => k_dflt omega); (case e => (first | with_reducible assumption | (k_dflt (exact rfl)))); k_whole) | ((with_reducible refine' r_floor_q ?hA ?ha ?hn ?hm ?e ?_); (case hA => k_dflt (exact rfl)); (case ha => k_dflt (first | with_reducible assumption | decide | omega)); (case hn => k_dflt (first | with_reducible assumption | decide | omega)); (case hm => k_dflt (first | with_reducible assumption | decide | omega)); (case e => (first | with_reducible assumption | (k_dflt (exact rfl)))); k_whole) | ((with_reducible refine' r_floor_d ?hA ?hx ?ha ?hn ?hm ?e ?_); (case hA => k_dflt (exact rfl)); (case hx => with_reducible exact rfl); (case ha => k_dflt (first | with_reducible assumption | decide | omega)); (case hn => k_dflt (first | with_reducible assumption | decide | omega)); (case hm => k_dflt (first | with_reducible assumption | decide | omega)); (case e => (first | with_reducible assumption | (k_dflt (exact rfl)))); k_whole) | ((with_reducible refine' r_floor_h ?hA ?hx ?ha ?e ?_); (case hA => k_dflt (exact rfl)); (case hx => with_reducible exact rfl); (case ha => k_dflt (first | with_reducible assumption | decide | omega)); (case e => (first | with_reducible assumption | (k_dflt (exact rfl)))); k_whole)))
local macro_rules | `(tactic| walk_at "call builtin:math.ceil") => `(tactic| (k_here; (with_reducible show wpAny _ _ (call (Value.builtin "math.ceil") [Value.float _ _]) _ _ _); ((with_reducible refine' r_ceil_d ?hA ?hx ?ha ?hn ?hm ?e ?_); (case hA => k_dflt (exact rfl)); (case hx => with_reducible exact rfl); (case ha => k_dflt (first | with_reducible assumption | decide | omega)); (case hn => k_dflt (first | with_reducible assumption | decide | omega)); (case hm => k_dflt (first | with_reducible assumption | decide | omega)); (case e => (first | with_reducible assumption | (k_dflt (exact rfl)))); k_whole)))
local macro_rules | `(tactic| walk_at "call builtin:math.trunc") => `(tactic| (k_here; (with_reducible show wpAny _ _ (call (Value.builtin "math.trunc") [Value.float _ _]) _ _ _); ((with_reducible refine' r_trunc_h ?hA ?hx ?ha ?he ?e ?_); (case hA => k_dflt (exact rfl)); (case hx => with_reducible exact rfl); (case ha => k_dflt (first | with_reducible assumption | decide | omega)); (case he => k_dflt (first | with_reducible assumption | decide | omega)); (case e => (first | with_reducible assumption | (k_dflt (exact rfl)))); k_whole)))
local macro_rules | `(tactic| walk_at "call type:int") => `(tactic| (k_here; (with_reducible show wpAny _ _ (call (Value.type "int") [Value.float _ _]) _ _ _); ((with_reducible refine' r_int_h ?hA ?hx ?ha ?he ?e ?_); (case hA => k_dflt (exact rfl)); (case hx => with_reducible exact rfl); (case ha => k_dflt (first | with_reducible assumption | decide | omega)); (case he => k_dflt (first | with_reducible assumption | decide | omega)); (case e => (first | with_reducible assumption | (k_dflt (exact rfl)))); k_whole)))
local macro_rules | `(tactic| walk_at "compareOp Lt float int") => `(tactic| (k_here; (with_reducible show wpAny _ _ (compareOp _ (Value.float _ _) (Value.int _ _)) _ _ _); first | ((with_reducible refine' r_lt_fi ?hx ?ha ?e ?_); (case hx => with_reducible exact rfl); (case ha => k_dflt (first | with_reducible assumption | decide | omega)); (case e => (first | with_reducible assumption | (k_dflt (exact rfl)))); k_whole) | ((with_reducible refine' r_lt_xi ?hx ?e ?_); (case hx => assumption); (case e => (first | with_reducible assumption | (k_dflt (exact rfl)))); k_whole)))
local macro_rules | `(tactic| walk_at "compareOp LtE float int") => `(tactic| (k_here; (with_reducible show wpAny _ _ (compareOp _ (Value.float _ _) (Value.int _ _)) _ _ _); ((with_reducible refine' r_le_fi ?hx ?ha ?e ?_); (case hx => with_reducible exact rfl); (case ha => k_dflt (first | with_reducible assumption | decide | omega)); (case e => (first | with_reducible assumption | (k_dflt (exact rfl)))); k_whole)))
local macro_rules | `(tactic| walk_at "compareOp Gt float int") => `(tactic| (k_here; (with_reducible show wpAny _ _ (compareOp _ (Value.float _ _) (Value.int _ _)) _ _ _); ((with_reducible refine' r_gt_fi ?hx ?ha ?e ?_); (case hx => with_reducible exact rfl); (case ha => k_dflt (first | with_reducible assumption | decide | omega)); (case e => (first | with_reducible assumption | (k_dflt (exact rfl)))); k_whole)))
local macro_rules | `(tactic| walk_at "compareOp Gt int float") => `(tactic| (k_here; (with_reducible show wpAny _ _ (compareOp _ (Value.int _ _) (Value.float _ _)) _ _ _); ((with_reducible refine' r_gt_ix ?hx ?e ?_); (case hx => assumption); (case e => (first | with_reducible assumption | (k_dflt (exact rfl)))); k_whole)))
local macro_rules | `(tactic| walk_at "compareOp LtE int float") => `(tactic| (k_here; (with_reducible show wpAny _ _ (compareOp _ (Value.int _ _) (Value.float _ _)) _ _ _); ((with_reducible refine' r_le_ix ?hx ?e ?_); (case hx => assumption); (case e => (first | with_reducible assumption | (k_dflt (exact rfl)))); k_whole)))
local macro_rules | `(tactic| walk_at "compareOp NotEq float float") => `(tactic| (k_here; (with_reducible show wpAny _ _ (compareOp _ (Value.float _ _) (Value.float _ _)) _ _ _); ((with_reducible refine' r_ne_ff ?hx ?hy ?ha ?hb ?_); (case hx => with_reducible exact rfl); (case hy => with_reducible exact rfl); (case ha => k_dflt (first | with_reducible assumption | decide | omega)); (case hb => k_dflt (first | with_reducible assumption | decide | omega)); k_whole)))
local macro_rules | `(tactic| walk_at "compareOp In int ref") => `(tactic| (k_here; (with_reducible show wpAny _ _ (compareOp _ (Value.int _ _) (Value.ref _)) _ _ _); ((with_reducible refine' in_tupK ?F ?X ?l ?i ?b ?_); (case F => k_asm); (case X => k_asm); (case l => k_is); (case i => (repeat constructor)); (case b => assumption); k_whole)))
local macro_rules | `(tactic| walk_at "compareOp Eq int int") => `(tactic| (k_here; with_reducible (first | refine r_eq_y (by assumption) ?_ | refine r_eq_n (by assumption) ?_)))
local macro_rules | `(tactic| walk_at "compareOp NotEq int int") => `(tactic| (k_here; with_reducible (first | refine r_ne_y (by assumption) ?_ | refine r_ne_n (by assumption) ?_)))
local macro_rules | `(tactic| walk_at "compareOp Lt int int") => `(tactic| (k_here; with_reducible (first | refine r_lt_y (by assumption) ?_ | refine r_lt_n (by assumption) ?_)))
local macro_rules | `(tactic| walk_at "compareOp LtE int int") => `(tactic| (k_here; with_reducible (first | refine r_le_y (by assumption) ?_ | refine r_le_n (by assumption) ?_)))
local macro_rules | `(tactic| walk_at "compareOp Gt int int") => `(tactic| (k_here; with_reducible (first | refine r_gt_y (by assumption) ?_ | refine r_gt_n (by assumption) ?_)))
local macro_rules | `(tactic| walk_at "binaryOp Add int bool") => `(tactic| (k_here; with_reducible (refine r_add_ib (by assumption) ?_)))
local macro_rules | `(tactic| walk_at "binaryOp Mult int int") => `(tactic| (k_here; first | (refine r_mul_r (by decide) ?_) | (refine r_mul_l (by decide) ?_) | (refine r_mul_r (by assumption) ?_) | (refine r_mul_l (by assumption) ?_)))
local macro_rules | `(tactic| walk_at "callWith ref") => `(tactic| (k_here; k_dflt (refine' callWith_F ?k1 ?_; (case k1 => exact FnAt.of (by k_asm) (by (first | assumption | exact List.mem_cons_of_mem _ (by assumption) | exact List.mem_cons_of_mem _ (List.mem_cons_of_mem _ (by assumption)) | exact List.mem_cons_of_mem _ (List.mem_cons_of_mem _ (List.mem_cons_of_mem _ (by assumption)))))); k_whole)))
local macro_rules | `(tactic| walk_at "FnAt") => `(tactic| (k_dflt (exact FnAt.of (by k_asm) (by (first | assumption | exact List.mem_cons_of_mem _ (by assumption) | exact List.mem_cons_of_mem _ (List.mem_cons_of_mem _ (by assumption)) | exact List.mem_cons_of_mem _ (List.mem_cons_of_mem _ (List.mem_cons_of_mem _ (by assumption))))))))
local macro_rules | `(tactic| walk_at "call ref") => `(tactic| (k_here; with_reducible refine nil_app ?_))
local macro_rules | `(tactic| walk_at "binaryOp Div float float") => `(tactic| (k_here; with_reducible (refine r_div_TY rfl ?_)))
local macro_rules | `(tactic| walk_at "call builtin:round") => `(tactic| (k_here; (with_reducible show wpAny _ _ (call (Value.builtin "round") [Value.float _ _]) _ _ _); ((with_reducible refine' r_round_TY ?hA ?hx ?hy ?ha ?hn ?h1 ?h2 ?_); (case hA => k_dflt (exact rfl)); (case hx => with_reducible exact rfl); (case hy => exact TY_c); (case h1 => with_reducible assumption); (case h2 => with_reducible assumption); (case ha => k_dflt (first | with_reducible assumption | omega)); (case hn => k_dflt (first | with_reducible assumption | omega)); k_whole)))
local macro_rules | `(tactic| walk_at "exec While") => `(tactic| (k_here; k_dflt (refine whl_start 100 ?_)))
local macro_rules | `(tactic| walk_at "binaryOp Mult ref int") => `(tactic| (k_here; (with_reducible show wpAny _ _ (binaryOp Operator.Mult (Value.ref _) (Value.int _ _)) _ _ _); k_dflt (refine' r_mul ?F ?N ?l ?x ?k ?_; (case F => k_asm); (case N => k_asm); (case l => k_mem); (case x => k_dflt omega); (case k => assumption); k_whole); intro D' h' F' N' l1 q1 q2; (have l2 := l1); (try k_lt l1)))
local macro_rules | `(tactic| walk_at "binaryOp Add ref ref") => `(tactic| (k_here; (with_reducible show wpAny _ _ (binaryOp _ (Value.ref _) (Value.ref _)) _ _ _); k_dflt (refine' r_cat ?F ?N ?a ?b ?v ?w ?z ?cv ?cw ?_; (case F => k_asm); (case N => k_asm); (case a => k_mem); (case b => k_mem); (case v => assumption); (case w => assumption); (case z => k_dflt omega); (case cv => assumption); (case cw => assumption); k_whole); intro D' h' F' N' l1 q1 q2; (have l2 := l1); (try k_lt l1)))
local macro_rules | `(tactic| walk_at "call type:list") => `(tactic| (k_here; (with_reducible show wpAny _ _ (call (Value.type _) [Value.ref _]) _ _ _); (rename IsRange _ _ _ _ _ _ _ _ => rgX); k_dflt (refine' r_lrange ?hh ?F ?N rgX ?b ?k ?_; (case hh => exact rfl); (case F => k_asm); (case N => k_asm); (case b => k_dflt omega); (case k => assumption); k_whole); intro D' us' c' h' tk' F' N' l1 q1 q2; (have l2 := l1); (try k_lt l1)))
local macro_rules | `(tactic| walk_at "newList") => `(tactic| (k_here; k_dflt (refine' newList_K ?k1 ?k2 ?_; (case k1 => k_asm); (case k2 => k_asm); k_whole); intro l' h' F' N' l1; (have l2 := l1); (try k_lt l1)))
local macro_rules | `(tactic| walk_at "call builtin:list.append") => `(tactic| (k_here; k_dflt (show wpAny _ _ (call (Value.builtin _) [Value.ref _, _]) _ _ _); k_dflt (refine' append_K ?k1 ?k2 ?k3 ?_ ?z; (case k1 => k_asm); (case k2 => k_asm); (case k3 => (first | (refine' Upd.head ?a; (case a => exact ne_all (by assumption))) | (refine' Upd.tail ?a ?b; (case a => k_ne); (case b => (first | (refine' Upd.head ?a; (case a => exact ne_all (by assumption))) | (refine' Upd.tail ?a ?b; (case a => k_ne); (case b => (first | (refine' Upd.head ?a; (case a => exact ne_all (by assumption))) | (refine' Upd.tail ?a ?b; (case a => k_ne); (case b => (first | (refine' Upd.head ?a; (case a => exact ne_all (by assumption))) | (refine' Upd.tail ?a ?b; (case a => k_ne); (case b => (first | (refine' Upd.head ?a; (case a => exact ne_all (by assumption))) | (refine' Upd.tail ?a ?b; (case a => k_ne); (case b => (first | (refine' Upd.head ?a; (case a => exact ne_all (by assumption))) | (refine' Upd.tail ?a ?b; (case a => k_ne); (case b => (first | (refine' Upd.head ?a; (case a => exact ne_all (by assumption))) | (refine' Upd.tail ?a ?b; (case a => k_ne); (case b => (first | (refine' Upd.head ?a; (case a => exact ne_all (by assumption))) | (refine' Upd.tail ?a ?b; (case a => k_ne); (case b => (first | (refine' Upd.head ?a; (case a => exact ne_all (by assumption))) | (refine' Upd.tail ?a ?b; (case a => k_ne); (case b => (first | (refine' Upd.head ?a; (case a => exact ne_all (by assumption))) | (refine' Upd.tail ?a ?b; (case a => k_ne); (case b => (first | (refine' Upd.head ?a; (case a => exact ne_all (by assumption))) | (refine' Upd.tail ?a ?b; (case a => k_ne); (case b => (first | (refine' Upd.head ?a; (case a => exact ne_all (by assumption))) | (refine' Upd.tail ?a ?b; (case a => k_ne); (case b => (refine' Upd.head ?a; (case a => exact ne_all (by assumption)))))))))))))))))))))))))))))))))))))))); (case z => exact Nat.le_of_ble_eq_true rfl); k_whole); intro h' F' N'))
local macro_rules | `(tactic| walk_at "binaryOp Mult int ref") => `(tactic| (k_here; (with_reducible show wpAny _ _ (binaryOp Operator.Mult (Value.int _ _) (Value.ref _)) _ _ _); k_dflt (refine' r_mul7 ?F ?N ?l ?_; (case F => k_asm); (case N => k_asm); (case l => k_mem); k_whole); intro D' h' F' N' l1 q1 q2; (have l2 := l1); (try k_lt l1)))
local macro_rules | `(tactic| walk_at "storeName ref") => `(tactic| (k_here; k_dflt (refine' storeX_C ?F ?N ?c ?U ?d ?_ ?k ?x; (case F => k_asm); (case N => k_asm); (case c => exact rfl); (case U => (first | (refine' UpdF.head ?a; (case a => exact ne_succ (by assumption))) | (refine' UpdF.tail ?a ?b; (case a => k_ne); (case b => (first | (refine' UpdF.head ?a; (case a => exact ne_succ (by assumption))) | (refine' UpdF.tail ?a ?b; (case a => k_ne); (case b => (first | (refine' UpdF.head ?a; (case a => exact ne_succ (by assumption))) | (refine' UpdF.tail ?a ?b; (case a => k_ne); (case b => (first | (refine' UpdF.head ?a; (case a => exact ne_succ (by assumption))) | (refine' UpdF.tail ?a ?b; (case a => k_ne); (case b => (first | (refine' UpdF.head ?a; (case a => exact ne_succ (by assumption))) | (refine' UpdF.tail ?a ?b; (case a => k_ne); (case b => (first | (refine' UpdF.head ?a; (case a => exact ne_succ (by assumption))) | (refine' UpdF.tail ?a ?b; (case a => k_ne); (case b => (first | (refine' UpdF.head ?a; (case a => exact ne_succ (by assumption))) | (refine' UpdF.tail ?a ?b; (case a => k_ne); (case b => (first | (refine' UpdF.head ?a; (case a => exact ne_succ (by assumption))) | (refine' UpdF.tail ?a ?b; (case a => k_ne); (case b => (first | (refine' UpdF.head ?a; (case a => exact ne_succ (by assumption))) | (refine' UpdF.tail ?a ?b; (case a => k_ne); (case b => (refine' UpdF.head ?a; (case a => exact ne_succ (by assumption))))))))))))))))))))))))))))))); (case d => assumption); (case k => exact rfl); (case x => exact rfl); k_whole); intro h' o' F' N' d'))
local macro_rules | `(tactic| walk_at "eval ListComp") => `(tactic| (k_here; k_dflt (refine comp_step 7 (by k_asm) (by with_unfolding_all rfl) (by decide) (by rfl) (by decide) (by rfl) ?_)))
local macro_rules | `(tactic| walk_at "StepSrc") => `(tactic| (k_here; (with_reducible refine Hold.out ?_)))
local macro_rules | `(tactic| walk_at "subscriptTail Name Slice ref ref") => `(tactic| (k_here; (with_reducible show wpAny _ _ (subscriptTail _ (PySem.Expr.Slice _ _ none _) (Value.ref _) (Value.ref _)) _ _ _); k_dflt (refine' r_slice7 ?F ?N ?l ?K ?cv ?x ?y ?a ?b ?_; (case F => k_asm); (case N => k_asm); (case l => k_mem); (case K => assumption); (case cv => assumption); (case x => exact step_at _); (case y => exact rfl); (case a => k_dflt omega); (case b => k_dflt omega); k_whole); intro D' h' F' N' l1 q2; (have l2 := l1); (try k_lt l1)))
local macro_rules | `(tactic| walk_at "CompRest") => `(tactic| (with_unfolding_all first
  | (refine LCg.CompRest.succ ?_; intro v' I' oI' C' oC' D' m' h' tk' E' hv' hC' hx' F' N' off' ne'; (obtain ⟨t9', hv9'⟩ := hv'; subst hv9'))
  | refine LCg.CompRest.zero ?_))
local macro_rules | `(tactic| walk_at "CompEnd") => `(tactic| (k_dflt (refine' LCg.CompEnd.intro ?F ?N _ ?sub ?off trivial ?_; (case F => k_asm); (case N => k_asm); (case sub => exact sub4); (case off => exact ⟨⟨by k_ne, by k_ne, by k_ne⟩, by assumption⟩); k_whole)))
set_option maxRecDepth 100000 in
set_option maxHeartbeats 3000000 in
theorem c_helper {w : World} {p : Program} {loose : List Str} {mean : ExcName → Option Value} {mg mb : Str → Option Value} (x c n : Int) (t t1 : Tok) (hx : (x + 1).fmod 7 = c) (hn : 29 ≤ n ∧ n ≤ 31) : ConW w p loose mean mg mb (.ref 54) [.int x t, .int n t1] 2 (fun _ => True) (fun r tl => RdAs (calD c n) r tl) := by
  unfold ConW
  k_fill
  intro dp un gd cn cs a ccd cl outer A₀ base h₀ L m news s Q E Bq Fq Xq Nq Tq hk hpre hd hu hret
  w_on
  w_top on
  refine wpAny_call ?_
  k_dflt (refine' code_defC ?k1 ?k2 ?k3 ?k4 ?k5 ?kA ?kF ?kK ?k6 ?k7 ?k8 ?k9 ?kB ?kD ?_ ?c2 ?c3 ?c4; (case kA => exact rfl); (case kF => exact rfl); (case kK => exact hk); (case k1 => k_asm); (case k2 => k_asm); (case k3 => k_asm); (case k4 => k_asm); (case k5 => k_asm); (case k6 => k_is); (case k7 => k_is); (case k8 => ktr_room); (case k9 => exact BindsTo.of_eq rfl); (case kB => exact rfl); (case kD => decide +kernel); (case c2 => exact rfl); (case c3 => exact rfl); (case c4 => exact rfl); k_whole)
  intro g1 L1 h1 tk1 cells1 FG F1 N1 Y1 BB X1 T1 l2
  k_cells Y1
  (try simp only [List.cons_append, List.nil_append] at N1)
  (try dsimp only)
  (try k_lift BB)
  (try k_fold)
  have hc : 0 ≤ c ∧ c < 7 := fmod_bd (by decide) hx
  obtain ⟨kc, hkc⟩ : ∃ k, ((x + 1).fmod 7).toNat = k := ⟨_, rfl⟩
  obtain ⟨kn, hkn2⟩ : ∃ k, (1 + n - 1).toNat = k := ⟨_, rfl⟩
  have hb0 : 0 ≤ (x + 1).fmod 7 ∧ (x + 1).fmod 7 ≤ 100 := by omega
  have hkc2 : c.toNat = kc := by rw [← hx]; exact hkc
  have hkn3 : n.toNat = kn := by
    have e : 1 + n - 1 = n := by omega
    rw [e] at hkn2
    exact hkn2
  have hkk : (kc : Int) + kn = c + n := by omega
  by_cases h35 : c + n ≤ 35
  · have ht : 29 ≤ (x + 1).fmod 7 + n ∧ (x + 1).fmod 7 + n ≤ 35 := by omega
    w_strict k_steps
    unfold Hold
    (try dsimp only)
    k_dflt (refine ⟨_, _, _, _, _, _, 5, _, rfl, rfl, by k_asm, by k_asm, by assumption, (size5 ht).2, (size5 ht).1, by decide, fun g => ?_⟩)
    w_strict k_steps
    have he := help35 hc hn h35
    rw [hkc2, hkn3] at he
    refine hret _ [_, _, _, _, _, _, _, _, _, _, _, _, _, _] _ _ (by k_asm) (by k_asm) ?_
    refine ⟨⟨_, rfl⟩, fun h hg => ?_⟩
    rw [he]
    exact rows5 (hg (_, _) (by k_mem)) (row_reads (hg (_, _) (by k_mem)) (by assumption)) (row_reads (hg (_, _) (by k_mem)) (by assumption)) (row_reads (hg (_, _) (by k_mem)) (by assumption)) (row_reads (hg (_, _) (by k_mem)) (by assumption)) (row_reads (hg (_, _) (by k_mem)) (by assumption))
  · have ht : 36 ≤ (x + 1).fmod 7 + n ∧ (x + 1).fmod 7 + n ≤ 37 := by omega
    w_strict k_steps
    unfold Hold
    (try dsimp only)
    k_dflt (refine ⟨_, _, _, _, _, _, 6, _, rfl, rfl, by k_asm, by k_asm, by assumption, (size6 ht).2, (size6 ht).1, by decide, fun g => ?_⟩)
    w_strict k_steps
    have he := help36 hc hn (by omega)
    rw [hkc2, hkn3] at he
    refine hret _ [_, _, _, _, _, _, _, _, _, _, _, _, _, _, _] _ _ (by k_asm) (by k_asm) ?_
    refine ⟨⟨_, rfl⟩, fun h hg => ?_⟩
    rw [he]
    exact rows6 (hg (_, _) (by k_mem)) (row_reads (hg (_, _) (by k_mem)) (by assumption)) (row_reads (hg (_, _) (by k_mem)) (by assumption)) (row_reads (hg (_, _) (by k_mem)) (by assumption)) (row_reads (hg (_, _) (by k_mem)) (by assumption)) (row_reads (hg (_, _) (by k_mem)) (by assumption)) (row_reads (hg (_, _) (by k_mem)) (by assumption))
end Mine
end
section
open PySem PySem.W PyProof.Rows PySem.Spec
namespace Mine
local macro_rules | `(tactic| walk_at "binaryOp Sub float float") => `(tactic| (k_here; (with_reducible show wpAny _ _ (binaryOp _ (Value.float _ _) (Value.float _ _)) _ _ _); ((with_reducible refine' r_sub_ff ?hx ?hy ?ha ?hb ?e ?_); (case hx => (with_reducible (first | exact rfl | exact half_c | exact epg_c | exact epp_c))); (case hy => (with_reducible (first | exact rfl | exact half_c | exact epg_c | exact epp_c))); (case ha => k_dflt (first | with_reducible assumption | decide | omega)); (case hb => k_dflt (first | with_reducible assumption | decide | omega)); (case e => (first | with_reducible assumption | (k_dflt (exact rfl)))); k_whole)))
local macro_rules | `(tactic| walk_at "binaryOp Add float int") => `(tactic| (k_here; (with_reducible show wpAny _ _ (binaryOp _ (Value.float _ _) (Value.int _ _)) _ _ _); first | ((with_reducible refine' r_add_fi ?hx ?ha ?hn ?e ?_); (case hx => (with_reducible (first | exact rfl | exact half_c | exact epg_c | exact epp_c))); (case ha => k_dflt (first | with_reducible assumption | decide | omega)); (case hn => k_dflt (first | with_reducible assumption | decide | omega)); (case e => (first | with_reducible assumption | (k_dflt (exact rfl)))); k_whole) | ((with_reducible refine' r_add_xi ?hn ?_); (case hn => k_dflt (first | with_reducible assumption | decide | omega)); k_whole)))
local macro_rules | `(tactic| walk_at "binaryOp Sub float int") => `(tactic| (k_here; (with_reducible show wpAny _ _ (binaryOp _ (Value.float _ _) (Value.int _ _)) _ _ _); ((with_reducible refine' r_sub_fi ?hx ?ha ?hn ?e ?_); (case hx => (with_reducible (first | exact rfl | exact half_c | exact epg_c | exact epp_c))); (case ha => k_dflt (first | with_reducible assumption | decide | omega)); (case hn => k_dflt (first | with_reducible assumption | decide | omega)); (case e => (first | with_reducible assumption | (k_dflt (exact rfl)))); k_whole)))
local macro_rules | `(tactic| walk_at "binaryOp Add int float") => `(tactic| (k_here; (with_reducible show wpAny _ _ (binaryOp _ (Value.int _ _) (Value.float _ _)) _ _ _); ((with_reducible refine' r_add_if ?hx ?ha ?hn ?e ?_); (case hx => (with_reducible (first | exact rfl | exact half_c | exact epg_c | exact epp_c))); (case ha => k_dflt (first | with_reducible assumption | decide | omega)); (case hn => k_dflt (first | with_reducible assumption | decide | omega)); (case e => (first | with_reducible assumption | (k_dflt (exact rfl)))); k_whole)))
local macro_rules | `(tactic| walk_at "binaryOp Sub int float") => `(tactic| (k_here; (with_reducible show wpAny _ _ (binaryOp _ (Value.int _ _) (Value.float _ _)) _ _ _); ((with_reducible refine' r_sub_if ?hx ?ha ?hn ?e ?_); (case hx => (with_reducible (first | exact rfl | exact half_c | exact epg_c | exact epp_c))); (case ha => k_dflt (first | with_reducible assumption | decide | omega)); (case hn => k_dflt (first | with_reducible assumption | decide | omega)); (case e => (first | with_reducible assumption | (k_dflt (exact rfl)))); k_whole)))
local macro_rules | `(tactic| walk_at "binaryOp Mult float int") => `(tactic| (k_here; (with_reducible show wpAny _ _ (binaryOp _ (Value.float _ _) (Value.int _ _)) _ _ _); ((with_reducible refine' r_mul_fi ?hx ?ha ?hn ?hm ?e ?_); (case hx => (with_reducible (first | exact rfl | exact half_c | exact epg_c | exact epp_c))); (case ha => k_dflt (first | with_reducible assumption | decide | omega)); (case hn => k_dflt (first | with_reducible assumption | decide | omega)); (case hm => k_dflt (first | with_reducible assumption | decide | omega)); (case e => (first | with_reducible assumption | (k_dflt (exact rfl)))); k_whole)))
local macro_rules | `(tactic| walk_at "binaryOp Div float int") => `(tactic| (k_here; (with_reducible show wpAny _ _ (binaryOp _ (Value.float _ _) (Value.int _ _)) _ _ _); ((with_reducible refine' r_div_fi ?hn ?hm ?_); (case hn => k_dflt (first | with_reducible assumption | decide | omega)); (case hm => k_dflt (first | with_reducible assumption | decide | omega)); k_whole)))
local macro_rules | `(tactic| walk_at "binaryOp Mod float int") => `(tactic| (k_here; (with_reducible show wpAny _ _ (binaryOp _ (Value.float _ _) (Value.int _ _)) _ _ _); ((with_reducible refine' r_mod_fi ?hx ?ha ?he ?hn ?hm ?e ?_); (case hx => (with_reducible (first | exact rfl | exact half_c | exact epg_c | exact epp_c))); (case ha => k_dflt (first | with_reducible assumption | decide | omega)); (case he => k_dflt (first | with_reducible assumption | decide | omega)); (case hn => k_dflt (first | with_reducible assumption | decide | omega)); (case hm => k_dflt (first | with_reducible assumption | decide | omega)); (case e => (first | with_reducible assumption | (k_dflt (exact rfl)))); k_whole)))
local macro_rules | `(tactic| walk_at "binaryOp Div int int") => `(tactic| (k_here; (with_reducible show wpAny _ _ (binaryOp _ (Value.int _ _) (Value.int _ _)) _ _ _); ((with_reducible refine' r_div_ii ?hA ?ha ?hn ?hm ?_); (case hA => k_dflt (exact rfl)); (case ha => k_dflt (first | with_reducible assumption | decide | omega)); (case hn => k_dflt (first | with_reducible assumption | decide | omega)); (case hm => k_dflt (first | with_reducible assumption | decide | omega)); k_whole)))
local macro_rules | `(tactic| walk_at "call builtin:math.floor") => `(tactic| (k_here; (with_reducible show wpAny _ _ (call (Value.builtin "math.floor") [Value.float _ _]) _ _ _); first | ((with_reducible refine' r_floor_x ?hA ?hx ?e ?_); (case hA => k_dflt (exact rfl)); (case hx => with_reducible assumption); (case e => with_reducible assumption); k_whole) | ((with_reducible refine' r_floor_m ?hA ?hm ?hadj ?hd ?e ?_); (case hA => k_dflt (exact rfl)); (case hm => k_dflt (first | with_reducible assumption | decide | omega)); (case hadj => k_dflt omega); (case hd => k_dflt omega); (case e => (first | with_reducible assumption | (k_dflt (exact rfl)))); k_whole) | ((with_reducible refine' r_floor_q ?hA ?ha ?hn ?hm ?e ?_); (case hA => k_dflt (exact rfl)); (case ha => k_dflt (first | with_reducible assumption | decide | omega)); (case hn => k_dflt (first | with_reducible assumption | decide | omega)); (case hm => k_dflt (first | with_reducible assumption | decide | omega)); (case e => (first | with_reducible assumption | (k_dflt (exact rfl)))); k_whole) | ((with_reducible refine' r_floor_d ?hA ?hx ?ha ?hn ?hm ?e ?_); (case hA => k_dflt (exact rfl)); (case hx => with_reducible exact rfl); (case ha => k_dflt (first | with_reducible assumption | decide | omega)); (case hn => k_dflt (first | with_reducible assumption | decide | omega)); (case hm => k_dflt (first | with_reducible assumption | decide | omega)); (case e => (first | with_reducible assumption | (k_dflt (exact rfl)))); k_whole) | ((with_reducible refine' r_floor_h ?hA ?hx ?ha ?e ?_); (case hA => k_dflt (exact rfl)); (case hx => with_reducible exact rfl); (case ha => k_dflt (first | with_reducible assumption | decide | omega)); (case e => (first | with_reducible assumption | (k_dflt (exact rfl)))); k_whole)))
local macro_rules | `(tactic| walk_at "call builtin:math.ceil") => `(tactic| (k_here; (with_reducible show wpAny _ _ (call (Value.builtin "math.ceil") [Value.float _ _]) _ _ _); ((with_reducible refine' r_ceil_d ?hA ?hx ?ha ?hn ?hm ?e ?_); (case hA => k_dflt (exact rfl)); (case hx => with_reducible exact rfl); (case ha => k_dflt (first | with_reducible assumption | decide | omega)); (case hn => k_dflt (first | with_reducible assumption | decide | omega)); (case hm => k_dflt (first | with_reducible assumption | decide | omega)); (case e => (first | with_reducible assumption | (k_dflt (exact rfl)))); k_whole)))
local macro_rules | `(tactic| walk_at "call builtin:math.trunc") => `(tactic| (k_here; (with_reducible show wpAny _ _ (call (Value.builtin "math.trunc") [Value.float _ _]) _ _ _); ((with_reducible refine' r_trunc_h ?hA ?hx ?ha ?he ?e ?_); (case hA => k_dflt (exact rfl)); (case hx => with_reducible exact rfl); (case ha => k_dflt (first | with_reducible assumption | decide | omega)); (case he => k_dflt (first | with_reducible assumption | decide | omega)); (case e => (first | with_reducible assumption | (k_dflt (exact rfl)))); k_whole)))
local macro_rules | `(tactic| walk_at "call type:int") => `(tactic| (k_here; (with_reducible show wpAny _ _ (call (Value.type "int") [Value.float _ _]) _ _ _); ((with_reducible refine' r_int_h ?hA ?hx ?ha ?he ?e ?_); (case hA => k_dflt (exact rfl)); (case hx => with_reducible exact rfl); (case ha => k_dflt (first | with_reducible assumption | decide | omega)); (case he => k_dflt (first | with_reducible assumption | decide | omega)); (case e => (first | with_reducible assumption | (k_dflt (exact rfl)))); k_whole)))
local macro_rules | `(tactic| walk_at "compareOp Lt float int") => `(tactic| (k_here; (with_reducible show wpAny _ _ (compareOp _ (Value.float _ _) (Value.int _ _)) _ _ _); first | ((with_reducible refine' r_lt_fi ?hx ?ha ?e ?_); (case hx => with_reducible exact rfl); (case ha => k_dflt (first | with_reducible assumption | decide | omega)); (case e => (first | with_reducible assumption | (k_dflt (exact rfl)))); k_whole) | ((with_reducible refine' r_lt_xi ?hx ?e ?_); (case hx => assumption); (case e => (first | with_reducible assumption | (k_dflt (exact rfl)))); k_whole)))
local macro_rules | `(tactic| walk_at "compareOp LtE float int") => `(tactic| (k_here; (with_reducible show wpAny _ _ (compareOp _ (Value.float _ _) (Value.int _ _)) _ _ _); ((with_reducible refine' r_le_fi ?hx ?ha ?e ?_); (case hx => with_reducible exact rfl); (case ha => k_dflt (first | with_reducible assumption | decide | omega)); (case e => (first | with_reducible assumption | (k_dflt (exact rfl)))); k_whole)))
local macro_rules | `(tactic| walk_at "compareOp Gt float int") => `(tactic| (k_here; (with_reducible show wpAny _ _ (compareOp _ (Value.float _ _) (Value.int _ _)) _ _ _); ((with_reducible refine' r_gt_fi ?hx ?ha ?e ?_); (case hx => with_reducible exact rfl); (case ha => k_dflt (first | with_reducible assumption | decide | omega)); (case e => (first | with_reducible assumption | (k_dflt (exact rfl)))); k_whole)))
local macro_rules | `(tactic| walk_at "compareOp Gt int float") => `(tactic| (k_here; (with_reducible show wpAny _ _ (compareOp _ (Value.int _ _) (Value.float _ _)) _ _ _); ((with_reducible refine' r_gt_ix ?hx ?e ?_); (case hx => assumption); (case e => (first | with_reducible assumption | (k_dflt (exact rfl)))); k_whole)))
local macro_rules | `(tactic| walk_at "compareOp LtE int float") => `(tactic| (k_here; (with_reducible show wpAny _ _ (compareOp _ (Value.int _ _) (Value.float _ _)) _ _ _); ((with_reducible refine' r_le_ix ?hx ?e ?_); (case hx => assumption); (case e => (first | with_reducible assumption | (k_dflt (exact rfl)))); k_whole)))
local macro_rules | `(tactic| walk_at "compareOp NotEq float float") => `(tactic| (k_here; (with_reducible show wpAny _ _ (compareOp _ (Value.float _ _) (Value.float _ _)) _ _ _); ((with_reducible refine' r_ne_ff ?hx ?hy ?ha ?hb ?_); (case hx => with_reducible exact rfl); (case hy => with_reducible exact rfl); (case ha => k_dflt (first | with_reducible assumption | decide | omega)); (case hb => k_dflt (first | with_reducible assumption | decide | omega)); k_whole)))
local macro_rules | `(tactic| walk_at "compareOp In int ref") => `(tactic| (k_here; (with_reducible show wpAny _ _ (compareOp _ (Value.int _ _) (Value.ref _)) _ _ _); ((with_reducible refine' in_tupK ?F ?X ?l ?i ?b ?_); (case F => k_asm); (case X => k_asm); (case l => k_is); (case i => (repeat constructor)); (case b => assumption); k_whole)))
local macro_rules | `(tactic| walk_at "compareOp Eq int int") => `(tactic| (k_here; with_reducible (first | refine r_eq_y (by assumption) ?_ | refine r_eq_n (by assumption) ?_)))
local macro_rules | `(tactic| walk_at "compareOp NotEq int int") => `(tactic| (k_here; with_reducible (first | refine r_ne_y (by assumption) ?_ | refine r_ne_n (by assumption) ?_)))
local macro_rules | `(tactic| walk_at "compareOp Lt int int") => `(tactic| (k_here; with_reducible (first | refine r_lt_y (by assumption) ?_ | refine r_lt_n (by assumption) ?_)))
local macro_rules | `(tactic| walk_at "compareOp LtE int int") => `(tactic| (k_here; with_reducible (first | refine r_le_y (by assumption) ?_ | refine r_le_n (by assumption) ?_)))
local macro_rules | `(tactic| walk_at "compareOp Gt int int") => `(tactic| (k_here; with_reducible (first | refine r_gt_y (by assumption) ?_ | refine r_gt_n (by assumption) ?_)))
local macro_rules | `(tactic| walk_at "binaryOp Add int bool") => `(tactic| (k_here; with_reducible (refine r_add_ib (by assumption) ?_)))
local macro_rules | `(tactic| walk_at "binaryOp Mult int int") => `(tactic| (k_here; first | (refine r_mul_r (by decide) ?_) | (refine r_mul_l (by decide) ?_) | (refine r_mul_r (by assumption) ?_) | (refine r_mul_l (by assumption) ?_)))
local macro_rules | `(tactic| walk_at "callWith ref") => `(tactic| (k_here; k_dflt (refine' callWith_F ?k1 ?_; (case k1 => exact FnAt.of (by k_asm) (by (first | assumption | exact List.mem_cons_of_mem _ (by assumption) | exact List.mem_cons_of_mem _ (List.mem_cons_of_mem _ (by assumption)) | exact List.mem_cons_of_mem _ (List.mem_cons_of_mem _ (List.mem_cons_of_mem _ (by assumption)))))); k_whole)))
local macro_rules | `(tactic| walk_at "FnAt") => `(tactic| (k_dflt (exact FnAt.of (by k_asm) (by (first | assumption | exact List.mem_cons_of_mem _ (by assumption) | exact List.mem_cons_of_mem _ (List.mem_cons_of_mem _ (by assumption)) | exact List.mem_cons_of_mem _ (List.mem_cons_of_mem _ (List.mem_cons_of_mem _ (by assumption))))))))
local macro_rules | `(tactic| walk_at "call ref") => `(tactic| (k_here; with_reducible refine nil_app ?_))
local macro_rules | `(tactic| walk_at "binaryOp Div float float") => `(tactic| (k_here; with_reducible (refine r_div_TY rfl ?_)))
local macro_rules | `(tactic| walk_at "call builtin:round") => `(tactic| (k_here; (with_reducible show wpAny _ _ (call (Value.builtin "round") [Value.float _ _]) _ _ _); ((with_reducible refine' r_round_TY ?hA ?hx ?hy ?ha ?hn ?h1 ?h2 ?_); (case hA => k_dflt (exact rfl)); (case hx => with_reducible exact rfl); (case hy => exact TY_c); (case h1 => with_reducible assumption); (case h2 => with_reducible assumption); (case ha => k_dflt (first | with_reducible assumption | omega)); (case hn => k_dflt (first | with_reducible assumption | omega)); k_whole)))
local macro_rules | `(tactic| walk_at "binaryOp Add float float") => `(tactic| (k_here; (with_reducible show wpAny _ _ (binaryOp _ (Value.float _ _) (Value.float _ _)) _ _ _); ((with_reducible refine' r_add_ff ?hx ?hy ?ha ?hb ?e ?_); (case hx => (with_reducible (first | exact rfl | exact half_c | exact epg_c | exact epp_c))); (case hy => (with_reducible (first | exact rfl | exact half_c | exact epg_c | exact epp_c))); (case ha => k_dflt (first | with_reducible assumption | decide | omega)); (case hb => k_dflt (first | with_reducible assumption | decide | omega)); (case e => (first | with_reducible assumption | (k_dflt (exact rfl)))); k_whole)))
set_option maxRecDepth 100000 in
set_option maxHeartbeats 3000000 in
theorem c_jwday {w : World} {p : Program} {loose : List Str} {mean : ExcName → Option Value} {mg mb : Str → Option Value} (z k0 k : Int) (t : Tok) (hz : 2 * z - 1 = k0) (hb : -12000000 ≤ z ∧ z ≤ 16000000) (hkk : z.fmod 7 = k) : Con w p loose mean mg mb (.ref 49) [.float (hf k0) t] 2 (fun _ => True) (fun r tl => tl = [] ∧ ∃ t', r = .int k t') := by
  unfold Con
  k_fill
  intro dp un gd cn cs a ccd cl outer A₀ base h₀ L m news s Q E Bq Fq Xq Nq Tq hk hpre hd hu hret
  w_on
  w_top on
  refine wpAny_call ?_
  k_dflt cell_enter
  rename_i g1 L1 h1 FG F1 N1 BB X1 T1
  have b0 : k0.natAbs ≤ 1073741824 := by omega
  obtain ⟨q, hq⟩ : ∃ q, k0 + 1 = q := ⟨_, rfl⟩
  have b1 : q.natAbs ≤ 1073741824 := by omega
  have b2 : q % 2 = 0 := by omega
  have b3 : q / 2 = z := by omega
  w_strict k_steps
  all_goals (refine ret_int hret (by assumption) (by assumption) hkk)
local macro_rules | `(tactic| walk_at "call ref") => `(tactic| (k_here; (with_reducible show wpAny _ _ (call (Value.ref 113) [Value.int _ _, Value.int _ _, Value.int _ _, Value.ref _]) _ _ _); (refine' con_use (c_topjd (by assumption) (by assumption) _ _ _ _ _ _ (by with_reducible assumption) (by first | with_reducible assumption | decide | omega) (by first | with_reducible assumption | decide | omega) (by first | with_reducible assumption | exact rfl)) ?k1 ?k2 ?k3 ?k4 ?k5 ?kK ?kp ?kd ?ku ?_; (case k1 => k_asm); (case k2 => k_asm); (case k3 => k_asm); (case k4 => k_asm); (case k5 => k_asm); (case kK => first | exact rfl | assumption); (case kp => (first | assumption | exact TurnOk.more (by assumption) _ _ (by first | assumption | exact TurnOk.more (by assumption) _ _ (by assumption)))); (case kd => ktr_room); (case ku => ktr_units)); intro r9 tl9 h9 tk9 F9 N9 l9 ho9; obtain ⟨e9, t9, ho9⟩ := ho9; subst e9; subst ho9; clear l9; (dsimp only [List.nil_append] at N9); (try dsimp only); (try k_fold)))
local macro_rules | `(tactic| walk_at "call ref") => `(tactic| (k_here; (with_reducible show wpAny _ _ (call (Value.ref 141) [Value.int _ _, Value.int _ _, Value.ref _]) _ _ _); (refine' con_use (c_mlen (by assumption) (by assumption) _ _ _ _ (by assumption) (by first | with_reducible assumption | decide) (by with_reducible assumption) (by first | with_reducible assumption | exact rfl)) ?k1 ?k2 ?k3 ?k4 ?k5 ?kK ?kp ?kd ?ku ?_; (case k1 => k_asm); (case k2 => k_asm); (case k3 => k_asm); (case k4 => k_asm); (case k5 => k_asm); (case kK => first | exact rfl | assumption); (case kp => (first | assumption | exact TurnOk.more (by assumption) _ _ (by first | assumption | exact TurnOk.more (by assumption) _ _ (by assumption)))); (case kd => ktr_room); (case ku => ktr_units)); intro r9 tl9 h9 tk9 F9 N9 l9 ho9; obtain ⟨e9, t9, ho9⟩ := ho9; subst e9; subst ho9; clear l9; (dsimp only [List.nil_append] at N9); (try dsimp only); (try k_fold)))
local macro_rules | `(tactic| walk_at "call ref") => `(tactic| (k_here; (with_reducible show wpAny _ _ (call (Value.ref 49) [Value.float _ _]) _ _ _); (refine' con_use (c_jwday _ _ _ _ (by with_reducible assumption) (by assumption) (by with_reducible assumption)) ?k1 ?k2 ?k3 ?k4 ?k5 ?kK ?kp ?kd ?ku ?_; (case k1 => k_asm); (case k2 => k_asm); (case k3 => k_asm); (case k4 => k_asm); (case k5 => k_asm); (case kK => first | exact rfl | assumption); (case kp => trivial); (case kd => ktr_room); (case ku => ktr_units)); intro r9 tl9 h9 tk9 F9 N9 l9 ho9; obtain ⟨e9, t9, ho9⟩ := ho9; subst e9; subst ho9; clear l9; (dsimp only [List.nil_append] at N9); (try dsimp only); (try k_fold)))
local macro_rules | `(tactic| walk_at "call ref") => `(tactic| (k_here; (with_reducible show wpAny _ _ (call (Value.ref 54) [Value.int _ _, Value.int _ _]) _ _ _); (refine' conW_use (c_helper _ _ _ _ _ (by with_reducible assumption) (by assumption)) ?k1 ?k2 ?k3 ?k4 ?k5 ?kK ?kp ?kd ?ku ?_; (case k1 => k_asm); (case k2 => k_asm); (case k3 => k_asm); (case k4 => k_asm); (case k5 => k_asm); (case kK => first | exact rfl | assumption); (case kp => trivial); (case kd => ktr_room); (case ku => ktr_units)); intro r9 tl9 h9 tk9 F9 N9 ho9; have hr9 := rd_ref ho9; (obtain ⟨a9, e9⟩ := hr9; subst e9); (try dsimp only); (try k_fold)))
theorem fmod_next {z sw c : Int} (h : z.fmod 7 = sw) (g : (z + 1).fmod 7 = c) : (sw + 1).fmod 7 = c := by
  rw [Int.fmod_eq_emod_of_nonneg _ (show (0 : Int) ≤ 7 by decide)] at *
  omega
set_option maxRecDepth 100000 in
set_option maxHeartbeats 3000000 in
theorem c_mcal {w : World} {p : Program} {loose : List Str} {mean : ExcName → Option Value} {mg mb : Str → Option Value} {b : Int} {T : Int → Int} {tf : Addr} {P : List (Addr × Obj) → Prop} (R : Row b T) (TO : TurnOk w p loose mean mg mb T tf P) (y mo : Int) (t t1 : Tok) (hy : b ≤ y ∧ y ≤ b + 10) (hm : 1 ≤ mo ∧ mo ≤ 12)
    {l : Bool} (hl : decide (T (y + 1) - T y = 366) = l) {c n : Int} (hc : (T y + poff mo + 1).fmod 7 = c) (hn : plen mo l = n) :
    ConW w p loose mean mg mb (.ref 148) [.int y t, .int mo t1, .ref tf] 18 P (fun r tl => RdAs (calD c n) r tl) := by
  unfold ConW
  k_fill
  intro dp un gd cn cs a ccd cl outer A₀ base h₀ L m news s Q E Bq Fq Xq Nq Tq hk hpre hd hu hret
  w_on
  w_top on
  refine wpAny_call ?_
  k_dflt cell_enter
  rename_i g1 L1 h1 FG F1 N1 BB X1 T1
  obtain ⟨oc, od, fd, sl, hmem⟩ := TO.fn news hpre
  have hn3 : 29 ≤ n ∧ n ≤ 31 := by rw [← hn]; exact plen_bd mo l
  have sm := R.small y (by omega)
  have hp0 : 0 ≤ poff mo ∧ poff mo ≤ 400 := by
    unfold poff
    split <;> omega
  obtain ⟨z, hz⟩ : ∃ z, T y + poff mo = z := ⟨_, rfl⟩
  obtain ⟨K, hK⟩ : ∃ K, 2 * (T y - 2 + poff mo + 1) + 1 = K := ⟨_, rfl⟩
  have hzK : 2 * z - 1 = K := by omega
  have hzb : -12000000 ≤ z ∧ z ≤ 16000000 := by omega
  obtain ⟨sw, hsw⟩ : ∃ sw, z.fmod 7 = sw := ⟨_, rfl⟩
  rw [hz] at hc
  have hsc := fmod_next hsw hc
  have hy11 : b ≤ y ∧ y ≤ b + 11 := by omega
  clear sm hp0
  w_strict k_steps
  all_goals (refine hret _ _ _ _ (by k_asm) (by k_asm) (by assumption))
end Mine
end
section
open PySem PySem.W PyProof.Rows PySem.Spec
namespace Mine
local macro_rules | `(tactic| walk_at "no such step 0") => `(tactic| fail)
local macro_rules | `(tactic| walk_at "no such step 1") => `(tactic| fail)
local macro_rules | `(tactic| walk_at "no such step 2") => `(tactic| fail)
local macro_rules | `(tactic| walk_at "no such step 3") => `(tactic| fail)
local macro_rules | `(tactic| walk_at "no such step 4") => `(tactic| fail)
local macro_rules | `(tactic| walk_at "no such step 5") => `(tactic| fail)
local macro_rules | `(tactic| walk_at "no such step 6") => `(tactic| fail)
local macro_rules | `(tactic| walk_at "no such step 7") => `(tactic| fail)
local macro_rules | `(tactic| walk_at "no such step 8") => `(tactic| fail)
local macro_rules | `(tactic| walk_at "no such step 9") => `(tactic| fail)
local macro_rules | `(tactic| walk_at "no such step 10") => `(tactic| fail)
local macro_rules | `(tactic| walk_at "no such step 11") => `(tactic| fail)
local macro_rules | `(tactic| walk_at "no such step 12") => `(tactic| fail)
local macro_rules | `(tactic| walk_at "no such step 13") => `(tactic| fail)
local macro_rules | `(tactic| walk_at "no such step 14") => `(tactic| fail)
local macro_rules | `(tactic| walk_at "no such step 15") => `(tactic| fail)
local macro_rules | `(tactic| walk_at "no such step 16") => `(tactic| fail)
local macro_rules | `(tactic| walk_at "no such step 17") => `(tactic| fail)
local macro_rules | `(tactic| walk_at "no such step 18") => `(tactic| fail)
local macro_rules | `(tactic| walk_at "no such step 19") => `(tactic| fail)
local macro_rules | `(tactic| walk_at "no such step 20") => `(tactic| fail)
local macro_rules | `(tactic| walk_at "no such step 21") => `(tactic| fail)
local macro_rules | `(tactic| walk_at "no such step 22") => `(tactic| fail)
local macro_rules | `(tactic| walk_at "no such step 23") => `(tactic| fail)
local macro_rules | `(tactic| walk_at "no such step 24") => `(tactic| fail)
local macro_rules | `(tactic| walk_at "no such step 25") => `(tactic| fail)
local macro_rules | `(tactic| walk_at "no such step 26") => `(tactic| fail)
local macro_rules | `(tactic| walk_at "no such step 27") => `(tactic| fail)
local macro_rules | `(tactic| walk_at "no such step 28") => `(tactic| fail)
local macro_rules | `(tactic| walk_at "no such step 29") => `(tactic| fail)
local macro_rules | `(tactic| walk_at "no such step 30") => `(tactic| fail)
local macro_rules | `(tactic| walk_at "no such step 31") => `(tactic| fail)
local macro_rules | `(tactic| walk_at "no such step 32") => `(tactic| fail)
local macro_rules | `(tactic| walk_at "no such step 33") => `(tactic| fail)
local macro_rules | `(tactic| walk_at "no such step 34") => `(tactic| fail)
local macro_rules | `(tactic| walk_at "no such step 35") => `(tactic| fail)
local macro_rules | `(tactic| walk_at "no such step 36") => `(tactic| fail)
local macro_rules | `(tactic| walk_at "no such step 37") => `(tactic| fail)
local macro_rules | `(tactic| walk_at "no such step 38") => `(tactic| fail)
local macro_rules | `(tactic| walk_at "no such step 39") => `(tactic| fail)
local macro_rules | `(tactic| walk_at "binaryOp Sub float float") => `(tactic| (k_here; (with_reducible show wpAny _ _ (binaryOp _ (Value.float _ _) (Value.float _ _)) _ _ _); ((with_reducible refine' r_sub_ff ?hx ?hy ?ha ?hb ?e ?_); (case hx => (with_reducible (first | exact rfl | exact half_c | exact epg_c | exact epp_c))); (case hy => (with_reducible (first | exact rfl | exact half_c | exact epg_c | exact epp_c))); (case ha => k_dflt (first | with_reducible assumption | decide | omega)); (case hb => k_dflt (first | with_reducible assumption | decide | omega)); (case e => (first | with_reducible assumption | (k_dflt (exact rfl)))); k_whole)))
local macro_rules | `(tactic| walk_at "binaryOp Add float int") => `(tactic| (k_here; (with_reducible show wpAny _ _ (binaryOp _ (Value.float _ _) (Value.int _ _)) _ _ _); first | ((with_reducible refine' r_add_fi ?hx ?ha ?hn ?e ?_); (case hx => (with_reducible (first | exact rfl | exact half_c | exact epg_c | exact epp_c))); (case ha => k_dflt (first | with_reducible assumption | decide | omega)); (case hn => k_dflt (first | with_reducible assumption | decide | omega)); (case e => (first | with_reducible assumption | (k_dflt (exact rfl)))); k_whole) | ((with_reducible refine' r_add_xi ?hn ?_); (case hn => k_dflt (first | with_reducible assumption | decide | omega)); k_whole)))
local macro_rules | `(tactic| walk_at "binaryOp Sub float int") => `(tactic| (k_here; (with_reducible show wpAny _ _ (binaryOp _ (Value.float _ _) (Value.int _ _)) _ _ _); ((with_reducible refine' r_sub_fi ?hx ?ha ?hn ?e ?_); (case hx => (with_reducible (first | exact rfl | exact half_c | exact epg_c | exact epp_c))); (case ha => k_dflt (first | with_reducible assumption | decide | omega)); (case hn => k_dflt (first | with_reducible assumption | decide | omega)); (case e => (first | with_reducible assumption | (k_dflt (exact rfl)))); k_whole)))
local macro_rules | `(tactic| walk_at "binaryOp Add int float") => `(tactic| (k_here; (with_reducible show wpAny _ _ (binaryOp _ (Value.int _ _) (Value.float _ _)) _ _ _); ((with_reducible refine' r_add_if ?hx ?ha ?hn ?e ?_); (case hx => (with_reducible (first | exact rfl | exact half_c | exact epg_c | exact epp_c))); (case ha => k_dflt (first | with_reducible assumption | decide | omega)); (case hn => k_dflt (first | with_reducible assumption | decide | omega)); (case e => (first | with_reducible assumption | (k_dflt (exact rfl)))); k_whole)))
local macro_rules | `(tactic| walk_at "binaryOp Sub int float") => `(tactic| (k_here; (with_reducible show wpAny _ _ (binaryOp _ (Value.int _ _) (Value.float _ _)) _ _ _); ((with_reducible refine' r_sub_if ?hx ?ha ?hn ?e ?_); (case hx => (with_reducible (first | exact rfl | exact half_c | exact epg_c | exact epp_c))); (case ha => k_dflt (first | with_reducible assumption | decide | omega)); (case hn => k_dflt (first | with_reducible assumption | decide | omega)); (case e => (first | with_reducible assumption | (k_dflt (exact rfl)))); k_whole)))
local macro_rules | `(tactic| walk_at "binaryOp Mult float int") => `(tactic| (k_here; (with_reducible show wpAny _ _ (binaryOp _ (Value.float _ _) (Value.int _ _)) _ _ _); ((with_reducible refine' r_mul_fi ?hx ?ha ?hn ?hm ?e ?_); (case hx => (with_reducible (first | exact rfl | exact half_c | exact epg_c | exact epp_c))); (case ha => k_dflt (first | with_reducible assumption | decide | omega)); (case hn => k_dflt (first | with_reducible assumption | decide | omega)); (case hm => k_dflt (first | with_reducible assumption | decide | omega)); (case e => (first | with_reducible assumption | (k_dflt (exact rfl)))); k_whole)))
local macro_rules | `(tactic| walk_at "binaryOp Div float int") => `(tactic| (k_here; (with_reducible show wpAny _ _ (binaryOp _ (Value.float _ _) (Value.int _ _)) _ _ _); ((with_reducible refine' r_div_fi ?hn ?hm ?_); (case hn => k_dflt (first | with_reducible assumption | decide | omega)); (case hm => k_dflt (first | with_reducible assumption | decide | omega)); k_whole)))
local macro_rules | `(tactic| walk_at "binaryOp Mod float int") => `(tactic| (k_here; (with_reducible show wpAny _ _ (binaryOp _ (Value.float _ _) (Value.int _ _)) _ _ _); ((with_reducible refine' r_mod_fi ?hx ?ha ?he ?hn ?hm ?e ?_); (case hx => (with_reducible (first | exact rfl | exact half_c | exact epg_c | exact epp_c))); (case ha => k_dflt (first | with_reducible assumption | decide | omega)); (case he => k_dflt (first | with_reducible assumption | decide | omega)); (case hn => k_dflt (first | with_reducible assumption | decide | omega)); (case hm => k_dflt (first | with_reducible assumption | decide | omega)); (case e => (first | with_reducible assumption | (k_dflt (exact rfl)))); k_whole)))
local macro_rules | `(tactic| walk_at "binaryOp Div int int") => `(tactic| (k_here; (with_reducible show wpAny _ _ (binaryOp _ (Value.int _ _) (Value.int _ _)) _ _ _); ((with_reducible refine' r_div_ii ?hA ?ha ?hn ?hm ?_); (case hA => k_dflt (exact rfl)); (case ha => k_dflt (first | with_reducible assumption | decide | omega)); (case hn => k_dflt (first | with_reducible assumption | decide | omega)); (case hm => k_dflt (first | with_reducible assumption | decide | omega)); k_whole)))
local macro_rules | `(tactic| walk_at "call builtin:math.floor") => `(tactic| (k_here; (with_reducible show wpAny _ _ (call (Value.builtin "math.floor") [Value.float _ _]) _ _ _); first | ((with_reducible refine' r_floor_x ?hA ?hx ?e ?_); (case hA => k_dflt (exact rfl)); (case hx => with_reducible assumption); (case e => with_reducible assumption); k_whole) | ((with_reducible refine' r_floor_m ?hA ?hm ?hadj ?hd ?e ?_); (case hA => k_dflt (exact rfl)); (case hm => k_dflt (first | with_reducible assumption | decide | omega)); (case hadj => k_dflt omega); (case hd => k_dflt omega); (case e => (first | with_reducible assumption | (k_dflt (exact rfl)))); k_whole) | ((with_reducible refine' r_floor_q ?hA ?ha ?hn ?hm ?e ?_); (case hA => k_dflt (exact rfl)); (case ha => k_dflt (first | with_reducible assumption | decide | omega)); (case hn => k_dflt (first | with_reducible assumption | decide | omega)); (case hm => k_dflt (first | with_reducible assumption | decide | omega)); (case e => (first | with_reducible assumption | (k_dflt (exact rfl)))); k_whole) | ((with_reducible refine' r_floor_d ?hA ?hx ?ha ?hn ?hm ?e ?_); (case hA => k_dflt (exact rfl)); (case hx => with_reducible exact rfl); (case ha => k_dflt (first | with_reducible assumption | decide | omega)); (case hn => k_dflt (first | with_reducible assumption | decide | omega)); (case hm => k_dflt (first | with_reducible assumption | decide | omega)); (case e => (first | with_reducible assumption | (k_dflt (exact rfl)))); k_whole) | ((with_reducible refine' r_floor_h ?hA ?hx ?ha ?e ?_); (case hA => k_dflt (exact rfl)); (case hx => with_reducible exact rfl); (case ha => k_dflt (first | with_reducible assumption | decide | omega)); (case e => (first | with_reducible assumption | (k_dflt (exact rfl)))); k_whole)))
local macro_rules | `(tactic| walk_at "call builtin:math.ceil") => `(tactic| (k_here; (with_reducible show wpAny _ _ (call (Value.builtin "math.ceil") [Value.float _ _]) _ _ _); ((with_reducible refine' r_ceil_d ?hA ?hx ?ha ?hn ?hm ?e ?_); (case hA => k_dflt (exact rfl)); (case hx => with_reducible exact rfl); (case ha => k_dflt (first | with_reducible assumption | decide | omega)); (case hn => k_dflt (first | with_reducible assumption | decide | omega)); (case hm => k_dflt (first | with_reducible assumption | decide | omega)); (case e => (first | with_reducible assumption | (k_dflt (exact rfl)))); k_whole)))
local macro_rules | `(tactic| walk_at "call builtin:math.trunc") => `(tactic| (k_here; (with_reducible show wpAny _ _ (call (Value.builtin "math.trunc") [Value.float _ _]) _ _ _); ((with_reducible refine' r_trunc_h ?hA ?hx ?ha ?he ?e ?_); (case hA => k_dflt (exact rfl)); (case hx => with_reducible exact rfl); (case ha => k_dflt (first | with_reducible assumption | decide | omega)); (case he => k_dflt (first | with_reducible assumption | decide | omega)); (case e => (first | with_reducible assumption | (k_dflt (exact rfl)))); k_whole)))
local macro_rules | `(tactic| walk_at "call type:int") => `(tactic| (k_here; (with_reducible show wpAny _ _ (call (Value.type "int") [Value.float _ _]) _ _ _); ((with_reducible refine' r_int_h ?hA ?hx ?ha ?he ?e ?_); (case hA => k_dflt (exact rfl)); (case hx => with_reducible exact rfl); (case ha => k_dflt (first | with_reducible assumption | decide | omega)); (case he => k_dflt (first | with_reducible assumption | decide | omega)); (case e => (first | with_reducible assumption | (k_dflt (exact rfl)))); k_whole)))
local macro_rules | `(tactic| walk_at "compareOp Lt float int") => `(tactic| (k_here; (with_reducible show wpAny _ _ (compareOp _ (Value.float _ _) (Value.int _ _)) _ _ _); first | ((with_reducible refine' r_lt_fi ?hx ?ha ?e ?_); (case hx => with_reducible exact rfl); (case ha => k_dflt (first | with_reducible assumption | decide | omega)); (case e => (first | with_reducible assumption | (k_dflt (exact rfl)))); k_whole) | ((with_reducible refine' r_lt_xi ?hx ?e ?_); (case hx => assumption); (case e => (first | with_reducible assumption | (k_dflt (exact rfl)))); k_whole)))
local macro_rules | `(tactic| walk_at "compareOp LtE float int") => `(tactic| (k_here; (with_reducible show wpAny _ _ (compareOp _ (Value.float _ _) (Value.int _ _)) _ _ _); ((with_reducible refine' r_le_fi ?hx ?ha ?e ?_); (case hx => with_reducible exact rfl); (case ha => k_dflt (first | with_reducible assumption | decide | omega)); (case e => (first | with_reducible assumption | (k_dflt (exact rfl)))); k_whole)))
local macro_rules | `(tactic| walk_at "compareOp Gt float int") => `(tactic| (k_here; (with_reducible show wpAny _ _ (compareOp _ (Value.float _ _) (Value.int _ _)) _ _ _); ((with_reducible refine' r_gt_fi ?hx ?ha ?e ?_); (case hx => with_reducible exact rfl); (case ha => k_dflt (first | with_reducible assumption | decide | omega)); (case e => (first | with_reducible assumption | (k_dflt (exact rfl)))); k_whole)))
local macro_rules | `(tactic| walk_at "compareOp Gt int float") => `(tactic| (k_here; (with_reducible show wpAny _ _ (compareOp _ (Value.int _ _) (Value.float _ _)) _ _ _); ((with_reducible refine' r_gt_ix ?hx ?e ?_); (case hx => assumption); (case e => (first | with_reducible assumption | (k_dflt (exact rfl)))); k_whole)))
local macro_rules | `(tactic| walk_at "compareOp LtE int float") => `(tactic| (k_here; (with_reducible show wpAny _ _ (compareOp _ (Value.int _ _) (Value.float _ _)) _ _ _); ((with_reducible refine' r_le_ix ?hx ?e ?_); (case hx => assumption); (case e => (first | with_reducible assumption | (k_dflt (exact rfl)))); k_whole)))
local macro_rules | `(tactic| walk_at "compareOp NotEq float float") => `(tactic| (k_here; (with_reducible show wpAny _ _ (compareOp _ (Value.float _ _) (Value.float _ _)) _ _ _); ((with_reducible refine' r_ne_ff ?hx ?hy ?ha ?hb ?_); (case hx => with_reducible exact rfl); (case hy => with_reducible exact rfl); (case ha => k_dflt (first | with_reducible assumption | decide | omega)); (case hb => k_dflt (first | with_reducible assumption | decide | omega)); k_whole)))
local macro_rules | `(tactic| walk_at "compareOp In int ref") => `(tactic| (k_here; (with_reducible show wpAny _ _ (compareOp _ (Value.int _ _) (Value.ref _)) _ _ _); ((with_reducible refine' in_tupK ?F ?X ?l ?i ?b ?_); (case F => k_asm); (case X => k_asm); (case l => k_is); (case i => (repeat constructor)); (case b => assumption); k_whole)))
local macro_rules | `(tactic| walk_at "compareOp Eq int int") => `(tactic| (k_here; with_reducible (first | refine r_eq_y (by assumption) ?_ | refine r_eq_n (by assumption) ?_)))
local macro_rules | `(tactic| walk_at "compareOp NotEq int int") => `(tactic| (k_here; with_reducible (first | refine r_ne_y (by assumption) ?_ | refine r_ne_n (by assumption) ?_)))
local macro_rules | `(tactic| walk_at "compareOp Lt int int") => `(tactic| (k_here; with_reducible (first | refine r_lt_y (by assumption) ?_ | refine r_lt_n (by assumption) ?_)))
local macro_rules | `(tactic| walk_at "compareOp LtE int int") => `(tactic| (k_here; with_reducible (first | refine r_le_y (by assumption) ?_ | refine r_le_n (by assumption) ?_)))
local macro_rules | `(tactic| walk_at "compareOp Gt int int") => `(tactic| (k_here; with_reducible (first | refine r_gt_y (by assumption) ?_ | refine r_gt_n (by assumption) ?_)))
local macro_rules | `(tactic| walk_at "binaryOp Add int bool") => `(tactic| (k_here; with_reducible (refine r_add_ib (by assumption) ?_)))
local macro_rules | `(tactic| walk_at "binaryOp Mult int int") => `(tactic| (k_here; first | (refine r_mul_r (by decide) ?_) | (refine r_mul_l (by decide) ?_) | (refine r_mul_r (by assumption) ?_) | (refine r_mul_l (by assumption) ?_)))
local macro_rules | `(tactic| walk_at "callWith ref") => `(tactic| (k_here; k_dflt (refine' callWith_F ?k1 ?_; (case k1 => exact FnAt.of (by k_asm) (by (first | assumption | exact List.mem_cons_of_mem _ (by assumption) | exact List.mem_cons_of_mem _ (List.mem_cons_of_mem _ (by assumption)) | exact List.mem_cons_of_mem _ (List.mem_cons_of_mem _ (List.mem_cons_of_mem _ (by assumption)))))); k_whole)))
local macro_rules | `(tactic| walk_at "FnAt") => `(tactic| (k_dflt (exact FnAt.of (by k_asm) (by (first | assumption | exact List.mem_cons_of_mem _ (by assumption) | exact List.mem_cons_of_mem _ (List.mem_cons_of_mem _ (by assumption)) | exact List.mem_cons_of_mem _ (List.mem_cons_of_mem _ (List.mem_cons_of_mem _ (by assumption))))))))
local macro_rules | `(tactic| walk_at "call ref") => `(tactic| (k_here; with_reducible refine nil_app ?_))
local macro_rules | `(tactic| walk_at "binaryOp Div float float") => `(tactic| (k_here; with_reducible (refine r_div_TY rfl ?_)))
local macro_rules | `(tactic| walk_at "call builtin:round") => `(tactic| (k_here; (with_reducible show wpAny _ _ (call (Value.builtin "round") [Value.float _ _]) _ _ _); ((with_reducible refine' r_round_TY ?hA ?hx ?hy ?ha ?hn ?h1 ?h2 ?_); (case hA => k_dflt (exact rfl)); (case hx => with_reducible exact rfl); (case hy => exact TY_c); (case h1 => with_reducible assumption); (case h2 => with_reducible assumption); (case ha => k_dflt (first | with_reducible assumption | omega)); (case hn => k_dflt (first | with_reducible assumption | omega)); k_whole)))
local macro_rules | `(tactic| walk_at "exec For Name List cons nil") => `(tactic| (k_here; (rename Fr _ _ _ _ => lF'); (with_reducible refine' For_invVF ?kF ?k1 ?k2 ?_ ?k4 ?k5); (case kF => with_unfolding_all exact lF'); (case k1 => k_dflt exact rfl); (case k2 => k_dflt exact rfl); (case k4 => with_unfolding_all (intro _; rfl)); (case k5 => with_unfolding_all passes_own); k_whole))
local macro_rules | `(tactic| walk_at "pyIter ref") => `(tactic| (k_here; (with_reducible show wpAny _ _ (pyIter (Value.ref _)) (fun it s₂ => LoopAtV _ _ _ _ _ _ _ _ _ it s₂) _ _); (with_reducible refine Hold.out ?_)))
local macro_rules | `(tactic| walk_at "TurnQ") => `(tactic| (with_reducible (first | refine TurnQ.brk ?_ | refine TurnQ.next ?_)))
local macro_rules | `(tactic| walk_at "exec For Name Call cons nil") => `(tactic| (k_here; (rename Fr _ _ _ _ => lF'); (with_reducible refine' For_invVF ?kF ?k1 ?k2 ?_ ?k4 ?k5); (case kF => with_unfolding_all exact lF'); (case k1 => k_dflt exact rfl); (case k2 => k_dflt exact rfl); (case k4 => with_unfolding_all (intro _; rfl)); (case k5 => with_unfolding_all passes_own); k_whole))
local macro_rules | `(tactic| walk_at "subscriptTail Name UnaryOp ref int") => `(tactic| (k_here; (with_reducible show wpAny _ _ (subscriptTail _ _ (Value.ref _) (Value.int _ _)) _ _ _); refine r_last (by k_asm) (by k_mem) (by assumption) (fun _ => ?_)))
local macro_rules | `(tactic| walk_at "subscriptTail") => `(tactic| (k_here; (with_reducible show wpAny _ _ (subscriptTail _ _ (Value.ref _) (Value.int _ _)) _ _ _); refine r_news (by k_asm) (by k_mem) (by assumption) (by first | assumption | decide | omega) (by first | assumption | decide | omega) (by first | assumption | exact rfl) (fun _ => ?_)))
local macro_rules | `(tactic| walk_at "pyIter ref") => `(tactic| (k_here; (with_reducible show wpAny _ _ (pyIter (Value.ref _)) (fun it s₂ => TurnsAt _ _ _ _ _ _ _ _ _ it s₂) _ _); k_dflt ktu_seq))
local macro_rules | `(tactic| walk_at "newTuple") => `(tactic| (k_here; dsimp only))
local macro_rules | `(tactic| walk_at "exec While") => `(tactic| (k_here; k_dflt (refine whl_start 100 ?_)))
local macro_rules | `(tactic| walk_at "WhlRest") => `(tactic| (with_reducible refine Hold.out ?_))
local macro_rules | `(tactic| walk_at "CompSrc") => `(tactic| (k_here; (with_reducible refine Hold.out ?_)))
local macro_rules | `(tactic| walk_at "call ref") => `(tactic| (k_here; (with_reducible show wpAny _ _ (call (Value.ref 141) [Value.int _ _, Value.int _ _, Value.ref _]) _ _ _); k_dflt (refine' con_useL (c_mlen (by assumption) (by assumption) _ _ _ _ (by assumption) (by first | with_reducible assumption | decide) (by with_reducible assumption) (by first | with_reducible assumption | exact rfl)) ?k1 ?k2 ?k3 ?k4 ?k5 ?kK ?kp ?kd ?ku ?_; (case k1 => k_asm); (case k2 => k_asm); (case k3 => k_asm); (case k4 => k_asm); (case k5 => k_asm); (case kK => exact rfl); (case kp => (first | (k_dflt lcg_sub) | assumption | exact TurnOk.more (by assumption) _ _ (by first | assumption | exact TurnOk.more (by assumption) _ _ (by assumption)))); (case kd => ktr_room); (case ku => ktr_units)); intro r9 tl9 h9 tk9 F9 N9 l9 ho9; obtain ⟨e9, t9, ho9⟩ := ho9; subst e9; subst ho9; clear l9; (dsimp only [List.nil_append] at N9); (try dsimp only); (try k_fold)))
local macro_rules | `(tactic| walk_at "call ref") => `(tactic| (k_here; (with_reducible show wpAny _ _ (call (Value.ref 92) [Value.int _ _, Value.ref _]) _ _ _); k_dflt (refine' con_useL (c_pleap (by assumption) (by assumption) _ _ (by assumption) (by with_reducible assumption)) ?k1 ?k2 ?k3 ?k4 ?k5 ?kK ?kp ?kd ?ku ?_; (case k1 => k_asm); (case k2 => k_asm); (case k3 => k_asm); (case k4 => k_asm); (case k5 => k_asm); (case kK => exact rfl); (case kp => (first | (k_dflt lcg_sub) | assumption | exact TurnOk.more (by assumption) _ _ (by first | assumption | exact TurnOk.more (by assumption) _ _ (by assumption)))); (case kd => ktr_room); (case ku => ktr_units)); intro r9 tl9 h9 tk9 F9 N9 l9 ho9; obtain ⟨e9, ho9⟩ := ho9; subst e9; subst ho9; clear l9; (dsimp only [List.nil_append] at N9); (try dsimp only); (try k_fold)))
local macro_rules | `(tactic| walk_at "call ref") => `(tactic| (k_here; (with_reducible show wpAny _ _ (call (Value.ref 120) [Value.float _ _, Value.ref _]) _ _ _); k_dflt (refine' con_useL (c_frompjdD (by assumption) (by assumption) (by with_reducible assumption)) ?k1 ?k2 ?k3 ?k4 ?k5 ?kK ?kp ?kd ?ku ?_; (case k1 => k_asm); (case k2 => k_asm); (case k3 => k_asm); (case k4 => k_asm); (case k5 => k_asm); (case kK => exact rfl); (case kp => (first | (k_dflt lcg_sub) | assumption | exact TurnOk.more (by assumption) _ _ (by assumption))); (case kd => ktr_room); (case ku => ktr_units)); intro r9 tl9 h9 tk9 F9 N9 l9 ho9; obtain ⟨t91, t92, t93, a9, e9, ho9⟩ := ho9; subst e9; subst ho9; (dsimp only [List.cons_append, List.nil_append, tup3] at N9); (have l10 := fun q hq => l9 q hq _ (List.mem_singleton.mpr rfl)); clear l9; (try dsimp only); (try k_fold)))
local macro_rules | `(tactic| walk_at "call ref") => `(tactic| (k_here; (with_reducible show wpAny _ _ (call (Value.ref 106) [Value.float _ _, Value.ref _]) _ _ _); k_dflt (refine' con_useL (c_pyear' (by assumption) (by assumption) (by assumption) (by with_reducible assumption)) ?k1 ?k2 ?k3 ?k4 ?k5 ?kK ?kp ?kd ?ku ?_; (case k1 => k_asm); (case k2 => k_asm); (case k3 => k_asm); (case k4 => k_asm); (case k5 => k_asm); (case kK => exact rfl); (case kp => (first | (k_dflt lcg_sub) | assumption | exact TurnOk.more (by assumption) _ _ (by first | assumption | exact TurnOk.more (by assumption) _ _ (by first | assumption | exact TurnOk.more (by assumption) _ _ (by assumption))))); (case kd => ktr_room); (case ku => ktr_units)); intro r9 tl9 h9 tk9 F9 N9 l9 ho9; obtain ⟨t91, t92, a9, e9, ho9⟩ := ho9; subst e9; subst ho9; clear l9; (dsimp only [List.cons_append, List.nil_append, tup2] at N9); (try dsimp only); (try k_fold)))
local macro_rules | `(tactic| walk_at "call ref") => `(tactic| (k_here; (with_reducible show wpAny _ _ (call (Value.ref 113) [Value.int _ _, Value.int _ _, Value.int _ _, Value.ref _]) _ _ _); k_dflt (refine' con_useL (c_topjd (by assumption) (by assumption) _ _ _ _ _ _ (by with_reducible assumption) (by first | with_reducible assumption | decide | omega) (by first | with_reducible assumption | decide | omega) (by first | with_reducible assumption | exact rfl)) ?k1 ?k2 ?k3 ?k4 ?k5 ?kK ?kp ?kd ?ku ?_; (case k1 => k_asm); (case k2 => k_asm); (case k3 => k_asm); (case k4 => k_asm); (case k5 => k_asm); (case kK => exact rfl); (case kp => (first | (k_dflt lcg_sub) | assumption | exact TurnOk.more (by assumption) _ _ (by first | assumption | exact TurnOk.more (by assumption) _ _ (by assumption)))); (case kd => ktr_room); (case ku => ktr_units)); intro r9 tl9 h9 tk9 F9 N9 l9 ho9; obtain ⟨e9, t9, ho9⟩ := ho9; subst e9; subst ho9; clear l9; (dsimp only [List.nil_append] at N9); (try dsimp only); (try k_fold)))
local macro_rules | `(tactic| walk_at "call ref") => `(tactic| (k_here; (with_reducible show wpAny _ _ (call (Value.ref 162) [Value.int _ _]) _ _ _); k_dflt (refine' con_useL (c_walked _ _ _ _ _ (by assumption) (by assumption)) ?k1 ?k2 ?k3 ?k4 ?k5 ?kK ?kp ?kd ?ku ?_; (case k1 => k_asm); (case k2 => k_asm); (case k3 => k_asm); (case k4 => k_asm); (case k5 => k_asm); (case kK => exact rfl); (case kp => trivial); (case kd => ktr_room); (case ku => ktr_units)); intro r9 tl9 h9 tk9 F9 N9 l9 ho9; obtain ⟨y9, m9, d9, t91, t92, t93, a9, hd9, e9, ho9⟩ := ho9; subst e9; subst ho9; (dsimp only [List.cons_append, List.nil_append] at N9); (have l10 := fun q hq => l9 q hq _ (List.mem_singleton.mpr rfl)); clear l9; (try dsimp only); (try k_fold)))
local macro_rules | `(tactic| walk_at "call ref") => `(tactic| (k_here; (with_reducible show wpAny _ _ (call (Value.ref 127) [Value.int _ _, Value.int _ _, Value.int _ _, Value.ref _]) _ _ _); k_dflt (refine' con_useL (c_fromgregD (by assumption) (by assumption) (by with_reducible assumption) (by assumption)) ?k1 ?k2 ?k3 ?k4 ?k5 ?kK ?kp ?kd ?ku ?_; (case k1 => k_asm); (case k2 => k_asm); (case k3 => k_asm); (case k4 => k_asm); (case k5 => k_asm); (case kK => exact rfl); (case kp => (first | (k_dflt lcg_sub) | assumption | exact TurnOk.more (by assumption) _ _ (by assumption))); (case kd => ktr_room); (case ku => ktr_units)); intro r9 tl9 h9 tk9 F9 N9 l9 ho9; obtain ⟨t91, t92, t93, a9, e9, ho9⟩ := ho9; subst e9; subst ho9; (dsimp only [List.cons_append, List.nil_append, tup3] at N9); (have l10 := fun q hq => l9 q hq _ (List.mem_singleton.mpr rfl)); clear l9; (try dsimp only); (try k_fold)))
local macro_rules | `(tactic| walk_at "call ref") => `(tactic| (k_here; (with_reducible show wpAny _ _ (call (Value.ref 134) [Value.int _ _, Value.int _ _, Value.int _ _, Value.ref _]) _ _ _); k_dflt (refine' con_useL (c_togreg (by assumption) (by assumption) _ _ _ _ _ _ _ (by assumption) (by assumption) (by assumption) (by with_reducible assumption) (by assumption)) ?k1 ?k2 ?k3 ?k4 ?k5 ?kK ?kp ?kd ?ku ?_; (case k1 => k_asm); (case k2 => k_asm); (case k3 => k_asm); (case k4 => k_asm); (case k5 => k_asm); (case kK => exact rfl); (case kp => (first | (k_dflt lcg_sub) | assumption | exact TurnOk.more (by assumption) _ _ (by assumption))); (case kd => ktr_room); (case ku => ktr_units)); intro r9 tl9 h9 tk9 F9 N9 l9 ho9; obtain ⟨y9, m9, d9, t91, t92, t93, a9, hd9, e9, ho9⟩ := ho9; subst e9; subst ho9; (dsimp only [List.cons_append, List.nil_append] at N9); (have l10 := fun q hq => l9 q hq _ (List.mem_singleton.mpr rfl)); clear l9; (have q9 := date_seen hd9 (by with_reducible assumption)); clear hd9; (obtain ⟨q91, q92, q93⟩ := q9); subst q91; subst q92; subst q93; (try dsimp only); (try k_fold)))
local macro_rules | `(tactic| walk_at "call ref") => `(tactic| (k_here; (with_reducible show wpAny _ _ (call (Value.ref 148) [Value.int _ _, Value.int _ _, Value.ref _]) _ _ _); k_dflt (refine' conW_useL (c_mcal (by assumption) (by assumption) _ _ _ _ (by assumption) (by assumption) (by with_reducible assumption) (by with_reducible assumption) rfl) ?k1 ?k2 ?k3 ?k4 ?k5 ?kK ?kp ?kd ?ku ?_; (case k1 => k_asm); (case k2 => k_asm); (case k3 => k_asm); (case k4 => k_asm); (case k5 => k_asm); (case kK => exact rfl); (case kp => (first | (k_dflt lcg_sub) | assumption | exact TurnOk.more (by assumption) _ _ (by assumption))); (case kd => ktr_room); (case ku => ktr_units)); intro r9 tl9 h9 tk9 F9 N9 ho9; have hr9 := rd_ref ho9; (obtain ⟨a9, e9⟩ := hr9; subst e9); have NA9 := news_drop N9; (try dsimp only); (try k_fold)))
local macro_rules | `(tactic| walk_at "call ref") => `(tactic| (k_here; (with_reducible show wpAny _ _ (call (Value.ref 169) [Value.int _ _, Value.int _ _]) _ _ _); k_dflt (refine' con_useL (c_leaf _ _ _ _ (by assumption) (by assumption)) ?k1 ?k2 ?k3 ?k4 ?k5 ?kK ?kp ?kd ?ku ?_; (case k1 => k_asm); (case k2 => k_asm); (case k3 => k_asm); (case k4 => (rename News _ _ _ (_ ++ _) => nX9; exact nX9)); (case k5 => k_asm); (case kK => exact rfl); (case kp => trivial); (case kd => ktr_room); (case ku => ktr_units)); intro r9 tl9 h9 tk9 F9 N9 l9 ho9; have RB9 := rd_new N9 ho9; have RA9 := rd_old N9 (by assumption); have NA9 := news_drop (news_drop N9); have hr9 := rd_ref ho9; (obtain ⟨a9, e9⟩ := hr9; subst e9; clear l9 ho9 N9); (try dsimp only); (try k_fold)))
local macro_rules | `(tactic| walk_at "compareOp Eq ref ref") => `(tactic| (k_here; k_dflt (refine eq_cal (by assumption) (by assumption) (by assumption) (by assumption) (by assumption) (by ke_room) ?_)))
local macro_rules | `(tactic| walk_at "RangeQ") => `(tactic| (with_reducible (refine RangeQ.next ?_)))
local macro_rules | `(tactic| walk_at "call builtin:list.append") => `(tactic| (k_here; (with_reducible show wpAny _ _ (call (Value.builtin _) [Value.ref _, _]) _ _ _); k_dflt (refine' append_K ?k1 ?k2 ?k3 ?_ ?z; (case k1 => k_asm); (case k2 => k_asm); (case k3 => k_upd); (case z => assumption); k_whole); intro h' F' N'; (try k_sweep)))
local macro_rules | `(tactic| walk_at "subscriptTail Name Constant ref int") => `(tactic| (k_here; (with_reducible show wpAny _ _ (subscriptTail _ _ (Value.ref _) (Value.int _ _)) _ _ _); k_dflt (refine item_lit (by k_asm) (by k_mem) (by decide) (by decide) (by exact rfl) ?_)))
set_option maxRecDepth 100000 in
set_option maxHeartbeats 100000000 in
set_option rowWalk.seconds 0 in
theorem law_all : PySem.Challenge.rw_ad5015_01.Holds := by
  refine Mine.hd ?_
  clear law_all
  w_on
  w_top on
  k_go0
  (all_goals try k_fold)
  rename Shared => s1
  rename_i h1 tk1 o4 o3 o2 o1 d4 d3 d2 d1 X0 X1 T1 K1 F1 N1 l0
  have c4 : ∃ v, o4.data = .cell v := ⟨_, by assumption⟩
  have c3 : ∃ v, o3.data = .cell v := ⟨_, by assumption⟩
  have c2 : ∃ v, o2.data = .cell v := ⟨_, by assumption⟩
  have c1 : ∃ v, o1.data = .cell v := ⟨_, by assumption⟩
  generalize hLL : s1.heap.objs.size = L at F1 N1 X1 T1 K1 lifted codeHd l0 ⊢
  generalize hgg : ghostOf s1.heap [(173,171)] = g at F1 N1 X1 T1 K1 lifted codeHd l0 ⊢
  with_reducible refine execs_cut1 (MidL g L s1 (fun m led => ∃ Dn n0 n1 n2 n3 n4 n5 t0 t1 t2 t3 t4 t5, m (Str.ofString "numbers") = some (.ref Dn) ∧ L + 1 + 1 + 1 + 1 < Dn ∧
    led = [(Dn, listOf #[Value.int n0 t0, Value.int n1 t1, Value.int n2 t2, Value.int n3 t3, Value.int n4 t4, Value.int n5 t5] 0), (L + 1 + 1 + 1 + 1, o4), (L + 1 + 1 + 1, o3), (L + 1 + 1, o2), (L + 1, o1), (171, tabObj #[])])) ?_ ?_
  · w_top off
    w_strict k_steps
    all_goals (dsimp only)
    rename IntsAre _ _ => hI6
    obtain ⟨n0, n1, n2, n3, n4, n5, t0, t1, t2, t3, t4, t5, he⟩ := ints6 hI6 (six _)
    subst he
    refine MidL.intro (by k_asm) (by k_asm) ?_
    exact ⟨_, by k_subL, ⟨_, _, _, _, _, _, _, _, _, _, _, _, _, by with_unfolding_all exact rfl, by omega, rfl⟩⟩
  rintro s' ⟨h2, tk2, m2, led, rfl, F2, N2, Dn, n0, n1, n2, n3, n4, n5, t0, t1, t2, t3, t4, t5, e1, q1, rfl⟩
  clear F1 N1 X0 d1 d2 d3 d4
  rename World => ww
  obtain ⟨pp, lo, me, mgg, mbb, T2⟩ : ∃ pp lo me mg mb, Top pp lo me mg mb g := ⟨_, _, _, _, _, T1⟩
  clear T1
  obtain ⟨v4, c4⟩ := c4
  obtain ⟨v3, c3⟩ := c3
  obtain ⟨v2, c2⟩ := c2
  obtain ⟨v1, c1⟩ := c1
  have F3 := fr_cast F2 (put_eq e1 rfl)
  clear F2
  obtain ⟨b, hb⟩ : ∃ b, n0.fmod 40000 - 20000 = b := ⟨_, rfl⟩
  with_reducible refine execs_cut2 (MidL g L s1 (fun m led => ∃ bt lN v0t o3' o4', m (Str.ofString "numbers") = some (.ref Dn) ∧ @LT.lt Nat _ Dn lN ∧ o3'.data = .cell (some (.int b bt)) ∧ o4'.data = .cell (some (.ref lN)) ∧
    led = [(lN, listOf #[Value.int (1948321 + 365 * (b - 1) + (8 * (b - 1)).fdiv 33 + n2.fmod 141 - 40) v0t] 0), (Dn, listOf #[Value.int n0 t0, Value.int n1 t1, Value.int n2 t2, Value.int n3 t3, Value.int n4 t4, Value.int n5 t5] 0), (L + 1 + 1 + 1 + 1, o4'), (L + 1 + 1 + 1, o3'), (L + 1 + 1, o2), (L + 1, o1), (171, tabObj #[])])) ?_ ?_
  · w_top off
    w_strict k_steps
    all_goals (dsimp only)
    subst hb
    refine MidL.intro (by k_asm) (by k_asm) ?_
    exact ⟨_, by k_subL, ⟨_, _, _, _, _, by with_unfolding_all exact rfl, by omega, by assumption, by assumption, rfl⟩⟩
  rintro s' ⟨h2, tk2, m2, led, rfl, F2, N3, bt, lN, v0t, o3', o4', e1, q2, d3, d4, rfl⟩
  have F3 := fr_cast F2 (put_eq e1 rfl)
  clear F2 c3 c4
  obtain ⟨v, hv⟩ : ∃ v, 1948321 + 365 * (b - 1) + (8 * (b - 1)).fdiv 33 + n2.fmod 141 - 40 = v := ⟨_, rfl⟩
  rw [hv] at N3
  with_reducible refine execs_cut1 (MidL g L s1 (fun m led => ∃ vs n, m (Str.ofString "numbers") = some (.ref Dn) ∧ IntsAre vs (tns v n1 11) ∧
    led = [(lN, listOf vs.toArray n), (Dn, listOf #[Value.int n0 t0, Value.int n1 t1, Value.int n2 t2, Value.int n3 t3, Value.int n4 t4, Value.int n5 t5] 0), (L + 1 + 1 + 1 + 1, o4'), (L + 1 + 1 + 1, o3'), (L + 1 + 1, o2), (L + 1, o1), (171, tabObj #[])])) ?_ ?_
  · w_top off
    w_strict k_steps
    dsimp only
    unfold Hold
    have F5 := F3
    with_unfolding_all refine iter_rangeUnr (n := 10) (by rfl) (by assumption) (by decide) (by decide) (by assumption) (by assumption) (fun I lt => range_rest (fun i m o => ∃ vs n, (∀ y, y ≠ Str.ofString "place" → m y = if y = Str.ofString "numbers" then some (.ref Dn) else m2 y) ∧ IntsAre vs (tns v n1 (i + 1)) ∧ o = listOf vs.toArray n) _ lt ?turn ?done 10 0 _ _ rfl ?h0)
    case h0 => exact ⟨_, _, fun _ _ => rfl, .cons _ _ .nil, rfl⟩
    case done =>
      rintro m o ⟨vs, n, hm, hvs, rfl⟩ h tk F N
      w_strict k_steps
      dsimp only
      refine MidL.intro F N ?_
      exact ⟨_, by k_subL, ⟨_, _, by rw [hm _ (by decide)]; exact if_pos rfl, hvs, rfl⟩⟩
    case turn =>
      rintro i m o hi ⟨vs, n, hm, hvs, rfl⟩ t h tk F N
      have F4 : Fr g L h _ := put_off hm F
      change News g L h _ at N
      clear F F5 F3
      have hp := pow_ne (0 + (i : Int)).toNat
      have hlen : vs.toArray.size ≤ sizeLine := by
        have := hvs.length
        rw [tns_len] at this
        rw [List.size_toArray, this]
        exact Nat.le_trans (by omega : i + 1 ≤ 10) (by decide)
      have l9 := lt
      k_lt l9
      w_strict k_steps
      unfold Hold
      (try dsimp only)
      refine RangeM.intro (by k_asm) (by k_asm) ?_
      have hi0 : (0 + (i : Int)).toNat = i := by omega
      refine ⟨vs ++ [_], _, fun y hy => if_neg hy, tns_app hvs ?_, by rw [List.push_toArray]⟩
      rw [hi0]
      rfl
  rintro s' ⟨h2, tk2, m2, led, rfl, F2, N4, vs, n, e1, hvs, rfl⟩
  have hN : NewsAre vs b (TT v n1 b) := news_are hvs
  have F3 := fr_cast F2 (put_eq e1 rfl)
  clear F2 hvs
  with_reducible refine execs_cut1 (MidL g L s1 (fun m led => ∃ ft fo ct oc tps o1', m (Str.ofString "numbers") = some (.ref Dn) ∧ TurnOk ww pp lo me mgg mbb (TT v n1 b) ft (fun news => ∀ q ∈ [(ft, fo), (ct, oc), (lN, listOf vs.toArray n), (L + 1 + 1 + 1 + 1, o4'), (L + 1 + 1 + 1, o3')], q ∈ news) ∧ @LT.lt Nat _ lN ct ∧ @LT.lt Nat _ ct ft ∧ o1'.data = .cell (some (.ref ft)) ∧
    led = [(ft, fo), (ct, oc), (lN, listOf vs.toArray n), (Dn, listOf #[Value.int n0 t0, Value.int n1 t1, Value.int n2 t2, Value.int n3 t3, Value.int n4 t4, Value.int n5 t5] 0), (L + 1 + 1 + 1 + 1, o4'), (L + 1 + 1 + 1, o3'), (L + 1 + 1, o2), (L + 1, o1'), (171, tabObj tps)])) ?_ ?_
  · w_top off
    w_strict k_steps
    dsimp only
    rename_i f9 c9 oc9 vs9 t9 ct9 dc9 h8 tk8 d8 d7 l8 l7 h7 o7 F7 N7 d6
    refine MidL.intro (by k_asm) (by k_asm) ?_
    refine ⟨_, by k_subL, ⟨_, _, c9, _, _, _, by with_unfolding_all exact rfl, ?TO, by first | omega | (k_dflt assumption), by first | omega | (k_dflt assumption), by assumption, rfl⟩⟩
    case TO =>
      refine ⟨fun news h => ⟨_, _, _, _, h _ (List.Mem.head _)⟩, fun q news h x hx => .tail _ (h x hx), ?_⟩
      intro gy t k hTk
      clear F7 N7 X1 K1 T2
      unfold Con
      k_fill
      intro dp un gd cn cs a ccd cl outer A₀ base h₀ L7 m news s Q E Bq Fq Xq Nq Tq hk hpre hd hu hret
      have N8 := news_both Nq hpre
      simp only [List.cons_append, List.nil_append] at N8
      clear Nq hpre
      w_on
      w_top on
      refine wpAny_call ?_
      k_dflt (refine' code_nest ?k1 ?k2 ?k3 ?k4 ?k5 ?kA ?kF ?kK ?k6 ?k7 ?k8 ?k9 ?kB ?_ ?c2 ?c3 ?c4 ?c5; (case kA => exact rfl); (case kF => exact rfl); (case kK => exact hk); (case k1 => k_asm); (case k2 => k_asm); (case k3 => k_asm); (case k4 => k_asm); (case k5 => k_asm); (case k6 => k_mem); (case k7 => exact codeRec_news (by k_asm) (by k_mem) (by assumption) (by assumption)); (case k8 => ktr_room); (case k9 => exact BindsTo.of_eq rfl); (case c5 => decide); (case kB => exact locs rfl); (case c2 => exact rfl); (case c3 => exact rfl); (case c4 => exact rfl); k_whole; intro g' L' h' FG' F' N' B' X' T'; (try dsimp only); (try k_lift B'); (try k_fold))
      have z0 := tt_zero v n1 b
      obtain ⟨z, hz⟩ : ∃ z, TT v n1 b (b + 10) = z := ⟨_, rfl⟩
      obtain ⟨y, hy⟩ : ∃ y, TT v n1 b (b + (gy - 621 - b)) = y := ⟨_, rfl⟩
      have e9 : b + (gy - 621 - b) = gy - 621 := by omega
      rw [e9] at hy
      rw [← e9] at hy
      have hyk : y - 1 = k := by rw [← hTk, ← hy, e9]
      clear N8 Fq
      by_cases p1 : gy - 621 - b < 0
      · have hk1 : v + 365 * (gy - 621 - b) - 1 = k := by
          rw [e9, TT_low (by omega)] at hy
          omega
        w_strict k_steps
        refine ret_int hret (by assumption) (news_tl (news_tl (news_tl (news_tl (news_tl (by assumption)))))) hk1
      · by_cases p2 : gy - 621 - b > 10
        · have hk1 : z + 365 * (gy - 621 - b - 10) - 1 = k := by
            rw [e9, TT_high (by omega)] at hy
            rw [TT_mid (by omega) (by omega)] at hz
            have e8 : (b + 10 - b).toNat = 10 := by omega
            rw [e8] at hz
            omega
          w_strict k_steps
          refine ret_int hret (by assumption) (news_tl (news_tl (news_tl (news_tl (news_tl (by assumption)))))) hk1
        · have h0i : 0 ≤ gy - 621 - b := by omega
          have h1i : gy - 621 - b ≤ 10 := by omega
          w_strict k_steps
          refine ret_int hret (by assumption) (news_tl (news_tl (news_tl (news_tl (news_tl (by assumption)))))) hyk
  rintro s' ⟨h2, tk2, m2, led, rfl, F2, N5, ft, fo, ct, oc, tps, o1', e1, TO, q3, q4, d1, rfl⟩
  have F3 := fr_cast F2 (put_eq e1 rfl)
  clear F2
  have R : Row b (TT v n1 b) := row_num hb hv n1
  generalize TT v n1 b = T at R TO hN
  clear hb hv
  obtain ⟨ch, hch⟩ : ∃ ch, n3.fmod 9 = ch := ⟨_, rfl⟩
  have hc0 : 0 ≤ ch ∧ ch < 9 := fmod_bd (by decide) hch
  obtain ⟨y, hy⟩ : ∃ y, b + ch = y := ⟨_, rfl⟩
  obtain ⟨Y0, hY0⟩ : ∃ z, T y = z := ⟨_, rfl⟩
  obtain ⟨Y1, hY1⟩ : ∃ z, T (y + 1) = z := ⟨_, rfl⟩
  with_reducible refine execs_cut4 (MidL g L s1 (fun m led => ∃ o2' ll p1 p2 p3 p4 p5 p6 p7 p8 p9 p10 p11 p12 ch1 ft1 bt1 yt, m (Str.ofString "numbers") = some (.ref Dn) ∧ m (Str.ofString "chosen") = some (.int ch ch1) ∧ m (Str.ofString "first") = some (.int Y0 ft1) ∧ m (Str.ofString "behind") = some (.int Y1 bt1) ∧ m (Str.ofString "lengths") = some (.ref ll) ∧ @LT.lt Nat _ ft ll ∧ o2'.data = .cell (some (.int y yt)) ∧
    led = [(ll, listOf #[Value.int 31 p1, Value.int 31 p2, Value.int 31 p3, Value.int 31 p4, Value.int 31 p5, Value.int 31 p6, Value.int 30 p7, Value.int 30 p8, Value.int 30 p9, Value.int 30 p10, Value.int 30 p11, Value.int (Y1 - Y0 - 336) p12] 0), (ft, fo), (ct, oc), (lN, listOf vs.toArray n), (Dn, listOf #[Value.int n0 t0, Value.int n1 t1, Value.int n2 t2, Value.int n3 t3, Value.int n4 t4, Value.int n5 t5] 0), (L + 1 + 1 + 1 + 1, o4'), (L + 1 + 1 + 1, o3'), (L + 1 + 1, o2'), (L + 1, o1'), (171, tabObj tps)])) ?_ ?_
  · w_top off
    have z0 : T (b + n3.fmod 9) = Y0 := by rw [hch, hy]; exact hY0
    have z1 : T (b + (n3.fmod 9 + 1)) = Y1 := by rw [hch, ← Int.add_assoc, hy]; exact hY1
    have z2 : 0 ≤ n3.fmod 9 ∧ n3.fmod 9 + 1 ≤ 10 := by omega
    have z3 : 0 ≤ n3.fmod 9 + 1 := by omega
    have z4 := z2.1
    have z5 := z2.2
    have z6 : n3.fmod 9 ≤ 10 := by omega
    w_strict k_steps
    dsimp only
    subst hy
    subst hch
    refine MidL.intro (by k_asm) (by k_asm) ?_
    exact ⟨_, by k_subL, ⟨_, _, _, _, _, _, _, _, _, _, _, _, _, _, _, _, _, _, by with_unfolding_all exact rfl, by with_unfolding_all exact rfl, by with_unfolding_all exact rfl, by with_unfolding_all exact rfl, by with_unfolding_all exact rfl, by omega, by k_dflt assumption, rfl⟩⟩
  rintro s' ⟨h2, tk2, m2, led, rfl, F2, N6, o2', ll, u1, u2, u3, u4, u5, u6, u7, u8, u9, u10, u11, u12, ch1, ft1, bt1, yt, e1, e2, e3, e4, e5, q5, d2, rfl⟩
  have F3 := fr_cast F2 (put_eq e1 (put_eq e2 (put_eq e3 (put_eq e4 (put_eq e5 rfl)))))
  clear F2
  have hyb : b ≤ y ∧ y ≤ b + 10 := by omega
  have hstep := R.step y
  rw [hY0, hY1] at hstep
  obtain ⟨lb, hlb⟩ : ∃ lb, decide (T (y + 1) - T y = 366) = lb := ⟨_, rfl⟩
  with_reducible refine execs_cut1 (MidL g L s1 (fun m led => ∃ ch1 ft1 bt1, m (Str.ofString "numbers") = some (.ref Dn) ∧ m (Str.ofString "chosen") = some (.int ch ch1) ∧ m (Str.ofString "first") = some (.int Y0 ft1) ∧ m (Str.ofString "behind") = some (.int Y1 bt1) ∧ m (Str.ofString "lengths") = some (.ref ll) ∧
    led = [(ll, listOf #[Value.int 31 u1, Value.int 31 u2, Value.int 31 u3, Value.int 31 u4, Value.int 31 u5, Value.int 31 u6, Value.int 30 u7, Value.int 30 u8, Value.int 30 u9, Value.int 30 u10, Value.int 30 u11, Value.int (Y1 - Y0 - 336) u12] 0), (ft, fo), (ct, oc), (lN, listOf vs.toArray n), (Dn, listOf #[Value.int n0 t0, Value.int n1 t1, Value.int n2 t2, Value.int n3 t3, Value.int n4 t4, Value.int n5 t5] 0), (L + 1 + 1 + 1 + 1, o4'), (L + 1 + 1 + 1, o3'), (L + 1 + 1, o2'), (L + 1, o1'), (171, tabObj tps)])) ?_ ?_
  · w_top off
    w_strict k_steps
    unfold Hold
    dsimp only
    k_dflt (refine LCg.CompSrc.range (n := 12) (by rfl) (by k_asm) (by k_asm) (by assumption) (by decide) (by rfl) (by first | exact Nat.le_of_ble_eq_true rfl | size_fits) ?_)
    intro g9
    refine kcf_range (fun k => plen k lb) ?turn ?fin
    case turn =>
      intro k' t' I' oI' C' oC' D' m' ys' h' tk' E' hlo' hhi' hC' hx' F' N' off' ne' hMark'
      simp only [LCg.Off3, and_true] at off'
      have hk1 : 1 ≤ k' ∧ k' ≤ 12 := by omega
      (try k_fold)
      w_strict k_steps
    case fin =>
      unfold KPfDone
      intro ys hys
      have hpl : List.map (fun k => plen k lb) (rangeKs 1 12) = [31, 31, 31, 31, 31, 31, 30, 30, 30, 30, 30, Y1 - Y0 - 336] := plens (by rw [← hlb, hY0, hY1]) hstep
      w_strict k_steps
      · dsimp only
        refine MidL.intro (by k_asm) (by k_asm) ?_
        exact ⟨_, by k_subL, ⟨_, _, _, by with_unfolding_all exact rfl, by with_unfolding_all exact rfl, by with_unfolding_all exact rfl, by with_unfolding_all exact rfl, by with_unfolding_all exact rfl, rfl⟩⟩
  rintro s' ⟨h2, tk2, m2, led, rfl, F2, N7, ch1, ft1, bt1, e1, e2, e3, e4, e5, rfl⟩
  have F3 := fr_cast F2 (put_eq e1 (put_eq e2 (put_eq e3 (put_eq e4 (put_eq e5 rfl)))))
  clear F2
  obtain ⟨Y2, hY2⟩ : ∃ z, T (y + 1 + 1) = z := ⟨_, rfl⟩
  with_reducible refine execs_cut1 (MidL g L s1 (fun m led => ∃ ch1 ft1 bt1, m (Str.ofString "numbers") = some (.ref Dn) ∧ m (Str.ofString "chosen") = some (.int ch ch1) ∧ m (Str.ofString "first") = some (.int Y0 ft1) ∧ m (Str.ofString "behind") = some (.int Y1 bt1) ∧ m (Str.ofString "lengths") = some (.ref ll) ∧
    led = [(ll, listOf #[Value.int 31 u1, Value.int 31 u2, Value.int 31 u3, Value.int 31 u4, Value.int 31 u5, Value.int 31 u6, Value.int 30 u7, Value.int 30 u8, Value.int 30 u9, Value.int 30 u10, Value.int 30 u11, Value.int (Y1 - Y0 - 336) u12] 0), (ft, fo), (ct, oc), (lN, listOf vs.toArray n), (Dn, listOf #[Value.int n0 t0, Value.int n1 t1, Value.int n2 t2, Value.int n3 t3, Value.int n4 t4, Value.int n5 t5] 0), (L + 1 + 1 + 1 + 1, o4'), (L + 1 + 1 + 1, o3'), (L + 1 + 1, o2'), (L + 1, o1'), (171, tabObj tps)])) ?_ ?_
  · w_top off
    have z0 : T (b + (ch + 2)) = Y2 := by rw [← hY2, ← hy]; congr 1; omega
    have z1 : 0 ≤ ch + 2 := by omega
    have z2 : ch + 2 ≤ 10 := by omega
    have z3 : b ≤ y + 1 ∧ y + 1 ≤ b + 10 := by omega
    by_cases h2 : Y2 - Y1 = 366
    · have z4 : decide (T (y + 1 + 1) - T (y + 1) = 366) = true := by rw [hY2, hY1]; exact decide_eq_true h2
      w_strict k_steps
      all_goals (dsimp only)
      refine MidL.intro (by k_asm) (by k_asm) ?_
      exact ⟨_, by k_subL, ⟨_, _, _, by with_unfolding_all exact rfl, by with_unfolding_all exact rfl, by with_unfolding_all exact rfl, by with_unfolding_all exact rfl, by with_unfolding_all exact rfl, rfl⟩⟩
    · have z4 : decide (T (y + 1 + 1) - T (y + 1) = 366) = false := by rw [hY2, hY1]; exact decide_eq_false h2
      w_strict k_steps
      all_goals (dsimp only)
      refine MidL.intro (by k_asm) (by k_asm) ?_
      exact ⟨_, by k_subL, ⟨_, _, _, by with_unfolding_all exact rfl, by with_unfolding_all exact rfl, by with_unfolding_all exact rfl, by with_unfolding_all exact rfl, by with_unfolding_all exact rfl, rfl⟩⟩
  rintro s' ⟨h2, tk2, m2, led, rfl, F2, N8, ch1, ft1, bt1, e1, e2, e3, e4, e5, rfl⟩
  have F3 := fr_cast F2 (put_eq e1 (put_eq e2 (put_eq e3 (put_eq e4 (put_eq e5 rfl)))))
  clear F2
  have hy11 : b ≤ y ∧ y ≤ b + 11 := by omega
  have hy12 : b ≤ y + 1 ∧ y + 1 ≤ b + 11 := by omega
  have sm0 := R.small y (by omega)
  have sm1 := R.small (y + 1) (by omega)
  rw [hY0] at sm0
  rw [hY1] at sm1
  with_reducible refine execs_cut1 (MidL g L s1 (fun m led => ∃ ch1 ft1 bt1, m (Str.ofString "numbers") = some (.ref Dn) ∧ m (Str.ofString "chosen") = some (.int ch ch1) ∧ m (Str.ofString "first") = some (.int Y0 ft1) ∧ m (Str.ofString "behind") = some (.int Y1 bt1) ∧ m (Str.ofString "lengths") = some (.ref ll) ∧
    led = [(ll, listOf #[Value.int 31 u1, Value.int 31 u2, Value.int 31 u3, Value.int 31 u4, Value.int 31 u5, Value.int 31 u6, Value.int 30 u7, Value.int 30 u8, Value.int 30 u9, Value.int 30 u10, Value.int 30 u11, Value.int (Y1 - Y0 - 336) u12] 0), (ft, fo), (ct, oc), (lN, listOf vs.toArray n), (Dn, listOf #[Value.int n0 t0, Value.int n1 t1, Value.int n2 t2, Value.int n3 t3, Value.int n4 t4, Value.int n5 t5] 0), (L + 1 + 1 + 1 + 1, o4'), (L + 1 + 1 + 1, o3'), (L + 1 + 1, o2'), (L + 1, o1'), (171, tabObj tps)])) ?_ ?_
  · w_top off
    obtain ⟨K0, hK0⟩ : ∃ z, 2 * Y0 - 1 = z := ⟨_, rfl⟩
    obtain ⟨K1, hK1⟩ : ∃ z, 2 * (Y1 - 1) - 1 = z := ⟨_, rfl⟩
    obtain ⟨K2, hK2⟩ : ∃ z, 2 * Y1 - 1 = z := ⟨_, rfl⟩
    have D0 := pd_first R hy11 hY0 hK0
    have D1 := pd_last R hy11 hY0 hY1 hK1
    have D2 := pd_first R hy12 hY1 hK2
    have A0 := pd_at R D0
    have A1 := pd_at R D1
    have A2 := pd_at R D2
    have j0 : 2 * (T y - 2 + poff 1 + 1) + 1 = K0 := by rw [hY0, ← hK0]; show 2 * (Y0 - 2 + 0 + 1) + 1 = _; omega
    have j1 : 2 * (T y - 2 + poff 12 + (Y1 - Y0 - 336)) + 1 = K1 := by rw [hY0, ← hK1]; show 2 * (Y0 - 2 + 336 + (Y1 - Y0 - 336)) + 1 = _; omega
    have j2 : 2 * (T (y + 1) - 2 + poff 1 + 1) + 1 = K2 := by rw [hY1, ← hK2]; show 2 * (Y1 - 2 + 0 + 1) + 1 = _; omega
    have ee0 : y = y := rfl
    have ee1 : y + 1 = y + 1 := rfl
    have z0 : T y - 2 = Y0 - 2 := by rw [hY0]
    have z1 : T (y + 1) - 2 = Y1 - 2 := by rw [hY1]
    have j3 : 0 ≤ Y1 - Y0 - 336 ∧ Y1 - Y0 - 336 ≤ 400 := by omega
    have b0 : (2 * Y0 - 1).natAbs ≤ 1073741824 := by omega
    have b1 : (2 * (Y1 - 1) - 1).natAbs ≤ 1073741824 := by omega
    have b2 : (2 * Y1 - 1).natAbs ≤ 1073741824 := by omega
    have b3 : K0.natAbs ≤ 1073741824 := by omega
    have b4 : K1.natAbs ≤ 1073741824 := by omega
    have b5 : K2.natAbs ≤ 1073741824 := by omega
    w_strict k_steps
    dsimp only
    refine MidL.intro (by k_asm) (by k_asm) ?_
    exact ⟨_, by k_subL, ⟨_, _, _, by with_unfolding_all exact rfl, by with_unfolding_all exact rfl, by with_unfolding_all exact rfl, by with_unfolding_all exact rfl, by with_unfolding_all exact rfl, rfl⟩⟩
  rintro s' ⟨h2, tk2, m2, led, rfl, F2, N9, ch1, ft1, bt1, e1, e2, e3, e4, e5, rfl⟩
  have F3 := fr_cast F2 (put_eq e1 (put_eq e2 (put_eq e3 (put_eq e4 (put_eq e5 rfl)))))
  clear F2
  obtain ⟨Tb, hTb⟩ : ∃ z, T b = z := ⟨_, rfl⟩
  obtain ⟨T10, hT10⟩ : ∃ z, T (b + 10) = z := ⟨_, rfl⟩
  have near := R.near (b + 10)
  rw [hTb, hT10] at near
  have near1 : 0 < T10 - Tb := by omega
  obtain ⟨dy, hdy⟩ : ∃ z, Tb + n4.fmod (T10 - Tb) = z := ⟨_, rfl⟩
  have dyb : Tb ≤ dy ∧ dy < T10 := by
    have := fmod_bd near1 (rfl : n4.fmod (T10 - Tb) = _)
    omega
  with_reducible refine execs_cut2 (MidL g L s1 (fun m led => ∃ (ft1 d1 d2 : Tok), m (Str.ofString "numbers") = some (.ref Dn) ∧ m (Str.ofString "first") = some (.int Y0 ft1) ∧ m (Str.ofString "lengths") = some (.ref ll) ∧ m (Str.ofString "day") = some (.int dy d1) ∧ m (Str.ofString "one") = some (.int 0 d2) ∧
    led = [(ll, listOf #[Value.int 31 u1, Value.int 31 u2, Value.int 31 u3, Value.int 31 u4, Value.int 31 u5, Value.int 31 u6, Value.int 30 u7, Value.int 30 u8, Value.int 30 u9, Value.int 30 u10, Value.int 30 u11, Value.int (Y1 - Y0 - 336) u12] 0), (ft, fo), (ct, oc), (lN, listOf vs.toArray n), (Dn, listOf #[Value.int n0 t0, Value.int n1 t1, Value.int n2 t2, Value.int n3 t3, Value.int n4 t4, Value.int n5 t5] 0), (L + 1 + 1 + 1 + 1, o4'), (L + 1 + 1 + 1, o3'), (L + 1 + 1, o2'), (L + 1, o1'), (171, tabObj tps)])) ?_ ?_
  · w_top off
    have z0 : T (b + 0) = Tb := by rw [Int.add_zero]; exact hTb
    have z1 : T10 - Tb ≠ 0 := by omega
    w_strict k_steps
    dsimp only
    subst hdy
    refine MidL.intro (by k_asm) (by k_asm) ?_
    exact ⟨_, by k_subL, ⟨_, _, _, by with_unfolding_all exact rfl, by with_unfolding_all exact rfl, by with_unfolding_all exact rfl, by with_unfolding_all exact rfl, by with_unfolding_all exact rfl, rfl⟩⟩
  rintro s' ⟨h2, tk2, m2, led, rfl, F2, N10, ft1, w1, w2, e1, e2, e3, e4, e5, rfl⟩
  have F3 := fr_cast F2 (put_eq e5 (put_eq e1 (put_eq e2 (put_eq e3 (put_eq e4 rfl)))))
  clear F2
  with_reducible refine execs_cut1 (MidL g L s1 (fun m led => ∃ (ft1 : Tok) (i : Int) (d1 d2 : Tok), m (Str.ofString "numbers") = some (.ref Dn) ∧ m (Str.ofString "first") = some (.int Y0 ft1) ∧ m (Str.ofString "lengths") = some (.ref ll) ∧ m (Str.ofString "day") = some (.int dy d1) ∧ m (Str.ofString "one") = some (.int i d2) ∧ OneF T b i dy ∧
    led = [(ll, listOf #[Value.int 31 u1, Value.int 31 u2, Value.int 31 u3, Value.int 31 u4, Value.int 31 u5, Value.int 31 u6, Value.int 30 u7, Value.int 30 u8, Value.int 30 u9, Value.int 30 u10, Value.int 30 u11, Value.int (Y1 - Y0 - 336) u12] 0), (ft, fo), (ct, oc), (lN, listOf vs.toArray n), (Dn, listOf #[Value.int n0 t0, Value.int n1 t1, Value.int n2 t2, Value.int n3 t3, Value.int n4 t4, Value.int n5 t5] 0), (L + 1 + 1 + 1 + 1, o4'), (L + 1 + 1 + 1, o3'), (L + 1 + 1, o2'), (L + 1, o1'), (171, tabObj tps)])) ?_ ?_
  · w_top off
    w_strict k_steps
    unfold Hold
    (try dsimp only)
    refine whl_ind (by with_unfolding_all passes_own) (fun k s => ∃ h tk, ∃ m : Str → Option Value, ∃ i d2, s = { s1 with heap := h, toks := tk } ∧ Fr g L h (fun y => if y = Str.ofString "one" then some (Value.int i d2) else if y = Str.ofString "numbers" then some (Value.ref Dn) else if y = Str.ofString "first" then some (Value.int Y0 ft1) else if y = Str.ofString "lengths" then some (Value.ref ll) else if y = Str.ofString "day" then some (Value.int dy w1) else m y) ∧ News g L h
      [(ll, listOf #[Value.int 31 u1, Value.int 31 u2, Value.int 31 u3, Value.int 31 u4, Value.int 31 u5, Value.int 31 u6, Value.int 30 u7, Value.int 30 u8, Value.int 30 u9, Value.int 30 u10, Value.int 30 u11, Value.int (Y1 - Y0 - 336) u12] 0), (ft, fo), (ct, oc), (lN, listOf vs.toArray n), (Dn, listOf #[Value.int n0 t0, Value.int n1 t1, Value.int n2 t2, Value.int n3 t3, Value.int n4 t4, Value.int n5 t5] 0), (L + 1 + 1 + 1 + 1, o4'), (L + 1 + 1 + 1, o3'), (L + 1 + 1, o2'), (L + 1, o1'), (171, tabObj tps)] ∧ (0 ≤ i ∧ i ≤ 9) ∧ T (b + i) ≤ dy ∧ i + (k : Int) = 9) ?turn 9 _ ?start
    case start =>
      exact ⟨_, _, m2, 0, _, rfl, by k_asm, by k_asm, by omega, by rw [Int.add_zero, hTb]; exact dyb.1, by omega⟩
    case turn =>
      rintro k s ⟨h, tk, m, i, d2, rfl, F, N, hi, hle, hk⟩ ih
      obtain ⟨Ti, hTi⟩ : ∃ z, T (b + (i + 1)) = z := ⟨_, rfl⟩
      by_cases hlt : Ti ≤ dy
      · have hi1 : 0 ≤ i + 1 := by omega
        have hi2 : i + 1 ≤ 10 := by omega
        refine whl_turn (k := 0) (by with_unfolding_all passes_own) ?_
        have hi8 : i ≠ 9 := by
          intro q
          subst q
          have : T (b + (9 + 1)) = T10 := hT10
          omega
        have hi4 : (0 ≤ i + 1 ∧ i + 1 ≤ 9) ∧ i + 1 + ((k - 1 : Nat) : Int) = 9 ∧ k - 1 < k := by omega
        w_strict k_steps
        unfold Hold
        exact ih (k - 1) _ hi4.2.2 ⟨_, _, m, i + 1, _, rfl, fr_over (by k_asm), by k_asm, hi4.1, by rw [hTi]; exact hlt, hi4.2.1⟩
      · have hi1 : 0 ≤ i + 1 := by omega
        have hi2 : i + 1 ≤ 10 := by omega
        refine whl_turn (k := 0) (by with_unfolding_all passes_own) ?_
        w_strict k_steps
        dsimp only
        refine MidL.intro (by k_asm) (by k_asm) ?_
        exact ⟨_, by k_subL, ⟨_, i, _, _, by with_unfolding_all exact rfl, by with_unfolding_all exact rfl, by with_unfolding_all exact rfl, by with_unfolding_all exact rfl, by with_unfolding_all exact rfl, ⟨hi, hle, by omega⟩, rfl⟩⟩
  rintro s' ⟨h2, tk2, m2, led, rfl, F2, N11, ft1, i, w1, w2, e1, e2, e3, e4, e5, ⟨hi9, hlo, hhi⟩, rfl⟩
  have F3 := fr_cast F2 (put_eq e1 (put_eq e2 (put_eq e3 (put_eq e4 (put_eq e5 rfl)))))
  clear F2
  obtain ⟨Ti, hTi⟩ : ∃ z, T (b + i) = z := ⟨_, rfl⟩
  have hi11 : b ≤ b + i ∧ b + i ≤ b + 11 := by omega
  have hsti := R.step (b + i)
  rw [Int.add_assoc b i 1] at hsti
  rw [hTi] at hlo hsti
  have hyd : 0 ≤ dy - Ti ∧ dy - Ti ≤ 365 := by omega
  clear hsti near near1
  with_reducible refine execs_cut2 (MidL g L s1 (fun m led => ∃ (ft1 d1 d2 d3 d4 : Tok), m (Str.ofString "numbers") = some (.ref Dn) ∧ m (Str.ofString "first") = some (.int Y0 ft1) ∧ m (Str.ofString "lengths") = some (.ref ll) ∧ m (Str.ofString "day") = some (.int dy d1) ∧ m (Str.ofString "one") = some (.int i d2) ∧ m (Str.ofString "rest") = some (.int (dy - Ti) d3) ∧ m (Str.ofString "month") = some (.int 1 d4) ∧
    led = [(ll, listOf #[Value.int 31 u1, Value.int 31 u2, Value.int 31 u3, Value.int 31 u4, Value.int 31 u5, Value.int 31 u6, Value.int 30 u7, Value.int 30 u8, Value.int 30 u9, Value.int 30 u10, Value.int 30 u11, Value.int (Y1 - Y0 - 336) u12] 0), (ft, fo), (ct, oc), (lN, listOf vs.toArray n), (Dn, listOf #[Value.int n0 t0, Value.int n1 t1, Value.int n2 t2, Value.int n3 t3, Value.int n4 t4, Value.int n5 t5] 0), (L + 1 + 1 + 1 + 1, o4'), (L + 1 + 1 + 1, o3'), (L + 1 + 1, o2'), (L + 1, o1'), (171, tabObj tps)])) ?_ ?_
  · w_top off
    have hi1 : 0 ≤ i := hi9.1
    have hi2 : i ≤ 10 := by omega
    w_strict k_steps
    dsimp only
    refine MidL.intro (by k_asm) (by k_asm) ?_
    exact ⟨_, by k_subL, ⟨_, _, _, _, _, by with_unfolding_all exact rfl, by with_unfolding_all exact rfl, by with_unfolding_all exact rfl, by with_unfolding_all exact rfl, by with_unfolding_all exact rfl, by with_unfolding_all exact rfl, by with_unfolding_all exact rfl, rfl⟩⟩
  rintro s' ⟨h2, tk2, m2, led, rfl, F2, N12, ft1, w1, w2, w3, w4, e1, e2, e3, e4, e5, e6, e7, rfl⟩
  have F3 := fr_cast F2 (put_eq e1 (put_eq e2 (put_eq e3 (put_eq e4 (put_eq e5 (put_eq e6 (put_eq e7 rfl)))))))
  clear F2
  with_reducible refine execs_cut1 (MidL g L s1 (fun m led => ∃ (ft1 : Tok) (mo rs : Int) (d1 d2 d3 d4 : Tok), m (Str.ofString "numbers") = some (.ref Dn) ∧ m (Str.ofString "first") = some (.int Y0 ft1) ∧ m (Str.ofString "lengths") = some (.ref ll) ∧ m (Str.ofString "day") = some (.int dy d1) ∧ m (Str.ofString "one") = some (.int i d2) ∧ m (Str.ofString "rest") = some (.int rs d3) ∧ m (Str.ofString "month") = some (.int mo d4) ∧ DateF mo rs (dy - Ti) ∧
    led = [(ll, listOf #[Value.int 31 u1, Value.int 31 u2, Value.int 31 u3, Value.int 31 u4, Value.int 31 u5, Value.int 31 u6, Value.int 30 u7, Value.int 30 u8, Value.int 30 u9, Value.int 30 u10, Value.int 30 u11, Value.int (Y1 - Y0 - 336) u12] 0), (ft, fo), (ct, oc), (lN, listOf vs.toArray n), (Dn, listOf #[Value.int n0 t0, Value.int n1 t1, Value.int n2 t2, Value.int n3 t3, Value.int n4 t4, Value.int n5 t5] 0), (L + 1 + 1 + 1 + 1, o4'), (L + 1 + 1 + 1, o3'), (L + 1 + 1, o2'), (L + 1, o1'), (171, tabObj tps)])) ?_ ?_
  · w_top off
    w_strict k_steps
    unfold Hold
    (try dsimp only)
    refine list_loop (fun l m => ∃ (f : Nat) (mo rs : Int) (d3 d4 : Tok), (m (Str.ofString "numbers") = some (.ref Dn) ∧ m (Str.ofString "first") = some (.int Y0 ft1) ∧ m (Str.ofString "lengths") = some (.ref ll) ∧ m (Str.ofString "day") = some (.int dy w1) ∧ m (Str.ofString "one") = some (.int i w2) ∧ m (Str.ofString "rest") = some (.int rs d3) ∧ m (Str.ofString "month") = some (.int mo d4)) ∧
      IntsAre l (prest mo f) ∧ (1 ≤ mo ∧ mo + (f : Int) = 12) ∧ 0 ≤ rs ∧ poff mo + rs = dy - Ti) rfl (by k_asm) (by k_asm) (by k_mem) rfl rfl ?_ ?_ ?_
    · refine ⟨11, 1, dy - Ti, _, _, ⟨by with_unfolding_all exact rfl, by with_unfolding_all exact rfl, by with_unfolding_all exact rfl, by with_unfolding_all exact rfl, by with_unfolding_all exact rfl, by with_unfolding_all exact rfl, by with_unfolding_all exact rfl⟩, ?_, by decide, hyd.1, by show 0 + _ = _; omega⟩
      have hm12 := prest_all
      generalize prest 1 11 = ms at hm12
      subst hm12
      exact .cons _ _ (.cons _ _ (.cons _ _ (.cons _ _ (.cons _ _ (.cons _ _ (.cons _ _ (.cons _ _ (.cons _ _ (.cons _ _ (.cons _ _ .nil))))))))))
    · rintro I v r m ⟨f, mo, rs, d3, d4, ⟨e1, e2, e3, e4, e5, e6, e7⟩, hi, hmo, hrs, hn⟩ it h tk hc F N
      cases f with
      | zero => exact absurd hi (fun q => ints_nil q)
      | succ f =>
        obtain ⟨t9, rfl, hi2⟩ := ints_cons hi
        have F4 : Fr g L h _ := fr_putc F (put_eq e1 (put_eq e2 (put_eq e3 (put_eq e4 (put_eq e5 (put_eq e6 (put_eq e7 rfl)))))))
        change News g L h _ at N
        clear F
        have hmf : (1 ≤ mo ∧ mo ≤ 11) ∧ (1 ≤ mo + 1 ∧ mo + 1 + (f : Int) = 12) := by omega
        have hps := poff_succ mo hmf.1
        by_cases hlt : rs < plen mo false
        · w_strict k_steps
          (try dsimp only)
          refine MidL.intro (by k_asm) (by k_asm) ?_
          exact ⟨_, by k_subL, ⟨_, mo, rs, _, _, _, _, by with_unfolding_all exact rfl, by with_unfolding_all exact rfl, by with_unfolding_all exact rfl, by with_unfolding_all exact rfl, by with_unfolding_all exact rfl, by with_unfolding_all exact rfl, by with_unfolding_all exact rfl, ⟨by omega, hrs, hn, fun _ => hlt⟩, rfl⟩⟩
        · have hrs2 : 0 ≤ rs - plen mo false ∧ poff (mo + 1) + (rs - plen mo false) = dy - Ti := by omega
          w_strict k_steps
          unfold Hold
          (try dsimp only)
          refine Mid.intro (by k_asm) (by k_asm) ?_
          exact ⟨f, mo + 1, rs - plen mo false, _, _, ⟨by with_unfolding_all exact rfl, by with_unfolding_all exact rfl, by with_unfolding_all exact rfl, by with_unfolding_all exact rfl, by with_unfolding_all exact rfl, by with_unfolding_all exact rfl, by with_unfolding_all exact rfl⟩, hi2, hmf.2, hrs2.1, hrs2.2⟩
    · rintro m ⟨f, mo, rs, d3, d4, ⟨e1, e2, e3, e4, e5, e6, e7⟩, hi, hmo, hrs, hn⟩ h tk F N
      have hf : f = 0 := by
        cases f with
        | zero => rfl
        | succ f => cases hi
      subst hf
      have F4 : Fr g L h _ := F
      change News g L h _ at N
      w_strict k_steps
      (try dsimp only)
      refine MidL.intro F4 N ?_
      exact ⟨_, by k_subL, ⟨_, mo, rs, _, _, _, _, e1, e2, e3, e4, e5, e6, e7, ⟨by omega, hrs, hn, fun q => by omega⟩, rfl⟩⟩
  rintro s' ⟨h2, tk2, m2, led, rfl, F2, N13, ft1, mo, rs, w1, w2, w3, w4, e1, e2, e3, e4, e5, e6, e7, ⟨hmo, hrs, hpo, hml⟩, rfl⟩
  have F3 := fr_cast F2 (put_eq e1 (put_eq e2 (put_eq e3 (put_eq e4 (put_eq e5 (put_eq e6 (put_eq e7 rfl)))))))
  clear F2
  obtain ⟨K, hK⟩ : ∃ z, 2 * dy - 1 = z := ⟨_, rfl⟩
  have DD : Pd b T K dy (b + i) mo (rs + 1) := pd_any (by omega) ⟨by rw [hTi]; exact hlo, by rw [Int.add_assoc]; exact hhi⟩ hK hTi hyd.2 hmo hrs hpo hml
  have smi := R.small (b + i) (by omega)
  rw [hTi] at smi
  have dsm : -6000000 ≤ dy ∧ dy ≤ 10000400 := by omega
  have j0 : 2 * (T (b + i) - 2 + poff mo + (rs + 1)) + 1 = K := by rw [hTi, ← hK]; omega
  have j3 : 0 ≤ rs + 1 ∧ rs + 1 ≤ 400 := by
    have : 0 ≤ poff mo := by
      unfold poff
      split <;> omega
    omega
  clear smi hyd
  with_reducible refine execs_cut1 (MidL g L s1 (fun m led => ∃ (ft1 : Tok) (da : Addr) (d1 q1 q2 q3 : Tok), m (Str.ofString "numbers") = some (.ref Dn) ∧ m (Str.ofString "first") = some (.int Y0 ft1) ∧ m (Str.ofString "lengths") = some (.ref ll) ∧ m (Str.ofString "day") = some (.int dy d1) ∧ m (Str.ofString "date") = some (.ref da) ∧ @LT.lt Nat _ ll da ∧
    led = [(da, tup3 (b + i) mo (rs + 1) q1 q2 q3), (ll, listOf #[Value.int 31 u1, Value.int 31 u2, Value.int 31 u3, Value.int 31 u4, Value.int 31 u5, Value.int 31 u6, Value.int 30 u7, Value.int 30 u8, Value.int 30 u9, Value.int 30 u10, Value.int 30 u11, Value.int (Y1 - Y0 - 336) u12] 0), (ft, fo), (ct, oc), (lN, listOf vs.toArray n), (Dn, listOf #[Value.int n0 t0, Value.int n1 t1, Value.int n2 t2, Value.int n3 t3, Value.int n4 t4, Value.int n5 t5] 0), (L + 1 + 1 + 1 + 1, o4'), (L + 1 + 1 + 1, o3'), (L + 1 + 1, o2'), (L + 1, o1'), (171, tabObj tps)])) ?_ ?_
  · w_top off
    w_strict k_steps
    (try dsimp only)
    refine MidL.intro (by k_asm) (by k_asm) ?_
    exact ⟨_, by k_subL, ⟨_, _, _, _, _, _, by with_unfolding_all exact rfl, by with_unfolding_all exact rfl, by with_unfolding_all exact rfl, by with_unfolding_all exact rfl, by with_unfolding_all exact rfl, by omega, rfl⟩⟩
  rintro s' ⟨h2, tk2, m2, led, rfl, F2, N14, ft1, da, w1, q1, q2, q3, e1, e2, e3, e4, e5, l14, rfl⟩
  have F3 := fr_cast F2 (put_eq e1 (put_eq e2 (put_eq e3 (put_eq e4 (put_eq e5 rfl)))))
  clear F2
  with_reducible refine execs_cut1 (MidL g L s1 (fun m led => ∃ (ft1 : Tok) (d1 : Tok), m (Str.ofString "numbers") = some (.ref Dn) ∧ m (Str.ofString "first") = some (.int Y0 ft1) ∧ m (Str.ofString "lengths") = some (.ref ll) ∧ m (Str.ofString "day") = some (.int dy d1) ∧ m (Str.ofString "date") = some (.ref da) ∧
    led = [(da, tup3 (b + i) mo (rs + 1) q1 q2 q3), (ll, listOf #[Value.int 31 u1, Value.int 31 u2, Value.int 31 u3, Value.int 31 u4, Value.int 31 u5, Value.int 31 u6, Value.int 30 u7, Value.int 30 u8, Value.int 30 u9, Value.int 30 u10, Value.int 30 u11, Value.int (Y1 - Y0 - 336) u12] 0), (ft, fo), (ct, oc), (lN, listOf vs.toArray n), (Dn, listOf #[Value.int n0 t0, Value.int n1 t1, Value.int n2 t2, Value.int n3 t3, Value.int n4 t4, Value.int n5 t5] 0), (L + 1 + 1 + 1 + 1, o4'), (L + 1 + 1 + 1, o3'), (L + 1 + 1, o2'), (L + 1, o1'), (171, tabObj tps)])) ?_ ?_
  · w_top off
    have b0 : (2 * dy - 1).natAbs ≤ 1073741824 := by omega
    have b1 : K.natAbs ≤ 1073741824 := by omega
    w_strict k_steps
    (try dsimp only)
    refine MidL.intro (by k_asm) (by k_asm) ?_
    exact ⟨_, by k_subL, ⟨_, _, by with_unfolding_all exact rfl, by with_unfolding_all exact rfl, by with_unfolding_all exact rfl, by with_unfolding_all exact rfl, by with_unfolding_all exact rfl, rfl⟩⟩
  rintro s' ⟨h2, tk2, m2, led, rfl, F2, N15, ft1, w1, e1, e2, e3, e4, e5, rfl⟩
  have F3 := fr_cast F2 (put_eq e1 (put_eq e2 (put_eq e3 (put_eq e4 (put_eq e5 rfl)))))
  clear F2
  obtain ⟨hgy, hgm, hgd, hGD⟩ := date_exists dy
  with_reducible refine execs_cut1 (MidL g L s1 (fun m led => ∃ (ft1 : Tok) (d1 : Tok) (th : Addr) (gy gm gd : Int) (q4 q5 q6 : Tok), m (Str.ofString "numbers") = some (.ref Dn) ∧ m (Str.ofString "first") = some (.int Y0 ft1) ∧ m (Str.ofString "lengths") = some (.ref ll) ∧ m (Str.ofString "day") = some (.int dy d1) ∧ m (Str.ofString "date") = some (.ref da) ∧ m (Str.ofString "there") = some (.ref th) ∧ IsDate dy gy gm gd ∧
    led = [(th, tup3 gy gm gd q4 q5 q6), (da, tup3 (b + i) mo (rs + 1) q1 q2 q3), (ll, listOf #[Value.int 31 u1, Value.int 31 u2, Value.int 31 u3, Value.int 31 u4, Value.int 31 u5, Value.int 31 u6, Value.int 30 u7, Value.int 30 u8, Value.int 30 u9, Value.int 30 u10, Value.int 30 u11, Value.int (Y1 - Y0 - 336) u12] 0), (ft, fo), (ct, oc), (lN, listOf vs.toArray n), (Dn, listOf #[Value.int n0 t0, Value.int n1 t1, Value.int n2 t2, Value.int n3 t3, Value.int n4 t4, Value.int n5 t5] 0), (L + 1 + 1 + 1 + 1, o4'), (L + 1 + 1 + 1, o3'), (L + 1 + 1, o2'), (L + 1, o1'), (171, tabObj tps)])) ?_ ?_
  · w_top off
    have b0 : -12000000 ≤ dy ∧ dy ≤ 16000000 := by omega
    w_strict k_steps
    (try dsimp only)
    refine MidL.intro (by k_asm) (by k_asm) ?_
    exact ⟨_, by k_subL, ⟨_, _, _, _, _, _, _, _, _, by with_unfolding_all exact rfl, by with_unfolding_all exact rfl, by with_unfolding_all exact rfl, by with_unfolding_all exact rfl, by with_unfolding_all exact rfl, by with_unfolding_all exact rfl, by assumption, rfl⟩⟩
  rintro s' ⟨h2, tk2, m2, led, rfl, F2, N16, ft1, w1, th, gy, gm, gd, q4, q5, q6, e1, e2, e3, e4, e5, e6, hG, rfl⟩
  clear hGD
  have F3 := fr_cast F2 (put_eq e1 (put_eq e2 (put_eq e3 (put_eq e4 (put_eq e5 (put_eq e6 rfl))))))
  clear F2
  with_reducible refine execs_cut1 (MidL g L s1 (fun m led => ∃ (ft1 : Tok) (d1 : Tok), m (Str.ofString "numbers") = some (.ref Dn) ∧ m (Str.ofString "first") = some (.int Y0 ft1) ∧ m (Str.ofString "lengths") = some (.ref ll) ∧ m (Str.ofString "date") = some (.ref da) ∧ m (Str.ofString "there") = some (.ref th) ∧
    led = [(th, tup3 gy gm gd q4 q5 q6), (da, tup3 (b + i) mo (rs + 1) q1 q2 q3), (ll, listOf #[Value.int 31 u1, Value.int 31 u2, Value.int 31 u3, Value.int 31 u4, Value.int 31 u5, Value.int 31 u6, Value.int 30 u7, Value.int 30 u8, Value.int 30 u9, Value.int 30 u10, Value.int 30 u11, Value.int (Y1 - Y0 - 336) u12] 0), (ft, fo), (ct, oc), (lN, listOf vs.toArray n), (Dn, listOf #[Value.int n0 t0, Value.int n1 t1, Value.int n2 t2, Value.int n3 t3, Value.int n4 t4, Value.int n5 t5] 0), (L + 1 + 1 + 1 + 1, o4'), (L + 1 + 1 + 1, o3'), (L + 1 + 1, o2'), (L + 1, o1'), (171, tabObj tps)])) ?_ ?_
  · w_top off
    w_strict k_steps
    (try dsimp only)
    refine MidL.intro (by k_asm) (by k_asm) ?_
    exact ⟨_, by k_subL, ⟨_, 0, by with_unfolding_all exact rfl, by with_unfolding_all exact rfl, by with_unfolding_all exact rfl, by with_unfolding_all exact rfl, by with_unfolding_all exact rfl, rfl⟩⟩
  rintro s' ⟨h2, tk2, m2, led, rfl, F2, N17, ft1, -, e1, e2, e3, e4, e5, rfl⟩
  have F3 := fr_cast F2 (put_eq e1 (put_eq e2 (put_eq e3 (put_eq e4 (put_eq e5 rfl)))))
  clear F2
  with_reducible refine execs_cut1 (MidL g L s1 (fun m led => ∃ (ft1 : Tok), m (Str.ofString "numbers") = some (.ref Dn) ∧ m (Str.ofString "first") = some (.int Y0 ft1) ∧ m (Str.ofString "lengths") = some (.ref ll) ∧
    led = [(ll, listOf #[Value.int 31 u1, Value.int 31 u2, Value.int 31 u3, Value.int 31 u4, Value.int 31 u5, Value.int 31 u6, Value.int 30 u7, Value.int 30 u8, Value.int 30 u9, Value.int 30 u10, Value.int 30 u11, Value.int (Y1 - Y0 - 336) u12] 0), (ft, fo), (ct, oc), (lN, listOf vs.toArray n), (Dn, listOf #[Value.int n0 t0, Value.int n1 t1, Value.int n2 t2, Value.int n3 t3, Value.int n4 t4, Value.int n5 t5] 0), (L + 1 + 1 + 1 + 1, o4'), (L + 1 + 1 + 1, o3'), (L + 1 + 1, o2'), (L + 1, o1'), (171, tabObj tps)])) ?_ ?_
  · w_top off
    have j5 : T (b + i) + poff mo + (rs + 1) - 1 = dy := by rw [hTi]; omega
    have j6 : T (b + i) ≤ dy ∧ dy < T (b + i + 1) := DD.hn
    have hS : Seen dy gy gm gd := hG
    clear hG
    w_strict k_steps
    (try dsimp only)
    refine MidL.intro (by k_asm) (by k_asm) ?_
    exact ⟨_, by k_subL, ⟨_, by with_unfolding_all exact rfl, by with_unfolding_all exact rfl, by with_unfolding_all exact rfl, rfl⟩⟩
  rintro s' ⟨h2, tk2, m2, led, rfl, F2, N18, ft1, e1, e2, e3, rfl⟩
  have F3 := fr_cast F2 (put_eq e1 (put_eq e2 (put_eq e3 rfl)))
  clear F2
  obtain ⟨mo2, hmo2⟩ : ∃ z, 1 + n5.fmod 12 = z := ⟨_, rfl⟩
  have hm12 : 1 ≤ mo2 ∧ mo2 ≤ 12 := by
    have := fmod_bd (show (0 : Int) < 12 by decide) (rfl : n5.fmod 12 = _)
    omega
  with_reducible refine execs_cut1 (MidL g L s1 (fun m led => ∃ (ft1 d1 : Tok), m (Str.ofString "first") = some (.int Y0 ft1) ∧ m (Str.ofString "lengths") = some (.ref ll) ∧ m (Str.ofString "month") = some (.int mo2 d1) ∧
    led = [(ll, listOf #[Value.int 31 u1, Value.int 31 u2, Value.int 31 u3, Value.int 31 u4, Value.int 31 u5, Value.int 31 u6, Value.int 30 u7, Value.int 30 u8, Value.int 30 u9, Value.int 30 u10, Value.int 30 u11, Value.int (Y1 - Y0 - 336) u12] 0), (ft, fo), (ct, oc), (lN, listOf vs.toArray n), (Dn, listOf #[Value.int n0 t0, Value.int n1 t1, Value.int n2 t2, Value.int n3 t3, Value.int n4 t4, Value.int n5 t5] 0), (L + 1 + 1 + 1 + 1, o4'), (L + 1 + 1 + 1, o3'), (L + 1 + 1, o2'), (L + 1, o1'), (171, tabObj tps)])) ?_ ?_
  · w_top off
    w_strict k_steps
    (try dsimp only)
    subst hmo2
    refine MidL.intro (by k_asm) (by k_asm) ?_
    exact ⟨_, by k_subL, ⟨_, _, by with_unfolding_all exact rfl, by with_unfolding_all exact rfl, by with_unfolding_all exact rfl, rfl⟩⟩
  rintro s' ⟨h2, tk2, m2, led, rfl, F2, N19, ft1, w1, e1, e2, e3, rfl⟩
  have F3 := fr_cast F2 (put_eq e1 (put_eq e2 (put_eq e3 rfl)))
  clear F2
  obtain ⟨col, hcol⟩ : ∃ z, (Y0 + poff mo2 + 1).fmod 7 = z := ⟨_, rfl⟩
  have hc7 : 0 ≤ col ∧ col < 7 := fmod_bd (by decide) hcol
  with_reducible refine execs_cut1 (MidL g L s1 (fun m led => ∃ (d1 d2 : Tok), m (Str.ofString "lengths") = some (.ref ll) ∧ m (Str.ofString "month") = some (.int mo2 d1) ∧ m (Str.ofString "column") = some (.int col d2) ∧
    led = [(ll, listOf #[Value.int 31 u1, Value.int 31 u2, Value.int 31 u3, Value.int 31 u4, Value.int 31 u5, Value.int 31 u6, Value.int 30 u7, Value.int 30 u8, Value.int 30 u9, Value.int 30 u10, Value.int 30 u11, Value.int (Y1 - Y0 - 336) u12] 0), (ft, fo), (ct, oc), (lN, listOf vs.toArray n), (Dn, listOf #[Value.int n0 t0, Value.int n1 t1, Value.int n2 t2, Value.int n3 t3, Value.int n4 t4, Value.int n5 t5] 0), (L + 1 + 1 + 1 + 1, o4'), (L + 1 + 1 + 1, o3'), (L + 1 + 1, o2'), (L + 1, o1'), (171, tabObj tps)])) ?_ ?_
  · w_top off
    w_strict k_steps
    (try dsimp only)
    have hts : (Y0 + (List.take (mo2 - 1).toNat [31, 31, 31, 31, 31, 31, 30, 30, 30, 30, 30, Y1 - Y0 - 336]).sum + 1).fmod 7 = col := by rw [take_sum mo2 _ hm12]; exact hcol
    refine MidL.intro (by k_asm) (by k_asm) ?_
    subst hts
    exact ⟨_, by k_subL, ⟨_, _, by with_unfolding_all exact rfl, by with_unfolding_all exact rfl, by with_unfolding_all exact rfl, rfl⟩⟩
  rintro s' ⟨h2, tk2, m2, led, rfl, F2, N20, w1, w2, e1, e2, e3, rfl⟩
  have F3 := fr_cast F2 (put_eq e1 (put_eq e2 (put_eq e3 rfl)))
  clear F2
  have hll := len_at (by rw [← hlb, hY0, hY1]) hstep hm12 (lb := lb)
  have hlbd : 29 ≤ [31, 31, 31, 31, 31, 31, 30, 30, 30, 30, 30, Y1 - Y0 - 336].getD (mo2 - 1).toNat 0 ∧ [31, 31, 31, 31, 31, 31, 30, 30, 30, 30, 30, Y1 - Y0 - 336].getD (mo2 - 1).toNat 0 ≤ 31 := by rw [hll]; exact plen_bd mo2 lb
  have hcc : (T y + poff mo2 + 1).fmod 7 = col := by rw [hY0]; exact hcol
  have hy10 : b ≤ y ∧ y ≤ b + 10 := hyb
  have hpb := plen_bd mo2 lb
  w_top off
  w_strict k_steps
end Mine
end
theorem PySem.Challenge.cw_ad5015_01_holds : PySem.Challenge.rw_ad5015_01.Holds := by
  exact Mine.law_all
