import PyProof.Rows.All
import Wide.All
import OpenK.AllK
import Wide.FinOn
import Lean
import PySem.Challenge.RW_pm0065_01
open PySem PySem.W PyProof.Rows
set_option Elab.async false
set_option maxRecDepth 100000
set_option compiler.extract_closed false
namespace Mine
set_option maxHeartbeats 8000000 in
open_top hd for PySem.Challenge.rw_pm0065_01
section
open PySem PySem.Float64
theorem amem {α : Type} {P : α → Prop} {a : α} {l : List α} (h : P a) (t : ∀ x ∈ l, P x) : ∀ x ∈ a :: l, P x := List.forall_mem_cons.mpr ⟨h, t⟩
theorem amem0 {α : Type} {P : α → Prop} : ∀ x ∈ ([] : List α), P x := List.forall_mem_nil _
theorem mem_swap {α : Type} {p : α} (l k : List α) {r : List α} (h : p ∈ l ++ (k ++ r)) : p ∈ k ++ (l ++ r) := by
  rcases List.mem_append.mp h with h | h
  · exact List.mem_append_right _ (List.mem_append_left _ h)
  · rcases List.mem_append.mp h with h | h
    · exact List.mem_append_left _ h
    · exact List.mem_append_right _ (List.mem_append_right _ h)
theorem mem_ins {α : Type} {p x : α} (l : List α) {r : List α} (h : p ∈ l ++ x :: r) : p = x ∨ p ∈ l ++ r := List.mem_cons.mp (mem_swap l [x] h)
theorem cs3 {i : Nat} (h : i < 3) : i = 0 ∨ i = 1 ∨ i = 2 := by lia
theorem cs4 {i : Nat} (h : i < 4) : i = 0 ∨ i = 1 ∨ i = 2 ∨ i = 3 := by lia
theorem cs8 {i : Nat} (h : i < 8) : i = 0 ∨ i = 1 ∨ i = 2 ∨ i = 3 ∨ i = 4 ∨ i = 5 ∨ i = 6 ∨ i = 7 := by lia
/-- f is the number n / 2^K, to the last place -/
noncomputable def Ex (K : Nat) (f : UInt64) (n : Int) : Prop := isFinite f = true ∧ val f = n * 2 ^ (1074 - K)
theorem fin_dec {x : UInt64} (h : isFinite x = true) : ∃ a m e, decode x = .fin a m e := by
  unfold isFinite at h
  split at h
  · exact ⟨_, _, _, by assumption⟩
  · cases h
theorem fin_of_dec {x : UInt64} {a : Bool} {m : Nat} {e : Int} (h : decode x = .fin a m e) : isFinite x = true := by unfold isFinite; rw [h]
theorem V_inj {a b : Nat} (h : V a = V b) : a = b := by
  rcases Nat.lt_trichotomy a b with l | l | l
  · have := V_lt l; (first | lia | omega)
  · exact l
  · have := V_lt l; (first | lia | omega)
theorem right_exact {r : UInt64} {neg : Bool} {W D t₀ : Nat} (hD : 0 < D) (h : Right r neg W D) (h0 : W = D * V t₀) (ht : t₀ < infMag) : r = pack neg t₀ := by
  obtain ⟨t, rfl, hle, hov, hn⟩ := h
  have hVi : V (infMag - 1) = (2 ^ 53 - 1) * 2 ^ 2045 := by
    have : infMag - 1 = 2045 * 2 ^ 52 + (2 ^ 53 - 1) := by decide
    rw [this, V_at (by decide) (.inl (by decide))]
  have hVt : V t₀ ≤ (2 ^ 53 - 1) * 2 ^ 2045 := by rw [← hVi]; exact V_mono (by (first | lia | omega))
  have hlt : t < infMag := by
    rcases Nat.lt_or_ge t infMag with l | g
    · exact l
    · exfalso
      have h1 := hov.mp (by (first | lia | omega))
      have h2 : D * (2 * V t₀) < D * ((2 ^ 54 - 1) * 2 ^ 2045) := by
        refine Nat.mul_lt_mul_of_pos_left ?_ hD
        have hp : 0 < 2 ^ 2045 := Nat.two_pow_pos _
        generalize 2 ^ 2045 = P at *
        (first | lia | omega)
      have h3 : 2 * W = D * (2 * V t₀) := by rw [h0, Nat.mul_left_comm]
      (first | lia | omega)
  have h1 := (hn hlt t₀).1
  have h2 : dist W (D * V t₀) = 0 := by rw [h0]; unfold dist; (first | lia | omega)
  have h3 : W = D * V t := by rw [h2] at h1; unfold dist at h1; (first | lia | omega)
  have h4 : D * V t = D * V t₀ := h3.symm.trans h0
  have h5 := Nat.eq_of_mul_eq_mul_left hD h4
  rw [V_inj h5]
/-- a number below 2^53 at a scale has its place -/
theorem rep {n j : Nat} (hn : n < 2 ^ 53) (hj : 53 ≤ j) (hj2 : j ≤ 1074) : ∃ t, t < infMag ∧ V t = n * 2 ^ j := by
  by_cases h0 : n = 0
  · subst h0
    exact ⟨0, by decide, by rw [V_zero]; simp⟩
  have hl : n.log2 < 53 := (Nat.log2_lt h0).mpr hn
  have h1 : 2 ^ n.log2 ≤ n := Nat.log2_self_le h0
  have h2 : n < 2 ^ (n.log2 + 1) := Nat.lt_log2_self
  generalize n.log2 = l at *
  have h3 : n * 2 ^ j = (n * 2 ^ (52 - l)) * 2 ^ (j + l - 52) := by rw [Nat.mul_assoc, ← Nat.pow_add]; congr 2; (first | lia | omega)
  have h4 : 2 ^ 52 ≤ n * 2 ^ (52 - l) := by
    calc 2 ^ 52 = 2 ^ l * 2 ^ (52 - l) := by rw [← Nat.pow_add]; congr 1; (first | lia | omega)
      _ ≤ _ := Nat.mul_le_mul_right _ h1
  have h5 : n * 2 ^ (52 - l) < 2 ^ 53 := by
    calc n * 2 ^ (52 - l) < 2 ^ (l + 1) * 2 ^ (52 - l) := Nat.mul_lt_mul_of_pos_right h2 (Nat.two_pow_pos _)
      _ = 2 ^ 53 := by rw [← Nat.pow_add]; congr 1; (first | lia | omega)
  refine ⟨(j + l - 52) * 2 ^ 52 + n * 2 ^ (52 - l), ?_, ?_⟩
  · have : j + l - 52 ≤ 1075 := by (first | lia | omega)
    have hi : infMag = 2047 * 2 ^ 52 := rfl
    rw [hi]
    have : (j + l - 52) * 2 ^ 52 ≤ 1075 * 2 ^ 52 := Nat.mul_le_mul_right _ this
    (first | lia | omega)
  · rw [V_at (by (first | lia | omega)) (.inl h4), ← h3]
theorem ex_pack {K : Nat} {neg : Bool} {n : Nat} (hK : K ≤ 1021) (hn : n < 2 ^ 53) {r : UInt64} {W D : Nat} (hD : 0 < D) (h : Right r neg W D) (h0 : W = D * (n * 2 ^ (1074 - K))) : Ex K r (sgn neg n) := by
  obtain ⟨t, ht, hV⟩ := rep hn (j := 1074 - K) (by omega) (by omega)
  rw [← hV] at h0
  have := right_exact hD h h0 ht
  subst this
  obtain ⟨m, e, hd, _⟩ := decode_pack neg ht
  refine ⟨fin_of_dec hd, ?_⟩
  rw [val_pack neg ht, hV, sgn_mul]
  simp
theorem zero_ex {K : Nat} (b : Bool) : Ex K (zero b) 0 := by
  have := decode_pack b (t := 0) (by decide)
  obtain ⟨m, e, hd, _⟩ := this
  refine ⟨fin_of_dec hd, ?_⟩
  show val (pack b 0) = _
  rw [val_pack b (by decide), V_zero]
  cases b <;> simp [sgn]
theorem sgn_dec (z : Int) : sgn (decide (z < 0)) z.natAbs = z := by
  unfold sgn
  by_cases h : z < 0
  · simp [h]; omega
  · simp [h]; omega
theorem pw_pos (j : Nat) : (0 : Int) < 2 ^ j := Int.pow_pos (by decide)
theorem mul_pw_ne {n : Int} {j : Nat} (h : n ≠ 0) : n * 2 ^ j ≠ 0 := Int.mul_ne_zero h (Int.ne_of_gt (pw_pos j))
theorem decide_pw {n : Int} {j : Nat} : decide (n * 2 ^ j < 0) = decide (n < 0) := by
  apply decide_eq_decide.mpr
  have := pw_pos j
  constructor
  · intro h
    rcases Int.lt_or_le n 0 with l | l
    · exact l
    · have := Int.mul_nonneg l (Int.le_of_lt this); omega
  · intro h
    exact Int.mul_neg_of_neg_of_pos h this
theorem natAbs_pw {n : Int} {j : Nat} : (n * 2 ^ j).natAbs = n.natAbs * 2 ^ j := by rw [Int.natAbs_mul, Int.natAbs_pow]; rfl
theorem add_ex {K : Nat} {x y : UInt64} {a b : Int} (hK : K ≤ 1021) (hx : Ex K x a) (hy : Ex K y b) (hs : (a + b).natAbs < 2 ^ 53) : Ex K (add x y) (a + b) := by
  obtain ⟨⟨_, _, _, dx⟩, vx⟩ := And.imp_left fin_dec hx
  obtain ⟨⟨_, _, _, dy⟩, vy⟩ := And.imp_left fin_dec hy
  have h := add_right dx dy
  have e : val x + val y = (a + b) * 2 ^ (1074 - K) := by rw [vx, vy, Int.add_mul]
  rw [e] at h
  by_cases h0 : a + b = 0
  · rw [h.1 (by rw [h0]; simp), h0]
    exact zero_ex _
  · have := h.2 (mul_pw_ne h0)
    rw [decide_pw, natAbs_pw] at this
    have r := ex_pack hK hs (by decide) this (by rw [Nat.one_mul])
    rw [sgn_dec] at r
    exact r
theorem sub_ex {K : Nat} {x y : UInt64} {a b : Int} (hK : K ≤ 1021) (hx : Ex K x a) (hy : Ex K y b) (hs : (a - b).natAbs < 2 ^ 53) : Ex K (sub x y) (a - b) := by
  obtain ⟨⟨_, _, _, dx⟩, vx⟩ := And.imp_left fin_dec hx
  obtain ⟨⟨_, _, _, dy⟩, vy⟩ := And.imp_left fin_dec hy
  have h := sub_right dx dy
  have e : val x - val y = (a - b) * 2 ^ (1074 - K) := by rw [vx, vy, Int.sub_mul]
  rw [e] at h
  by_cases h0 : a - b = 0
  · rw [h.1 (by rw [h0]; simp), h0]
    exact zero_ex _
  · have := h.2 (mul_pw_ne h0)
    rw [decide_pw, natAbs_pw] at this
    have r := ex_pack hK hs (by decide) this (by rw [Nat.one_mul])
    rw [sgn_dec] at r
    exact r
theorem val_sgn {x : UInt64} {a : Bool} {m : Nat} {e : Int} (h : decode x = .fin a m e) (h0 : val x ≠ 0) : a = decide (val x < 0) := by
  have := val_eq h
  cases a
  · have h1 : val x = ((m * 2 ^ (e + 1074).toNat : Nat) : Int) := by rw [this]; simp [sgn]
    rw [h1]; simp
    exact Int.natCast_nonneg _
  · have h1 : val x = -((m * 2 ^ (e + 1074).toNat : Nat) : Int) := by rw [this]; simp [sgn]
    have : val x < 0 := by (first | lia | omega)
    simp [this]
theorem mul_ex {K J : Nat} {x y : UInt64} {a b : Int} (hK : K + J ≤ 1021) (hx : Ex K x a) (hy : Ex J y b) (hs : (a * b).natAbs < 2 ^ 53) : Ex (K + J) (mul x y) (a * b) := by
  obtain ⟨⟨sx, _, _, dx⟩, vx⟩ := And.imp_left fin_dec hx
  obtain ⟨⟨sy, _, _, dy⟩, vy⟩ := And.imp_left fin_dec hy
  have h := mul_right dx dy
  have e : (val x).natAbs * (val y).natAbs = 2 ^ 1074 * ((a * b).natAbs * 2 ^ (1074 - (K + J))) := by
    rw [vx, vy, natAbs_pw, natAbs_pw, Int.natAbs_mul]
    have : (2 : Nat) ^ (1074 - K) * 2 ^ (1074 - J) = 2 ^ 1074 * 2 ^ (1074 - (K + J)) := by rw [← Nat.pow_add, ← Nat.pow_add]; congr 1; (first | lia | omega)
    calc a.natAbs * 2 ^ (1074 - K) * (b.natAbs * 2 ^ (1074 - J)) = a.natAbs * b.natAbs * (2 ^ (1074 - K) * 2 ^ (1074 - J)) := by ac_rfl
      _ = _ := by rw [this]; ac_rfl
  have r := ex_pack hK hs (Nat.two_pow_pos _) h e
  have s : sgn (sx != sy) (a * b).natAbs = a * b := by
    by_cases h0 : a * b = 0
    · rw [h0]; cases (sx != sy) <;> rfl
    · have ha : a ≠ 0 := fun q => h0 (by rw [q]; simp)
      have hb : b ≠ 0 := fun q => h0 (by rw [q]; simp)
      have ex := val_sgn dx (by rw [vx]; exact mul_pw_ne ha)
      have ey := val_sgn dy (by rw [vy]; exact mul_pw_ne hb)
      rw [vx, decide_pw] at ex
      rw [vy, decide_pw] at ey
      have : (sx != sy) = decide (a * b < 0) := by
        rw [ex, ey]
        rcases Int.lt_trichotomy a 0 with l | l | l <;> rcases Int.lt_trichotomy b 0 with l' | l' | l' <;> first | exact absurd l ha | exact absurd l' hb | skip
        · have := Int.mul_pos_of_neg_of_neg l l'; simp [l, l']; (first | lia | omega)
        · have := Int.mul_neg_of_neg_of_pos l l'; simp [l, this]; (first | lia | omega)
        · have := Int.mul_neg_of_pos_of_neg l l'; simp [l', this]; (first | lia | omega)
        · have := Int.mul_pos l l'
          have e1 : ¬ a < 0 := by (first | lia | omega)
          have e2 : ¬ b < 0 := by (first | lia | omega)
          have e3 : ¬ a * b < 0 := by (first | lia | omega)
          simp [e1, e2, e3]
      rw [this, sgn_dec]
  rw [s] at r
  exact r
theorem div_ex {K J I : Nat} {x y : UInt64} {a b c : Int} (hK : K ≤ 1021) (hI : I ≤ 1021) (hJ : J ≤ 1021) (hx : Ex K x a) (hy : Ex J y b) (hb : b ≠ 0) (hc : c.natAbs < 2 ^ 53) (he : a * 2 ^ (I + J) = c * b * 2 ^ K) : Ex I (div x y) c := by
  obtain ⟨⟨sx, _, _, dx⟩, vx⟩ := And.imp_left fin_dec hx
  obtain ⟨⟨sy, k, _, dy⟩, vy⟩ := And.imp_left fin_dec hy
  have hy0 : val y ≠ 0 := by rw [vy]; exact mul_pw_ne hb
  have hk : k ≠ 0 := fun q => by
    have := val_natAbs dy
    rw [q] at this
    simp at this
    exact hy0 this
  have h := div_right dx dy hk
  have heN : a.natAbs * 2 ^ (I + J) = c.natAbs * b.natAbs * 2 ^ K := by
    have := congrArg Int.natAbs he
    rwa [natAbs_pw, natAbs_pw, Int.natAbs_mul] at this
  have e : (val x).natAbs * 2 ^ 1074 = (val y).natAbs * (c.natAbs * 2 ^ (1074 - I)) := by
    rw [vx, vy, natAbs_pw, natAbs_pw]
    have h1 : (2 : Nat) ^ (1074 - K) * 2 ^ 1074 = 2 ^ (I + J) * (2 ^ (1074 - K) * 2 ^ (1074 - I - J)) ∨ 1074 < I + J := by
      by_cases q : I + J ≤ 1074
      · left
        rw [← Nat.pow_add, ← Nat.pow_add, ← Nat.pow_add]; congr 1; (first | lia | omega)
      · right; (first | lia | omega)
    have hp : 0 < 2 ^ (I + J + K) := Nat.two_pow_pos _
    refine Nat.eq_of_mul_eq_mul_right hp ?_
    have p1 : (2 : Nat) ^ (1074 - K) * 2 ^ 1074 * 2 ^ (I + J + K) = 2 ^ (I + J) * 2 ^ 2148 := by rw [← Nat.pow_add, ← Nat.pow_add, ← Nat.pow_add]; congr 1; (first | lia | omega)
    have p2 : (2 : Nat) ^ (1074 - J) * 2 ^ (1074 - I) * 2 ^ (I + J + K) = 2 ^ K * 2 ^ 2148 := by rw [← Nat.pow_add, ← Nat.pow_add, ← Nat.pow_add]; congr 1; (first | lia | omega)
    calc a.natAbs * 2 ^ (1074 - K) * 2 ^ 1074 * 2 ^ (I + J + K) = a.natAbs * (2 ^ (1074 - K) * 2 ^ 1074 * 2 ^ (I + J + K)) := by ac_rfl
      _ = (a.natAbs * 2 ^ (I + J)) * 2 ^ 2148 := by rw [p1, Nat.mul_assoc]
      _ = c.natAbs * b.natAbs * (2 ^ K * 2 ^ 2148) := by rw [heN, Nat.mul_assoc]
      _ = c.natAbs * b.natAbs * (2 ^ (1074 - J) * 2 ^ (1074 - I) * 2 ^ (I + J + K)) := by rw [p2]
      _ = _ := by ac_rfl
  have r := ex_pack hI hc (by have := mul_pw_ne (j := 1074 - J) hb; rw [vy]; (first | lia | omega)) h e
  have s : sgn (sx != sy) c.natAbs = c := by
    by_cases h0 : c = 0
    · rw [h0]; cases (sx != sy) <;> rfl
    · have hcb : c * b * 2 ^ K ≠ 0 := mul_pw_ne (Int.mul_ne_zero h0 hb)
      have ha : a ≠ 0 := fun q => by rw [q, Int.zero_mul] at he; exact hcb he.symm
      have ex := val_sgn dx (by rw [vx]; exact mul_pw_ne ha)
      have ey := val_sgn dy hy0
      rw [vx, decide_pw] at ex
      rw [vy, decide_pw] at ey
      have hd : decide (a < 0) = decide (c * b < 0) := by
        have := congrArg (fun z => decide (z < 0)) he
        simpa only [decide_pw] using this
      rw [ex, ey, hd]
      have : (decide (c * b < 0) != decide (b < 0)) = decide (c < 0) := by
        rcases Int.lt_trichotomy c 0 with l | l | l <;> rcases Int.lt_trichotomy b 0 with l' | l' | l' <;> first | exact absurd l h0 | exact absurd l' hb | skip
        · have := Int.mul_pos_of_neg_of_neg l l'
          have e3 : ¬ c * b < 0 := by (first | lia | omega)
          simp [l, l', e3]
        · have := Int.mul_neg_of_neg_of_pos l l'
          have e3 : ¬ b < 0 := by (first | lia | omega)
          simp [l, this, e3]
        · have := Int.mul_neg_of_pos_of_neg l l'
          have e3 : ¬ c < 0 := by (first | lia | omega)
          simp [l', this, e3]
        · have := Int.mul_pos l l'
          have e1 : ¬ c < 0 := by (first | lia | omega)
          have e2 : ¬ b < 0 := by (first | lia | omega)
          have e3 : ¬ c * b < 0 := by (first | lia | omega)
          simp [e1, e2, e3]
      rw [this, sgn_dec]
  rw [s] at r
  exact r
theorem cmp_ex {K : Nat} {x y : UInt64} {a b : Int} (hx : Ex K x a) (hy : Ex K y b) : cmp x y = some (compare a b) := by
  obtain ⟨⟨_, _, _, dx⟩, vx⟩ := And.imp_left fin_dec hx
  obtain ⟨⟨_, _, _, dy⟩, vy⟩ := And.imp_left fin_dec hy
  rw [cmp_right dx dy, vx, vy]
  congr 1
  have hp := pw_pos (1074 - K)
  rcases Int.lt_trichotomy a b with h | h | h
  · rw [Int.compare_eq_lt.mpr h, Int.compare_eq_lt.mpr (Int.mul_lt_mul_of_pos_right h hp)]
  · subst h; simp
  · rw [Int.compare_eq_gt.mpr h, Int.compare_eq_gt.mpr (Int.mul_lt_mul_of_pos_right h hp)]
theorem up_ex {K J : Nat} {x : UInt64} {a : Int} (hx : Ex K x a) (h : K + J ≤ 1074) : Ex (K + J) x (a * 2 ^ J) := by
  refine ⟨hx.1, ?_⟩
  rw [hx.2, Int.mul_assoc, ← Int.pow_add]
  congr 2
  (first | lia | omega)
theorem cmpInt_ex {K : Nat} {x : UInt64} {a : Int} (hK : K ≤ 1074) (hx : Ex K x a) (i : Int) : cmpInt x i = some (compare a (i * 2 ^ K)) := by
  obtain ⟨⟨_, _, _, dx⟩, vx⟩ := And.imp_left fin_dec hx
  rw [cmpInt_right dx, vx]
  congr 1
  have hp := pw_pos (1074 - K)
  have e : i * 2 ^ 1074 = i * 2 ^ K * 2 ^ (1074 - K) := by rw [Int.mul_assoc, ← Int.pow_add]; congr 2; omega
  rw [e]
  rcases Int.lt_trichotomy a (i * 2 ^ K) with h | h | h
  · rw [Int.compare_eq_lt.mpr h, Int.compare_eq_lt.mpr (Int.mul_lt_mul_of_pos_right h hp)]
  · rw [h]; simp
  · rw [Int.compare_eq_gt.mpr h, Int.compare_eq_gt.mpr (Int.mul_lt_mul_of_pos_right h hp)]
theorem ofInt_ex (i : Int) (h : i.natAbs < 2 ^ 53) : Ex 0 (ofInt i) i := by
  have r := ex_pack (K := 0) (by decide) h (by decide) (ofInt_right i) (by rw [Nat.one_mul])
  rw [sgn_dec] at r
  exact r
/-- two floats of one number that is not zero are one -/
theorem ex_uniq {K : Nat} {x y : UInt64} {a : Int} (hx : Ex K x a) (hy : Ex K y a) : cmp x y = some .eq := by
  rw [cmp_ex hx hy]; simp
theorem fin_ex {K : Nat} {x : UInt64} {a : Int} (h : Ex K x a) : isFinite x = true := h.1
theorem isZero_ex {K : Nat} {x : UInt64} {a : Int} (hK : K ≤ 1074) (h : Ex K x a) : isZero x = decide (a = 0) := by
  rw [PySem.Flt.isZero_eq, cmpInt_ex hK h]
  by_cases h0 : a = 0
  · subst h0; simp
  · rcases Int.lt_or_gt_of_ne h0 with l | l
    · rw [Int.zero_mul, Int.compare_eq_lt.mpr l]; simp [h0]
    · rw [Int.zero_mul, Int.compare_eq_gt.mpr l]; simp [h0]
end
section
open PySem PySem.Float64 PySem.Flt
theorem down_ex {K J : Nat} {x : UInt64} {a : Int} (hx : Ex (K + J) x (a * 2 ^ J)) (h : K + J ≤ 1074) : Ex K x a := by
  refine ⟨hx.1, ?_⟩
  rw [hx.2, Int.mul_assoc, ← Int.pow_add]
  congr 2
  (first | lia | omega)
theorem f1_ex : Ex 0 4607182418800017408 1 := by
  have : ofInt 1 = 4607182418800017408 := by decide +kernel
  rw [← this]; exact ofInt_ex 1 (by decide)
theorem f2_ex : Ex 0 4611686018427387904 2 := by
  have : ofInt 2 = 4611686018427387904 := by decide +kernel
  rw [← this]; exact ofInt_ex 2 (by decide)
theorem f4_ex : Ex 0 4616189618054758400 4 := by
  have : ofInt 4 = 4616189618054758400 := by decide +kernel
  rw [← this]; exact ofInt_ex 4 (by decide)
theorem f6_ex : Ex 0 4618441417868443648 6 := by
  have : ofInt 6 = 4618441417868443648 := by decide +kernel
  rw [← this]; exact ofInt_ex 6 (by decide)
theorem f0_ex {K : Nat} : Ex K 0 0 := by
  have : zero false = 0 := by decide +kernel
  rw [← this]; exact zero_ex _
theorem half_ex : Ex 1 4602678819172646912 1 := by
  have h : div (ofInt 1) (ofInt 2) = 4602678819172646912 := by decide +kernel
  rw [← h]
  exact div_ex (K := 0) (J := 0) (I := 1) (by decide) (by decide) (by decide) (ofInt_ex 1 (by decide)) (ofInt_ex 2 (by decide)) (by decide) (by decide) (by decide)
theorem x_of_pack {x : UInt64} (h : isNaN x = false) : ∃ b t, x = pack b t ∧ t ≤ infMag := by
  refine ⟨x.toNat / 2 ^ 63 == 1, x.toNat % 2 ^ 63, ?_, PySem.W.mag_le h⟩
  have hx : x.toNat < 2 ^ 64 := x.toNat_lt
  apply UInt64.toNat_inj.mp
  rw [pack_toNat _ (Nat.mod_lt _ (by decide))]
  by_cases q : x.toNat / 2 ^ 63 = 1
  · simp [q]; (first | lia | omega)
  · have : x.toNat / 2 ^ 63 = 0 := by (first | lia | omega)
    simp [this]; (first | lia | omega)
/-- two floats of one number that is not nought have one set of bits -/
theorem ex_bits {K : Nat} {x y : UInt64} {a : Int} (hx : Ex K x a) (hy : Ex K y a) (h0 : a ≠ 0) : x = y := by
  have nx : isNaN x = false := not_nan_of_finite hx.1
  have ny : isNaN y = false := not_nan_of_finite hy.1
  obtain ⟨b, t, ex, ht⟩ := x_of_pack nx
  obtain ⟨c, u, ey, hu⟩ := x_of_pack ny
  have lt_of : ∀ {z : UInt64} {b : Bool} {t : Nat}, isFinite z = true → z = pack b t → t ≤ infMag → t < infMag := by
    intro z b t hz e ht
    rcases Nat.lt_or_ge t infMag with l | g
    · exact l
    · have : t = infMag := by (first | lia | omega)
      subst this
      rw [e] at hz
      have := isInf_pack_inf b
      rw [not_inf_of_finite hz] at this
      cases this
  have ht' := lt_of hx.1 ex ht
  have hu' := lt_of hy.1 ey hu
  have vx : val x = sgn b (V t) := by rw [ex, val_pack b ht']
  have vy : val y = sgn c (V u) := by rw [ey, val_pack c hu']
  have vv : val x = val y := hx.2.trans hy.2.symm
  have v0 : val x ≠ 0 := by rw [hx.2]; exact mul_pw_ne h0
  have hb : b = c := by
    have e := vx.symm.trans (vv.trans vy)
    have n0 : sgn b (V t) ≠ 0 := by rw [← vx]; exact v0
    cases b <;> cases c <;> simp only [sgn, if_true, if_false, Bool.false_eq_true, reduceCtorEq] at e n0 ⊢ <;> (first | lia | omega)
  subst hb
  have hV : V t = V u := by
    have e := vx.symm.trans (vv.trans vy)
    have := congrArg Int.natAbs e
    rwa [sgn_natAbs, sgn_natAbs] at this
  rw [ex, ey, V_inj hV]
/-- the whole part of a number from nought on -/
theorem toInt_ex {K : Nat} {f : UInt64} {n : Int} (hK : K ≤ 1074) (h : Ex K f n) (h0 : 0 ≤ n) : toInt truncOf f = n / 2 ^ K := by
  obtain ⟨⟨s, m, e, d⟩, v⟩ := And.imp_left fin_dec h
  have he := decode_ge d
  unfold toInt
  rw [d]
  simp only
  have hv := val_eq d
  rw [v] at hv
  have hp := pw_pos (1074 - K)
  have pK := pw_pos K
  have key : ∀ m : Nat, n * 2 ^ (1074 - K) = ((m * 2 ^ (e + 1074).toNat : Nat) : Int) → (if e ≥ 0 then (m : Int) * 2 ^ e.toNat else (m : Int).fdiv (2 ^ (-e).toNat)) = n / 2 ^ K := by
    intro m hm
    have hm' : n * 2 ^ (1074 - K) = (m : Int) * 2 ^ (e + 1074).toNat := by rw [hm]; simp
    split
    · rename_i g
      have e1 : (e + 1074).toNat = (1074 - K) + (K + e.toNat) := by (first | lia | omega)
      rw [e1, Int.pow_add, Int.pow_add] at hm'
      have : n = (m : Int) * 2 ^ e.toNat * 2 ^ K := by
        apply Int.eq_of_mul_eq_mul_right (Int.ne_of_gt hp)
        rw [hm']
        generalize (2 : Int) ^ (1074 - K) = A
        generalize (2 : Int) ^ K = B
        generalize (2 : Int) ^ e.toNat = C
        ac_rfl
      rw [this, Int.mul_ediv_cancel _ (Int.ne_of_gt pK)]
    · rename_i g
      have pe := pw_pos (-e).toNat
      rw [Int.fdiv_eq_ediv_of_nonneg _ (Int.le_of_lt pe)]
      have h1 : n * 2 ^ (-e).toNat = (m : Int) * 2 ^ K := by
        have e2 : (1074 - K) + K = (e + 1074).toNat + (-e).toNat := by (first | lia | omega)
        apply Int.eq_of_mul_eq_mul_right (Int.ne_of_gt (pw_pos (e + 1074).toNat))
        have e3 : (2 : Int) ^ (1074 - K) * 2 ^ K = 2 ^ (e + 1074).toNat * 2 ^ (-e).toNat := by rw [← Int.pow_add, ← Int.pow_add, e2]
        calc n * 2 ^ (-e).toNat * 2 ^ (e + 1074).toNat = n * (2 ^ (e + 1074).toNat * 2 ^ (-e).toNat) := by rw [Int.mul_assoc, Int.mul_comm (2 ^ (-e).toNat)]
          _ = n * 2 ^ (1074 - K) * 2 ^ K := by rw [← e3, Int.mul_assoc]
          _ = (m : Int) * 2 ^ K * 2 ^ (e + 1074).toNat := by rw [hm', Int.mul_assoc, Int.mul_comm (2 ^ (e + 1074).toNat), ← Int.mul_assoc]
      rw [← Int.mul_ediv_mul_of_pos_left (m : Int) (2 ^ (-e).toNat) pK, ← h1, Int.mul_comm ((2 : Int) ^ (-e).toNat) (2 ^ K), Int.mul_ediv_mul_of_pos_left _ _ pe]
  cases s with
  | false =>
    unfold truncOf floorOf
    simp only [sgn, Bool.false_eq_true, if_false] at hv ⊢
    exact key m hv
  | true =>
    have hm0 : m * 2 ^ (e + 1074).toNat = 0 := by
      simp only [sgn, if_true] at hv
      have h2 := Int.mul_nonneg h0 (Int.le_of_lt hp)
      have h3 : (0 : Int) ≤ ((m * 2 ^ (e + 1074).toNat : Nat) : Int) := Int.natCast_nonneg _
      (first | lia | omega)
    have hm : m = 0 := by
      rcases Nat.mul_eq_zero.mp hm0 with h | h
      · exact h
      · exact absurd h (Nat.ne_of_gt (Nat.two_pow_pos _))
    subst hm
    have hn : n = 0 := by
      rcases Int.lt_or_eq_of_le h0 with h | h
      · exfalso
        have := Int.mul_pos h hp
        simp only [sgn, if_true, hm0] at hv
        (first | lia | omega)
      · exact h.symm
    subst hn
    unfold truncOf ceilOf floorOf
    simp [sgn]
end
section
open PySem PySem.W PyProof.Rows PySem.Flt

theorem fillF (w : World) (h : Heap) : PySem.Challenge.rw_pm0065_01.Holds → (hd.heap_39 w.params).In h → True := by
  k_fill
  intros; trivial
noncomputable abbrev Led9 := List (Addr × Obj)

/-- what a call of a def hands back, whatever frame calls it: a value and the objects that it leaves -/
noncomputable abbrev PureC (prog : Program) (w : World) (K : Frag) (p : Program) (loose : List Str) (mean : ExcName → Option Value) (mg mb : Str → Option Value) (lev : Nat) (f : Addr) (news : Led9) (vs : List Value) (Out : Value → Led9 → Prop) : Prop :=
  ∀ (dp un : Nat) (gd : Option (List Code)) (cn : Str) (cs : Scope) (a : Addr) (ccd : Value) (cl : List (Str × Addr)) (outer : List Env) (A₀ : Around) (base h₀ : Heap) (L : Addr) (m : Str → Option Value) (s : Shared) (Q E : Value → Shared → Prop),
    Below A₀ base outer h₀ → Fr h₀ L s.heap m → K.In h₀ → News h₀ L s.heap news → Top p loose mean mg mb h₀ → cs.kind = .function → dp + lev < recursionLimit → un + 8 * lev < cLine →
    (∀ r own h' tk', Out r own → Fr h₀ L h' m → News h₀ L h' (own ++ news) → (∀ q ∈ own, ∀ p ∈ news, p.1 < q.1) → Q r { s with heap := h', toks := tk' }) →
    wpAny (model prog w) (ktrTop dp un gd cn cs L a ccd cl outer) (call (.ref f) vs) Q E s

noncomputable abbrev tup (vs : List Value) : Obj := { cls := .type "tuple", data := .seq vs.toArray }

noncomputable def mx3 (x y z : UInt64) : UInt64 := let m := if Float64.cmp x y == some .lt then y else x; if Float64.cmp m z == some .lt then z else m
noncomputable def mn3 (x y z : UInt64) : UInt64 := let m := if Float64.cmp y x == some .lt then y else x; if Float64.cmp z m == some .lt then z else m

theorem ltV_ff {x y : UInt64} {t u : Tok} : ltV (.float x t) (.float y u) = (Float64.cmp x y == some .lt) := rfl
section
variable {prog : Program} {w : World} {A : Around} {E : Value → Shared → Prop} {s : Shared} {Q : Value → Shared → Prop} {h₀ : Heap} {L : Addr} {m : Str → Option Value} {news : List (Addr × Obj)}
theorem max3_f {x y z M : UInt64} {t u v : Tok} (hh : A.handled = none) (F : Fr h₀ L s.heap m) (N : News h₀ L s.heap news) (hM : mx3 x y z = M) (k1 : t ≠ 0) (k2 : u ≠ 0) (k3 : v ≠ 0)
    (h : ∀ h' tk t', t' ≠ 0 → Fr h₀ L h' m → News h₀ L h' news → Q (.float M t') { s with heap := h', toks := tk }) :
    wpAny (model prog w) A (call (.builtin "max") [.float x t, .float y u, .float z v]) Q E s := by
  have hT : (s.heap.push { cls := .type "tuple", data := .seq #[.float x t, .float y u, .float z v] }).IsTuple s.heap.objs.size #[.float x t, .float y u, .float z v] := ⟨_, Heap.get?_push_size _ rfl, rfl, 0, rfl⟩
  refine call_max_three (wpAny_pyIter_tuple hT ?_)
  have hsz : (s.heap.push { cls := .type "tuple", data := .seq #[.float x t, .float y u, .float z v] }).objs.size = s.heap.objs.size + 1 := Heap.size_push ..
  refine ⟨_, [_, s.heap.objs.size], [_], _, _, _, _, rfl, Walks.tuple (A := A.in1) hh _ s.heap.objs.size (by rw [hsz]; exact Nat.ne_of_lt (Nat.lt_succ_self _)) #[.float x t, .float y u, .float z v],
    ⟨⟨_, Heap.get?_push_size _ rfl, rfl, rfl⟩, hT.push _⟩, fun c hc => ?_, by simp, cmpOf_gt #[.float x t, .float y u, .float z v] (by simp [NumV.float]), fun v' h' tk hP hk => ?_⟩
  · show c < ((s.heap.push _).push _).objs.size
    rw [Heap.size_push, hsz]
    rcases List.mem_cons.mp hc with rfl | hc
    · rw [hsz]; exact Nat.lt_succ_self _
    · rcases List.mem_cons.mp hc with rfl | hc
      · exact Nat.lt_succ_of_lt (Nat.lt_succ_self _)
      · cases hc
  · have hold : ∀ c o, s.heap.get? c = some o → h'.get? c = some o := fun c o e => by
      refine hk c o (fun hm => ?_) (Heap.get?_push_of_some _ (Heap.get?_push_of_some _ e))
      rcases List.mem_cons.mp hm with e1 | hm
      · have := Heap.lt_size e; rw [e1, hsz] at this; exact Nat.lt_irrefl _ (Nat.lt_of_succ_lt this)
      · cases hm
    have hv : ∃ t', t' ≠ 0 ∧ v' = .float M t' := by
      subst hM
      unfold mx3
      by_cases c1 : (Float64.cmp x y == some .lt) = true
      · by_cases c2 : (Float64.cmp y z == some .lt) = true <;> simp [argBest, ltV_ff, c1, c2] at hP ⊢ <;> simp [← hP] <;> first | exact Nat.pos_of_ne_zero k1 | exact Nat.pos_of_ne_zero k2 | exact Nat.pos_of_ne_zero k3
      · by_cases c3 : (Float64.cmp x z == some .lt) = true <;> simp [argBest, ltV_ff, c1, c3] at hP ⊢ <;> simp [← hP] <;> first | exact Nat.pos_of_ne_zero k1 | exact Nat.pos_of_ne_zero k2 | exact Nat.pos_of_ne_zero k3
    obtain ⟨t', ht', rfl⟩ := hv
    exact h h' tk t' ht' (F.grownK hold) (N.grown hold)
theorem min3_f {x y z M : UInt64} {t u v : Tok} (hh : A.handled = none) (F : Fr h₀ L s.heap m) (N : News h₀ L s.heap news) (hM : mn3 x y z = M) (k1 : t ≠ 0) (k2 : u ≠ 0) (k3 : v ≠ 0)
    (h : ∀ h' tk t', t' ≠ 0 → Fr h₀ L h' m → News h₀ L h' news → Q (.float M t') { s with heap := h', toks := tk }) :
    wpAny (model prog w) A (call (.builtin "min") [.float x t, .float y u, .float z v]) Q E s := by
  have hT : (s.heap.push { cls := .type "tuple", data := .seq #[.float x t, .float y u, .float z v] }).IsTuple s.heap.objs.size #[.float x t, .float y u, .float z v] := ⟨_, Heap.get?_push_size _ rfl, rfl, 0, rfl⟩
  refine call_min_three (wpAny_pyIter_tuple hT ?_)
  have hsz : (s.heap.push { cls := .type "tuple", data := .seq #[.float x t, .float y u, .float z v] }).objs.size = s.heap.objs.size + 1 := Heap.size_push ..
  refine ⟨_, [_, s.heap.objs.size], [_], _, _, _, _, rfl, Walks.tuple (A := A.in1) hh _ s.heap.objs.size (by rw [hsz]; exact Nat.ne_of_lt (Nat.lt_succ_self _)) #[.float x t, .float y u, .float z v],
    ⟨⟨_, Heap.get?_push_size _ rfl, rfl, rfl⟩, hT.push _⟩, fun c hc => ?_, by simp, cmpOf_lt #[.float x t, .float y u, .float z v] (by simp [NumV.float]), fun v' h' tk hP hk => ?_⟩
  · show c < ((s.heap.push _).push _).objs.size
    rw [Heap.size_push, hsz]
    rcases List.mem_cons.mp hc with rfl | hc
    · rw [hsz]; exact Nat.lt_succ_self _
    · rcases List.mem_cons.mp hc with rfl | hc
      · exact Nat.lt_succ_of_lt (Nat.lt_succ_self _)
      · cases hc
  · have hold : ∀ c o, s.heap.get? c = some o → h'.get? c = some o := fun c o e => by
      refine hk c o (fun hm => ?_) (Heap.get?_push_of_some _ (Heap.get?_push_of_some _ e))
      rcases List.mem_cons.mp hm with e1 | hm
      · have := Heap.lt_size e; rw [e1, hsz] at this; exact Nat.lt_irrefl _ (Nat.lt_of_succ_lt this)
      · cases hm
    have hv : ∃ t', t' ≠ 0 ∧ v' = .float M t' := by
      subst hM
      unfold mn3
      by_cases c1 : (Float64.cmp y x == some .lt) = true
      · by_cases c2 : (Float64.cmp z y == some .lt) = true <;> simp [argBest, ltV_ff, c1, c2] at hP ⊢ <;> simp [← hP] <;> first | exact Nat.pos_of_ne_zero k1 | exact Nat.pos_of_ne_zero k2 | exact Nat.pos_of_ne_zero k3
      · by_cases c3 : (Float64.cmp z x == some .lt) = true <;> simp [argBest, ltV_ff, c1, c3] at hP ⊢ <;> simp [← hP] <;> first | exact Nat.pos_of_ne_zero k1 | exact Nat.pos_of_ne_zero k2 | exact Nat.pos_of_ne_zero k3
    obtain ⟨t', ht', rfl⟩ := hv
    exact h h' tk t' ht' (F.grownK hold) (N.grown hold)
end

noncomputable abbrev f0 : UInt64 := 0
noncomputable abbrev f1 : UInt64 := 4607182418800017408
noncomputable abbrev f2 : UInt64 := 4611686018427387904
noncomputable abbrev f4 : UInt64 := 4616189618054758400
noncomputable abbrev f6 : UInt64 := 4618441417868443648

/-- three floats in a new tuple -/
noncomputable abbrev Tup3 (x y z : UInt64) (r : Value) (own : Led9) : Prop := ∃ a t u v, t ≠ 0 ∧ u ≠ 0 ∧ v ≠ 0 ∧ r = .ref a ∧ own = [(a, tup [.float x t, .float y u, .float z v])]

local macro_rules | `(tactic| k_all) => `(tactic| assumption)
theorem ord1 {a : Addr} {o : Obj} {news : Led9} (h : ∀ p ∈ news, p.1 < a) : ∀ q ∈ [(a, o)], ∀ p ∈ news, p.1 < q.1 := by
  intro q hq p hp
  rw [List.mem_singleton.mp hq]
  exact h p hp
theorem c_end {Out : Value → Led9 → Prop} {h₀ : Heap} {L : Addr} {m : Str → Option Value} {news : Led9} {s : Shared} {Q : Value → Shared → Prop}
    (hret : ∀ r own h' tk', Out r own → Fr h₀ L h' m → News h₀ L h' (own ++ news) → (∀ q ∈ own, ∀ p ∈ news, p.1 < q.1) → Q r { s with heap := h', toks := tk' })
    {D : Addr} {o : Obj} {h' : Heap} {tk : Nat} (F : Fr h₀ L h' m) (N : News h₀ L h' ((D, o) :: news)) (l : ∀ p ∈ news, p.1 < D) (ho : Out (.ref D) [(D, o)]) : Q (.ref D) { s with heap := h', toks := tk } :=
  hret _ _ _ _ ho F N (ord1 l)
theorem gen_toks {M : Model} {A : Around} {α : Type} {t : Sem α} {Q : α → Shared → Prop} {E : Value → Shared → Prop} {h : Heap} {g : Array GenState} {d : Drawn} {Y : Nat} {os : OsState} (k : ∀ tk, 0 < tk → wpAny M A t Q E ⟨h, g, d, tk, os⟩) : wpAny M A t Q E ⟨h, g, d, Y + 1, os⟩ := k _ (Nat.succ_pos _)
noncomputable def hueF (r g b M D : UInt64) : UInt64 :=
  let rc := Float64.div (Float64.sub M r) D
  let gc := Float64.div (Float64.sub M g) D
  let bc := Float64.div (Float64.sub M b) D
  let h := if Float64.cmp r M == some .eq then Float64.sub bc gc else if Float64.cmp g M == some .eq then Float64.sub (Float64.add f2 rc) bc else Float64.sub (Float64.add f4 gc) rc
  (Float64.divmod (Float64.div h f6) f1).2

theorem ite_p {c : Prop} [Decidable c] {a b : Prop} (h : c) (x : a) : if c then a else b := by rw [if_pos h]; exact x
theorem ite_n {c : Prop} [Decidable c] {a b : Prop} (h : ¬ c) (x : b) : if c then a else b := by rw [if_neg h]; exact x
theorem fmod6 {i : Int} (h0 : ¬ i.fmod 6 = 0) (h1 : ¬ i.fmod 6 = 1) (h2 : ¬ i.fmod 6 = 2) (h3 : ¬ i.fmod 6 = 3) (h4 : ¬ i.fmod 6 = 4) (h5 : ¬ i.fmod 6 = 5) : False := by
  rw [Int.fmod_eq_emod_of_nonneg _ (show (0 : Int) ≤ 6 by decide)] at *
  have a := Int.emod_nonneg i (show (6 : Int) ≠ 0 by decide)
  have b := Int.emod_lt_of_pos i (show (0 : Int) < 6 by decide)
  generalize i % 6 = k at *
  lia
theorem hueF_r {r g b M D : UInt64} (h : (Float64.cmp r M == some .eq) = true) : hueF r g b M D = (Float64.divmod (Float64.div (Float64.sub (Float64.div (Float64.sub M b) D) (Float64.div (Float64.sub M g) D)) f6) f1).2 := by
  unfold hueF
  simp only [h, if_true]
theorem hueF_g {r g b M D : UInt64} (h : (Float64.cmp r M == some .eq) = false) (h' : (Float64.cmp g M == some .eq) = true) : hueF r g b M D = (Float64.divmod (Float64.div (Float64.sub (Float64.add f2 (Float64.div (Float64.sub M r) D)) (Float64.div (Float64.sub M b) D)) f6) f1).2 := by
  unfold hueF
  simp only [h, h', if_true, Bool.false_eq_true, if_false]
theorem hueF_b {r g b M D : UInt64} (h : (Float64.cmp r M == some .eq) = false) (h' : (Float64.cmp g M == some .eq) = false) : hueF r g b M D = (Float64.divmod (Float64.div (Float64.sub (Float64.add f4 (Float64.div (Float64.sub M g) D)) (Float64.div (Float64.sub M r) D)) f6) f1).2 := by
  unfold hueF
  simp only [h, h', Bool.false_eq_true, if_false]

set_option maxHeartbeats 4000000 in
theorem c_hsv_to_rgb {prog : Program} {w : World} {p : Program} {loose : List Str} {mean : ExcName → Option Value} {mg mb : Str → Option Value} (news : Led9) (h s v : UInt64) (t1 t2 t3 : Tok) (z1 : t1 ≠ 0) (z2 : t2 ≠ 0) (z3 : t3 ≠ 0) (i : Int)
  (h1 : (Float64.cmp s 0 == some .eq) = false) (h2 : Float64.isFinite (Float64.mul h 4618441417868443648) = true) (h3 : toInt Float64.truncOf (Float64.mul h 4618441417868443648) = i) (h4 : 0 ≤ i ∧ i < 100) (fr pv qv tv : UInt64)
  (e1 : Float64.sub (Float64.mul h 4618441417868443648) (Float64.ofInt i) = fr) (e2 : Float64.mul v (Float64.sub f1 s) = pv) (e3 : Float64.mul v (Float64.sub f1 (Float64.mul s fr)) = qv)
  (e4 : Float64.mul v (Float64.sub f1 (Float64.mul s (Float64.sub f1 fr))) = tv) :
  PureC prog w (hd.heap_39 w.params) p loose mean mg mb 3 59 news [.float h t1, .float s t2, .float v t3] (fun r own =>
    if i.fmod 6 = 0 then Tup3 v tv pv r own else if i.fmod 6 = 1 then Tup3 qv v pv r own else if i.fmod 6 = 2 then Tup3 pv v tv r own else if i.fmod 6 = 3 then Tup3 pv qv v r own else if i.fmod 6 = 4 then Tup3 tv pv v r own else Tup3 v pv qv r own) := by
  unfold PureC
  intro dp un gd cn cs a ccd cl outer A₀ base h₀ L m s Q E B F X N T hk hd9 hu hret
  subst h3 e1 e2 e3 e4
  refine wpAny_call ?_
  k_dflt cell_enter
  (repeat' (first
    | (k_unfold; (try dsimp only))
    | (k_end; wrow_close)
    | (k_here; (with_reducible show wpAny _ _ (execs [] _) _ _ _); (with_reducible refine gen_toks ?_); intro tk9 hp9)
    | (k_here; (with_reducible show wpAny _ _ (execs (_ :: _) _) _ _ _); (with_reducible refine gen_toks ?_); intro tk9 hp9)
    | (k_here; (with_reducible show wpAny _ _ (PySem.call (Value.builtin "min") _ _) _ _ _); (with_reducible show wpAny _ _ (PySem.call _ [Value.float _ _, Value.float _ _, Value.float _ _]) _ _ _); (with_unfolding_all refine' min3_f (by exact rfl) (by k_asm) (by k_asm) (by assumption) (by assumption) (by assumption) (by assumption) ?_; k_whole; intro h' tk' t' kt' F' N'))
    | (k_here; (with_reducible show wpAny _ _ (PySem.call (Value.builtin "max") _ _) _ _ _); (with_reducible show wpAny _ _ (PySem.call _ [Value.float _ _, Value.float _ _, Value.float _ _]) _ _ _); (with_unfolding_all refine' max3_f (by exact rfl) (by k_asm) (by k_asm) (by assumption) (by assumption) (by assumption) (by assumption) ?_; k_whole; intro h' tk' t' kt' F' N'))
    | walk1
    | (dsimp only; walk1)
    | (leave1; (try dsimp only))))
  all_goals first
    | (refine' c_end hret ?F ?N ?l ?o; (case F => k_asm); (case N => k_asm); (case l => assumption); (case o => ((repeat (first | refine ite_p (by assumption) ?_ | refine ite_n (by assumption) ?_)); (refine ⟨_, _, _, _, ?_, ?_, ?_, rfl, rfl⟩ <;> (first | assumption | exact Nat.succ_ne_zero _ | exact Nat.ne_of_gt (by assumption))))))
    | (exact (fmod6 (by assumption) (by assumption) (by assumption) (by assumption) (by assumption) (by assumption)).elim)
    | (exfalso; (simp only [Int.fmod_eq_emod_of_nonneg _ (show (0 : Int) ≤ 6 by decide)] at *); omega)

set_option maxHeartbeats 4000000 in
theorem c_rgb_to_hsv {prog : Program} {w : World} {p : Program} {loose : List Str} {mean : ExcName → Option Value} {mg mb : Str → Option Value} (news : Led9) (r g b : UInt64) (t1 t2 t3 : Tok) (z1 : t1 ≠ 0) (z2 : t2 ≠ 0) (z3 : t3 ≠ 0) (M m' D : UInt64)
  (hM : mx3 r g b = M) (hm : mn3 r g b = m') (hD : Float64.sub M m' = D) (h1 : (Float64.cmp m' M == some .eq) = false) (h2 : Float64.isZero D = false) (h3 : Float64.isZero M = false) :
  PureC prog w (hd.heap_39 w.params) p loose mean mg mb 3 52 news [.float r t1, .float g t2, .float b t3] (fun res own => Tup3 (hueF r g b M D) (Float64.div D M) M res own) := by
  unfold PureC
  intro dp un gd cn cs a ccd cl outer A₀ base h₀ L m s Q E B F X N T hk hd9 hu hret
  subst hD
  refine wpAny_call ?_
  k_dflt cell_enter
  (repeat' (first
    | (k_unfold; (try dsimp only))
    | (k_end; wrow_close)
    | (k_here; (with_reducible show wpAny _ _ (execs [] _) _ _ _); (with_reducible refine gen_toks ?_); intro tk9 hp9)
    | (k_here; (with_reducible show wpAny _ _ (execs (_ :: _) _) _ _ _); (with_reducible refine gen_toks ?_); intro tk9 hp9)
    | (k_here; (with_reducible show wpAny _ _ (PySem.call (Value.builtin "min") _ _) _ _ _); (with_reducible show wpAny _ _ (PySem.call _ [Value.float _ _, Value.float _ _, Value.float _ _]) _ _ _); (with_unfolding_all refine' min3_f (by exact rfl) (by k_asm) (by k_asm) (by assumption) (by assumption) (by assumption) (by assumption) ?_; k_whole; intro h' tk' t' kt' F' N'))
    | (k_here; (with_reducible show wpAny _ _ (PySem.call (Value.builtin "max") _ _) _ _ _); (with_reducible show wpAny _ _ (PySem.call _ [Value.float _ _, Value.float _ _, Value.float _ _]) _ _ _); (with_unfolding_all refine' max3_f (by exact rfl) (by k_asm) (by k_asm) (by assumption) (by assumption) (by assumption) (by assumption) ?_; k_whole; intro h' tk' t' kt' F' N'))
    | walk1
    | (dsimp only; walk1)
    | (leave1; (try dsimp only))))
  all_goals first
    | (refine' c_end hret ?F ?N ?l ?o; (case F => k_asm); (case N => k_asm); (case l => assumption); (case o => ((first | rw [hueF_r (by assumption)] | rw [hueF_g (by assumption) (by assumption)] | rw [hueF_b (by assumption) (by assumption)]); (refine ⟨_, _, _, _, ?_, ?_, ?_, rfl, rfl⟩ <;> (first | assumption | exact Nat.succ_ne_zero _ | exact Nat.ne_of_gt (by assumption))))))

noncomputable def IfK (h₀ : Heap) (L : Addr) (s : Shared) (m : Str → Option Value) (x : Str) (v : UInt64) (news : Led9) (Qm : Flow → Shared → Prop) : Prop :=
  ∀ h' tk t v', v' = v → t ≠ 0 → Fr h₀ L h' (fun y => if y = x then some (.float v' t) else m y) → News h₀ L h' news → Qm .next { s with heap := h', toks := tk }
theorem ifk {h₀ : Heap} {L : Addr} {s : Shared} {m : Str → Option Value} {x : Str} {v : UInt64} {news : Led9} {Qm : Flow → Shared → Prop} (K : IfK h₀ L s m x v news Qm) {h' : Heap} {tk : Nat} {t : Tok} {v' : UInt64}
    {s₃ : Shared} (F : Fr h₀ L h' (fun y => if y = x then some (.float v' t) else m y)) (N : News h₀ L h' news) (e : v' = v) (ht : t ≠ 0) (e3 : s₃ = { s with heap := h', toks := tk }) : Qm .next s₃ := e3 ▸ K h' tk t v' e ht F N
theorem cut_if {M : Model} {A : Around} {E : Value → Shared → Prop} {Q : Flow → Shared → Prop} {s : Shared} {env : Env} {st : Stmt} {rest : List Stmt} {h₀ : Heap} {L : Addr} {m : Str → Option Value} {news : Led9} (x : Str) (v : UInt64) (F : Fr h₀ L s.heap m) (N : News h₀ L s.heap news)
    (h1 : ∀ Qm : Flow → Shared → Prop, IfK h₀ L s m x v news Qm → wpAny M A (exec st env) Qm E s)
    (h2 : ∀ h' tk t, t ≠ 0 → Fr h₀ L h' (fun y => if y = x then some (.float v t) else m y) → News h₀ L h' news → wpAny M A (execs rest env) Q E { s with heap := h', toks := tk }) : wpAny M A (execs (st :: rest) env) Q E s :=
  wpAny_execs_cons (h1 _ (fun h' tk t v' e ht F' N' => by subst e; exact h2 h' tk t ht F' N'))
set_option maxHeartbeats 4000000 in
theorem c_rgb_to_hls {prog : Program} {w : World} {p : Program} {loose : List Str} {mean : ExcName → Option Value} {mg mb : Str → Option Value} (news : Led9) (r g b : UInt64) (t1 t2 t3 : Tok) (z1 : t1 ≠ 0) (z2 : t2 ≠ 0) (z3 : t3 ≠ 0) (M m' D S l sh : UInt64)
  (hM : mx3 r g b = M) (hm : mn3 r g b = m') (hD : Float64.sub M m' = D) (hS : Float64.add M m' = S) (hl : Float64.div S f2 = l) (h1 : (Float64.cmp m' M == some .eq) = false) (h2 : Float64.isZero D = false)
  (hs : (Float64.isZero S = false ∧ (Float64.cmp l 4602678819172646912 == some .lt || Float64.cmp l 4602678819172646912 == some .eq) = true ∧ Float64.div D S = sh) ∨
        (Float64.isZero (Float64.sub (Float64.sub f2 M) m') = false ∧ (Float64.cmp l 4602678819172646912 == some .lt || Float64.cmp l 4602678819172646912 == some .eq) = false ∧ Float64.div D (Float64.sub (Float64.sub f2 M) m') = sh)) :
  PureC prog w (hd.heap_39 w.params) p loose mean mg mb 3 45 news [.float r t1, .float g t2, .float b t3] (fun res own => Tup3 (hueF r g b M D) l sh res own) := by
  unfold PureC
  intro dp un gd cn cs a ccd cl outer A₀ base h₀ L m s Q E B F X N T hk hd9 hu hret
  subst hD hS hl
  refine wpAny_call ?_
  k_dflt cell_enter
  (repeat' (first
    | (k_unfold; (try dsimp only))
    | (k_end; wrow_close)
    | ((with_reducible show wpAny _ _ (execs (PySem.Stmt.If (PySem.Expr.Compare (PySem.Expr.Name _ _) [PySem.CmpOp.LtE] _ _) _ _ _ :: _) _) _ _ _); (k_dflt refine cut_if (PySem.Str.ofString "s") sh (by k_asm) (by k_asm) ?_ ?_); focus (intro Qm9 hK9; rcases hs with ⟨h3, h4, e9⟩ | ⟨h3, h4, e9⟩); all_goals (intros; (try dsimp only)))
    | (k_here; (with_reducible show wpAny _ _ (execs [] _) _ _ _); (with_reducible refine gen_toks ?_); intro tk9 hp9)
    | (k_here; (with_reducible show wpAny _ _ (execs (_ :: _) _) _ _ _); (with_reducible refine gen_toks ?_); intro tk9 hp9)
    | (k_here; (with_reducible show wpAny _ _ (PySem.call (Value.builtin "min") _ _) _ _ _); (with_reducible show wpAny _ _ (PySem.call _ [Value.float _ _, Value.float _ _, Value.float _ _]) _ _ _); (with_unfolding_all refine' min3_f (by exact rfl) (by k_asm) (by k_asm) (by assumption) (by assumption) (by assumption) (by assumption) ?_; k_whole; intro h' tk' t' kt' F' N'))
    | (k_here; (with_reducible show wpAny _ _ (PySem.call (Value.builtin "max") _ _) _ _ _); (with_reducible show wpAny _ _ (PySem.call _ [Value.float _ _, Value.float _ _, Value.float _ _]) _ _ _); (with_unfolding_all refine' max3_f (by exact rfl) (by k_asm) (by k_asm) (by assumption) (by assumption) (by assumption) (by assumption) ?_; k_whole; intro h' tk' t' kt' F' N'))
    | walk1
    | (dsimp only; walk1)
    | (leave1; (try dsimp only))))
  all_goals first
    | (refine' ifk ?K ?F ?N ?e ?t ?e3; (case K => with_reducible assumption); (case F => k_asm); (case N => k_asm); (case e => assumption); (case t => first | assumption | exact Nat.succ_ne_zero _ | exact Nat.ne_of_gt (by assumption)); (case e3 => exact rfl))
    | (refine' c_end hret ?F ?N ?l ?o; (case F => k_asm); (case N => k_asm); (case l => assumption); (case o => ((first | rw [hueF_r (by assumption)] | rw [hueF_g (by assumption) (by assumption)] | rw [hueF_b (by assumption) (by assumption)]); (refine ⟨_, _, _, _, ?_, ?_, ?_, rfl, rfl⟩ <;> (first | assumption | exact Nat.succ_ne_zero _ | exact Nat.ne_of_gt (by assumption))))))

set_option maxHeartbeats 4000000 in
theorem c_hls_grey {prog : Program} {w : World} {p : Program} {loose : List Str} {mean : ExcName → Option Value} {mg mb : Str → Option Value} (news : Led9) (r g b : UInt64) (t1 t2 t3 : Tok) (z1 : t1 ≠ 0) (z2 : t2 ≠ 0) (z3 : t3 ≠ 0) (M m' l : UInt64)
  (hM : mx3 r g b = M) (hm : mn3 r g b = m') (hl : Float64.div (Float64.add M m') f2 = l) (h1 : (Float64.cmp m' M == some .eq) = true) :
  PureC prog w (hd.heap_39 w.params) p loose mean mg mb 3 45 news [.float r t1, .float g t2, .float b t3] (fun res own => Tup3 0 l 0 res own) := by
  unfold PureC
  intro dp un gd cn cs a ccd cl outer A₀ base h₀ L m s Q E B F X N T hk hd9 hu hret
  subst hl
  refine wpAny_call ?_
  k_dflt cell_enter
  (repeat' (first
    | (k_unfold; (try dsimp only))
    | (k_end; wrow_close)
    | (k_here; (with_reducible show wpAny _ _ (execs [] _) _ _ _); (with_reducible refine gen_toks ?_); intro tk9 hp9)
    | (k_here; (with_reducible show wpAny _ _ (execs (_ :: _) _) _ _ _); (with_reducible refine gen_toks ?_); intro tk9 hp9)
    | (k_here; (with_reducible show wpAny _ _ (PySem.call (Value.builtin "min") _ _) _ _ _); (with_reducible show wpAny _ _ (PySem.call _ [Value.float _ _, Value.float _ _, Value.float _ _]) _ _ _); (with_unfolding_all refine' min3_f (by exact rfl) (by k_asm) (by k_asm) (by assumption) (by assumption) (by assumption) (by assumption) ?_; k_whole; intro h' tk' t' kt' F' N'))
    | (k_here; (with_reducible show wpAny _ _ (PySem.call (Value.builtin "max") _ _) _ _ _); (with_reducible show wpAny _ _ (PySem.call _ [Value.float _ _, Value.float _ _, Value.float _ _]) _ _ _); (with_unfolding_all refine' max3_f (by exact rfl) (by k_asm) (by k_asm) (by assumption) (by assumption) (by assumption) (by assumption) ?_; k_whole; intro h' tk' t' kt' F' N'))
    | walk1
    | (dsimp only; walk1)
    | (leave1; (try dsimp only))))
  all_goals first
    | (refine' c_end hret ?F ?N ?l ?o; (case F => k_asm); (case N => k_asm); (case l => assumption); (case o => ((refine ⟨_, _, _, _, ?_, ?_, ?_, rfl, rfl⟩ <;> (first | assumption | exact Nat.succ_ne_zero _ | exact Nat.ne_of_gt (by assumption))))))
end
section
open PySem PySem.W PyProof.Rows PySem.Flt
theorem fillC2 (w : World) (h : Heap) : PySem.Challenge.rw_pm0065_01.Holds → (hd.heap_39 w.params).In h → True := by
  k_fill
  intros; trivial
noncomputable abbrev lst (vs : List Value) (n : Nat) : Obj := { cls := .type "list", data := .seq vs.toArray n }

section
variable {prog : Program} {w : World} {A : Around} {E : Value → Shared → Prop} {s : Shared} {Q : Value → Shared → Prop} {h₀ : Heap} {L : Addr} {m : Str → Option Value} {news : List (Addr × Obj)}
theorem my_item {value slice : PySem.Expr} {l : Addr} {vs : List Value} {ns : List Int} {n : Nat} {k : Int} {u : Tok} (N : News h₀ L s.heap news) (hm : (l, lst vs n) ∈ news) (hi : IntsAre vs ns)
    (h0 : 0 ≤ k) (hhi : k < ns.length) (hf : vs.length < 2 ^ 62) (h : ∀ t, Q (.int (ns.getD k.toNat 0) t) s)
    (hs : subscripted slice false (.ref l) (.int k u) = operate [.ref l, .int k u] (getItem (.ref l) (.int k u))) :
    wpAny (model prog w) A (subscriptTail value slice (.ref l) (.int k u)) Q E s := by
  have hL : s.heap.IsList l vs.toArray := ⟨_, (N _ hm).1, rfl, n, rfl⟩
  have hlen := hi.length
  have hk : k.toNat < ns.length := by (first | lia | omega)
  obtain ⟨t, ht⟩ := hi.get k.toNat ns[k.toNat] (by simp [hk])
  have e : ns.getD k.toNat 0 = ns[k.toNat] := by simp [List.getD_eq_getElem?_getD, hk]
  refine tail_any hL.typeIs slot_list_getitem.lookup (wpAny_getItem_list hL h0 (by (first | lia | omega)) (x := .int ns[k.toNat] t) (by simpa using ht) ?_) hs
  have := h t
  rw [e] at this
  exact this
end
theorem my_len {l : Addr} {vs : List Value} {n : Nat} {news : List (Addr × Obj)} {h₀ : Heap} {L : Addr} {prog : Program} {w : World} {A : Around} {E : Value → Shared → Prop} {s : Shared} {Q : Value → Shared → Prop} (N : News h₀ L s.heap news) (hm : (l, lst vs n) ∈ news)
    (hf : vs.length < 2 ^ 62) (h : Q (.int vs.length (s.toks + 1)) { s with toks := s.toks + 1 + 1 }) : wpAny (model prog w) A (call (.builtin "len") [.ref l]) Q E s :=
  len_list ⟨_, (N _ hm).1, rfl, n, rfl⟩ (by rw [List.size_toArray]; omega) (by simpa using h)

/-- where x goes in ns, behind lo -/
noncomputable def Goes (ns : List Int) (x lo k : Int) : Prop := lo ≤ k ∧ k ≤ ns.length ∧ (∀ j : Nat, lo ≤ j → (j : Int) < k → ns.getD j 0 < x) ∧ (∀ j : Nat, k ≤ j → j < ns.length → x ≤ ns.getD j 0)


noncomputable abbrev sLo : Str := Str.ofString "lo"
noncomputable abbrev sHi : Str := Str.ofString "hi"
noncomputable abbrev sMid : Str := Str.ofString "mid"
noncomputable abbrev mapB (m : Str → Option Value) (lo : Int) (t1 : Tok) (hi : Int) (t2 : Tok) (u : Option Value) : Str → Option Value := fun y => if y = sLo then some (.int lo t1) else if y = sHi then some (.int hi t2) else if y = sMid then u else m y
/-- what the search has found so far -/
noncomputable def BI (ns : List Int) (x lo₀ : Int) (lo hi : Int) : Prop := lo₀ ≤ lo ∧ lo ≤ hi ∧ hi ≤ ns.length ∧ (∀ j : Nat, lo₀ ≤ j → (j : Int) < lo → ns.getD j 0 < x) ∧ (∀ j : Nat, hi ≤ j → j < ns.length → x ≤ ns.getD j 0)
noncomputable def BStep (h₀ : Heap) (L : Addr) (s : Shared) (m : Str → Option Value) (news : Led9) (I : Int → Int → Prop) (lo hi : Int) (f : Flow) (s₃ : Shared) : Prop :=
  f = .next ∧ ∃ h' tk m₂ lo' hi' t1 t2, s₃ = { s with heap := h', toks := tk } ∧ Fr h₀ L h' m₂ ∧ News h₀ L h' news ∧ m₂ sLo = some (.int lo' t1) ∧ m₂ sHi = some (.int hi' t2) ∧ (∀ z, z ≠ sLo → z ≠ sHi → z ≠ sMid → m₂ z = m z) ∧ I lo' hi' ∧ hi' - lo' < hi - lo
theorem bis_while {prog : Program} {w : World} {A : Around} {E : Value → Shared → Prop} {Q : Flow → Shared → Prop} {s : Shared} {env : Env} {h₀ : Heap} {L : Addr} {test : Expr} {body : List Stmt} {pos : Pos} {m : Str → Option Value} {news : Led9}
    (I : Int → Int → Prop) {lo hi : Int} {t1 t2 : Tok} (F : Fr h₀ L s.heap m) (N : News h₀ L s.heap news) (e1 : m sLo = some (.int lo t1)) (e2 : m sHi = some (.int hi t2)) (hI : I lo hi) (hle : ∀ a b, I a b → a ≤ b)
    (turn : ∀ lo hi t1 t2 u h₁ tk₁, I lo hi → Fr h₀ L h₁ (mapB m lo t1 hi t2 u) → News h₀ L h₁ news →
      wpAny (model prog w) A (isTrue test env (eval test env)) (fun b s₂ =>
        if b = true then wpAny (model prog w) A (execs body env) (BStep h₀ L s m news I lo hi) E s₂ else Q .next s₂) E { s with heap := h₁, toks := tk₁ })
    (hE : PassesOwn (model prog w) A env E) :
    wpAny (model prog w) A (exec (.While test body [] pos) env) Q E s := by
  refine While_inv (J := fun k m₂ nw => nw = news ∧ ∃ lo hi t1 t2, m₂ sLo = some (.int lo t1) ∧ m₂ sHi = some (.int hi t2) ∧ (∀ z, z ≠ sLo → z ≠ sHi → z ≠ sMid → m₂ z = m z) ∧ I lo hi ∧ (hi - lo).toNat = k) (n₀ := (hi - lo).toNat) F N
    ⟨rfl, lo, hi, t1, t2, e1, e2, fun _ _ _ _ => rfl, hI, rfl⟩ ?_ hE
  rintro k m₁ nw h₁ tk₁ F₁ N₁ ⟨rfl, lo', hi', t1', t2', a1, a2, a3, hI', rfl⟩
  have em : m₁ = mapB m lo' t1' hi' t2' (m₁ sMid) := by
    funext y
    unfold mapB
    by_cases h1 : y = sLo
    · rw [if_pos h1, h1, a1]
    · rw [if_neg h1]
      by_cases h2 : y = sHi
      · rw [if_pos h2, h2, a2]
      · rw [if_neg h2]
        by_cases h3 : y = sMid
        · rw [if_pos h3, h3]
        · rw [if_neg h3, a3 y h1 h2 h3]
  rw [em] at F₁
  refine wpAny_mono (turn lo' hi' t1' t2' _ h₁ tk₁ hI' F₁ N₁) (fun b s₂ h₂ => ?_) fun _ _ e => e
  cases b with
  | false => simpa using h₂
  | true =>
    simp only [if_true] at h₂ ⊢
    refine wpAny_mono h₂ (fun f s₃ h₃ => ?_) fun _ _ e => e
    refine Classical.byContradiction fun hn9 => ?_
    obtain ⟨rfl, h', tk, m₂, lo2, hi2, u1, u2, rfl, F₂, N₂, b1, b2, b3, hI2, hlt⟩ := h₃
    refine hn9 ?_
    clear hn9
    refine ⟨rfl, h', tk, m₂, _, (hi2 - lo2).toNat, rfl, F₂, N₂, ?_, rfl, lo2, hi2, u1, u2, b1, b2, b3, hI2, rfl⟩
    have := hle _ _ hI2
    (first | lia | omega)
theorem bi_lo {ns : List Int} {x lo₀ lo hi : Int} (hsorted : ∀ i j : Nat, i ≤ j → j < ns.length → ns.getD i 0 ≤ ns.getD j 0) (h0 : 0 ≤ lo₀) (I : BI ns x lo₀ lo hi) (hlt : lo < hi) (hc : ns.getD ((lo + hi).fdiv 2).toNat 0 < x) : BI ns x lo₀ ((lo + hi).fdiv 2 + 1) hi ∧ hi - ((lo + hi).fdiv 2 + 1) < hi - lo := by
  obtain ⟨a, b, c, d, e⟩ := I
  rw [Int.fdiv_eq_ediv_of_nonneg _ (by decide)] at *
  refine ⟨⟨by (first | lia | omega), by (first | lia | omega), c, fun j h1 h2 => ?_, e⟩, by (first | lia | omega)⟩
  have := hsorted j ((lo + hi) / 2).toNat (by (first | lia | omega)) (by (first | lia | omega))
  (first | lia | omega)
theorem bi_hi {ns : List Int} {x lo₀ lo hi : Int} (hsorted : ∀ i j : Nat, i ≤ j → j < ns.length → ns.getD i 0 ≤ ns.getD j 0) (h0 : 0 ≤ lo₀) (I : BI ns x lo₀ lo hi) (hlt : lo < hi) (hc : ¬ ns.getD ((lo + hi).fdiv 2).toNat 0 < x) : BI ns x lo₀ lo ((lo + hi).fdiv 2) ∧ (lo + hi).fdiv 2 - lo < hi - lo := by
  obtain ⟨a, b, c, d, e⟩ := I
  rw [Int.fdiv_eq_ediv_of_nonneg _ (by decide)] at *
  refine ⟨⟨a, by (first | lia | omega), by (first | lia | omega), d, fun j h1 h2 => ?_⟩, by (first | lia | omega)⟩
  have := hsorted ((lo + hi) / 2).toNat j (by (first | lia | omega)) (by (first | lia | omega))
  (first | lia | omega)
theorem bi_mid0 {ns : List Int} {x lo₀ lo hi : Int} (I : BI ns x lo₀ lo hi) (hlt : lo < hi) (h0 : 0 ≤ lo₀) : 0 ≤ (lo + hi).fdiv 2 := by
  obtain ⟨a, b, c, d, e⟩ := I
  rw [Int.fdiv_eq_ediv_of_nonneg _ (by decide)]
  (first | lia | omega)
theorem bi_mid1 {ns : List Int} {x lo₀ lo hi : Int} (I : BI ns x lo₀ lo hi) (hlt : lo < hi) : (lo + hi).fdiv 2 < ns.length := by
  obtain ⟨a, b, c, d, e⟩ := I
  rw [Int.fdiv_eq_ediv_of_nonneg _ (by decide)]
  (first | lia | omega)
theorem b_end {h₀ h' : Heap} {L : Addr} {s : Shared} {m m₂ : Str → Option Value} {news : Led9} {I : Int → Int → Prop} {lo hi lo' hi' : Int} {t1 t2 : Tok} {tk : Nat} (F : Fr h₀ L h' m₂) (N : News h₀ L h' news) (e1 : m₂ sLo = some (.int lo' t1)) (e2 : m₂ sHi = some (.int hi' t2))
    (e3 : ∀ z, z ≠ sLo → z ≠ sHi → z ≠ sMid → m₂ z = m z) (hI : I lo' hi' ∧ hi' - lo' < hi - lo) : BStep h₀ L s m news I lo hi .next { s with heap := h', toks := tk } := ⟨rfl, h', tk, m₂, lo', hi', t1, t2, rfl, F, N, e1, e2, e3, hI⟩

theorem b_ret {h₀ h' : Heap} {L : Addr} {s : Shared} {m : Str → Option Value} {news : Led9} {Q : Value → Shared → Prop} {ns : List Int} {x lo₀ : Int}
    (hret : ∀ r own h' tk', (own = [] ∧ ∃ k t, r = .int k t ∧ Goes ns x lo₀ k) → Fr h₀ L h' m → News h₀ L h' (own ++ news) → (∀ q ∈ own, ∀ p ∈ news, p.1 < q.1) → Q r { s with heap := h', toks := tk' }) {lo hi : Int} {t : Tok} {tk : Nat}
    (F : Fr h₀ L h' m) (N : News h₀ L h' news) (I : BI ns x lo₀ lo hi) (hc : ¬ lo < hi) : Q (.int lo t) { s with heap := h', toks := tk } := by
  obtain ⟨a, b, c, d, e⟩ := I
  have : hi = lo := by (first | lia | omega)
  subst this
  exact hret _ [] _ _ ⟨rfl, _, _, rfl, a, c, d, e⟩ F N fun _ h => nomatch h

set_option maxHeartbeats 4000000 in
theorem c_bisect2 {prog : Program} {w : World} {p : Program} {loose : List Str} {mean : ExcName → Option Value} {mg mb : Str → Option Value} (news : Led9) (la : Addr) (vs : List Value) (ns : List Int) (n : Nat) (x : Int) (t1 : Tok)
  (hm : (la, lst vs n) ∈ news) (hi : IntsAre vs ns) (hf : vs.length < 2 ^ 62) (hsorted : ∀ i j : Nat, i ≤ j → j < ns.length → ns.getD i 0 ≤ ns.getD j 0) :
  PureC prog w (hd.heap_39 w.params) p loose mean mg mb 3 77 news [.ref la, .int x t1] (fun res own => own = [] ∧ ∃ k t, res = .int k t ∧ Goes ns x 0 k) := by
  unfold PureC
  intro dp un gd cn cs a ccd cl outer A₀ base h₀ L m s Q E B F X N T hk hd9 hu hret
  have I0 : BI ns x 0 0 vs.length := ⟨Int.le_refl _, by omega, by rw [hi.length]; exact Int.le_refl _, fun j _ h => by omega, fun j h1 h2 => by have := hi.length; omega⟩
  refine wpAny_call ?_
  k_dflt (refine' code_def ?ce_k1 ?ce_k2 ?ce_k3 ?ce_k4 ?ce_k5 ?ce_kA ?ce_kF ?ce_kK ?ce_k6 ?ce_k7 ?ce_k8 ?ce_k9 ?ce_kB ?_ ?ce_c2 ?ce_c3 ?ce_c4 ?ce_c5; (case ce_kA => exact rfl); (case ce_kF => exact rfl); (case ce_kK => assumption); (case ce_k1 => k_asm); (case ce_k2 => k_asm); (case ce_k3 => k_asm); (case ce_k4 => k_asm); (case ce_k5 => k_asm); (case ce_k6 => k_is); (case ce_k7 => k_is); (case ce_k8 => ktr_room); (case ce_k9 => first | exact BindsTo.of_eq rfl | exact binds_K (by k_in) rfl (by k_is) rfl rfl rfl | (refine' kp_binds ?ce_kx ?ce_ke; (case ce_kx => k_in); (case ce_ke => exact fun _ => rfl))); (case ce_c5 => decide); (case ce_kB => exact locs rfl); (case ce_c2 => exact rfl); (case ce_c3 => exact rfl); (case ce_c4 => exact rfl); k_whole; intro g' L' h' FG' F' N' B' X' T'; (try dsimp only); (try k_fold))
  (repeat' (first
    | (k_unfold; (try dsimp only))
    | (k_end; wrow_close)
    | (k_here; (with_reducible show wpAny _ _ (subscriptTail (PySem.Expr.Name _ _) (PySem.Expr.Name _ _) (Value.ref _) (Value.int _ _)) _ _ _); (with_unfolding_all refine' my_item (by k_asm) (by assumption) (by assumption) (by (first | omega | exact bi_mid0 (by assumption) (by assumption) (by omega))) (by (first | omega | exact bi_mid1 (by assumption) (by assumption))) (by assumption) ?_ (by with_unfolding_all rfl); k_whole; intro t'))
    | (k_here; (with_reducible show wpAny _ _ (exec (PySem.Stmt.While _ _ _ _) _) _ _ _); (with_unfolding_all refine' bis_while (BI _ _ _) (by k_asm) (by k_asm) (by with_unfolding_all rfl) (by with_unfolding_all rfl) (by assumption) (by exact fun _ _ h => h.2.1) ?_ (by with_unfolding_all passes_own)); (intro lo' hi' t1' t2' u' h' tk' I' F' N'))
    | (k_here; (with_reducible show wpAny _ _ (PySem.call (Value.builtin "len") _ _) _ _ _); (with_unfolding_all refine' my_len (by k_asm) (by assumption) (by assumption) ?_; k_whole))
    | walk1
    | (dsimp only; walk1)
    | (leave1; (try dsimp only))))
  all_goals first
    | (refine' b_end ?F ?N ?e1 ?e2 ?e3 ?I; (case F => k_asm); (case N => k_asm); (case e1 => with_unfolding_all rfl); (case e2 => with_unfolding_all rfl); (case e3 => (intro z h1 h2 h3; simp [mapB, h1, h2, h3])); (case I => first | exact bi_lo hsorted (by omega) (by assumption) (by assumption) (by assumption) | exact bi_hi hsorted (by omega) (by assumption) (by assumption) (by omega)))
    | (refine' b_ret hret ?F ?N ?I ?c; (case F => k_asm); (case N => k_asm); (case I => assumption); (case c => omega))
set_option maxHeartbeats 4000000 in
theorem c_bisect3 {prog : Program} {w : World} {p : Program} {loose : List Str} {mean : ExcName → Option Value} {mg mb : Str → Option Value} (news : Led9) (la : Addr) (vs : List Value) (ns : List Int) (n : Nat) (x : Int) (t1 : Tok)
  (hm : (la, lst vs n) ∈ news) (hi : IntsAre vs ns) (hf : vs.length < 2 ^ 62) (hsorted : ∀ i j : Nat, i ≤ j → j < ns.length → ns.getD i 0 ≤ ns.getD j 0) (lo : Int) (t2 : Tok) (hlo : 0 ≤ lo ∧ lo ≤ ns.length) :
  PureC prog w (hd.heap_39 w.params) p loose mean mg mb 3 77 news [.ref la, .int x t1, .int lo t2] (fun res own => own = [] ∧ ∃ k t, res = .int k t ∧ Goes ns x lo k) := by
  unfold PureC
  intro dp un gd cn cs a ccd cl outer A₀ base h₀ L m s Q E B F X N T hk hd9 hu hret
  have I0 : BI ns x lo lo vs.length := ⟨Int.le_refl _, by have := hi.length; (first | lia | omega), by rw [hi.length]; exact Int.le_refl _, fun j _ h => by (first | lia | omega), fun j h1 h2 => by have := hi.length; (first | lia | omega)⟩
  refine wpAny_call ?_
  k_dflt (refine' code_def ?ce_k1 ?ce_k2 ?ce_k3 ?ce_k4 ?ce_k5 ?ce_kA ?ce_kF ?ce_kK ?ce_k6 ?ce_k7 ?ce_k8 ?ce_k9 ?ce_kB ?_ ?ce_c2 ?ce_c3 ?ce_c4 ?ce_c5; (case ce_kA => exact rfl); (case ce_kF => exact rfl); (case ce_kK => assumption); (case ce_k1 => k_asm); (case ce_k2 => k_asm); (case ce_k3 => k_asm); (case ce_k4 => k_asm); (case ce_k5 => k_asm); (case ce_k6 => k_is); (case ce_k7 => k_is); (case ce_k8 => ktr_room); (case ce_k9 => first | exact BindsTo.of_eq rfl | exact binds_K (by k_in) rfl (by k_is) rfl rfl rfl | (refine' kp_binds ?ce_kx ?ce_ke; (case ce_kx => k_in); (case ce_ke => exact fun _ => rfl))); (case ce_c5 => decide); (case ce_kB => exact locs rfl); (case ce_c2 => exact rfl); (case ce_c3 => exact rfl); (case ce_c4 => exact rfl); k_whole; intro g' L' h' FG' F' N' B' X' T'; (try dsimp only); (try k_fold))
  (repeat' (first
    | (k_unfold; (try dsimp only))
    | (k_end; wrow_close)
    | (k_here; (with_reducible show wpAny _ _ (subscriptTail (PySem.Expr.Name _ _) (PySem.Expr.Name _ _) (Value.ref _) (Value.int _ _)) _ _ _); (with_unfolding_all refine' my_item (by k_asm) (by assumption) (by assumption) (by (first | omega | exact bi_mid0 (by assumption) (by assumption) (by omega))) (by (first | omega | exact bi_mid1 (by assumption) (by assumption))) (by assumption) ?_ (by with_unfolding_all rfl); k_whole; intro t'))
    | (k_here; (with_reducible show wpAny _ _ (exec (PySem.Stmt.While _ _ _ _) _) _ _ _); (with_unfolding_all refine' bis_while (BI _ _ _) (by k_asm) (by k_asm) (by with_unfolding_all rfl) (by with_unfolding_all rfl) (by assumption) (by exact fun _ _ h => h.2.1) ?_ (by with_unfolding_all passes_own)); (intro lo' hi' t1' t2' u' h' tk' I' F' N'))
    | (k_here; (with_reducible show wpAny _ _ (PySem.call (Value.builtin "len") _ _) _ _ _); (with_unfolding_all refine' my_len (by k_asm) (by assumption) (by assumption) ?_; k_whole))
    | walk1
    | (dsimp only; walk1)
    | (leave1; (try dsimp only))))
  all_goals first
    | (refine' b_end ?F ?N ?e1 ?e2 ?e3 ?I; (case F => k_asm); (case N => k_asm); (case e1 => with_unfolding_all rfl); (case e2 => with_unfolding_all rfl); (case e3 => (intro z h1 h2 h3; simp [mapB, h1, h2, h3])); (case I => first | exact bi_lo hsorted (by (first | lia | omega)) (by assumption) (by assumption) (by assumption) | exact bi_hi hsorted (by (first | lia | omega)) (by assumption) (by assumption) (by (first | lia | omega))))
    | (refine' b_ret hret ?F ?N ?I ?c; (case F => k_asm); (case N => k_asm); (case I => assumption); (case c => (first | lia | omega)))
set_option maxHeartbeats 4000000 in
theorem c_bisect4 {prog : Program} {w : World} {p : Program} {loose : List Str} {mean : ExcName → Option Value} {mg mb : Str → Option Value} (news : Led9) (la : Addr) (vs : List Value) (ns : List Int) (n : Nat) (x : Int) (t1 : Tok)
  (hm : (la, lst vs n) ∈ news) (hi : IntsAre vs ns) (hf : vs.length < 2 ^ 62) (hsorted : ∀ i j : Nat, i ≤ j → j < ns.length → ns.getD i 0 ≤ ns.getD j 0) (lo : Int) (t2 : Tok) (hlo : 0 ≤ lo ∧ lo ≤ ns.length) :
  PureC prog w (hd.heap_39 w.params) p loose mean mg mb 3 77 news [.ref la, .int x t1, .int lo t2, .none] (fun res own => own = [] ∧ ∃ k t, res = .int k t ∧ Goes ns x lo k) := by
  unfold PureC
  intro dp un gd cn cs a ccd cl outer A₀ base h₀ L m s Q E B F X N T hk hd9 hu hret
  have I0 : BI ns x lo lo vs.length := ⟨Int.le_refl _, by have := hi.length; (first | lia | omega), by rw [hi.length]; exact Int.le_refl _, fun j _ h => by (first | lia | omega), fun j h1 h2 => by have := hi.length; (first | lia | omega)⟩
  refine wpAny_call ?_
  k_dflt (refine' code_def ?ce_k1 ?ce_k2 ?ce_k3 ?ce_k4 ?ce_k5 ?ce_kA ?ce_kF ?ce_kK ?ce_k6 ?ce_k7 ?ce_k8 ?ce_k9 ?ce_kB ?_ ?ce_c2 ?ce_c3 ?ce_c4 ?ce_c5; (case ce_kA => exact rfl); (case ce_kF => exact rfl); (case ce_kK => assumption); (case ce_k1 => k_asm); (case ce_k2 => k_asm); (case ce_k3 => k_asm); (case ce_k4 => k_asm); (case ce_k5 => k_asm); (case ce_k6 => k_is); (case ce_k7 => k_is); (case ce_k8 => ktr_room); (case ce_k9 => first | exact BindsTo.of_eq rfl | exact binds_K (by k_in) rfl (by k_is) rfl rfl rfl | (refine' kp_binds ?ce_kx ?ce_ke; (case ce_kx => k_in); (case ce_ke => exact fun _ => rfl))); (case ce_c5 => decide); (case ce_kB => exact locs rfl); (case ce_c2 => exact rfl); (case ce_c3 => exact rfl); (case ce_c4 => exact rfl); k_whole; intro g' L' h' FG' F' N' B' X' T'; (try dsimp only); (try k_fold))
  (repeat' (first
    | (k_unfold; (try dsimp only))
    | (k_end; wrow_close)
    | (k_here; (with_reducible show wpAny _ _ (subscriptTail (PySem.Expr.Name _ _) (PySem.Expr.Name _ _) (Value.ref _) (Value.int _ _)) _ _ _); (with_unfolding_all refine' my_item (by k_asm) (by assumption) (by assumption) (by (first | omega | exact bi_mid0 (by assumption) (by assumption) (by omega))) (by (first | omega | exact bi_mid1 (by assumption) (by assumption))) (by assumption) ?_ (by with_unfolding_all rfl); k_whole; intro t'))
    | (k_here; (with_reducible show wpAny _ _ (exec (PySem.Stmt.While _ _ _ _) _) _ _ _); (with_unfolding_all refine' bis_while (BI _ _ _) (by k_asm) (by k_asm) (by with_unfolding_all rfl) (by with_unfolding_all rfl) (by assumption) (by exact fun _ _ h => h.2.1) ?_ (by with_unfolding_all passes_own)); (intro lo' hi' t1' t2' u' h' tk' I' F' N'))
    | (k_here; (with_reducible show wpAny _ _ (PySem.call (Value.builtin "len") _ _) _ _ _); (with_unfolding_all refine' my_len (by k_asm) (by assumption) (by assumption) ?_; k_whole))
    | walk1
    | (dsimp only; walk1)
    | (leave1; (try dsimp only))))
  all_goals first
    | (refine' b_end ?F ?N ?e1 ?e2 ?e3 ?I; (case F => k_asm); (case N => k_asm); (case e1 => with_unfolding_all rfl); (case e2 => with_unfolding_all rfl); (case e3 => (intro z h1 h2 h3; simp [mapB, h1, h2, h3])); (case I => first | exact bi_lo hsorted (by (first | lia | omega)) (by assumption) (by assumption) (by assumption) | exact bi_hi hsorted (by (first | lia | omega)) (by assumption) (by assumption) (by (first | lia | omega))))
    | (refine' b_ret hret ?F ?N ?I ?c; (case F => k_asm); (case N => k_asm); (case I => assumption); (case c => (first | lia | omega)))
end
section
open PySem PySem.W PyProof.Rows PySem.Flt
theorem fillC3 (w : World) (h : Heap) : PySem.Challenge.rw_pm0065_01.Holds → (hd.heap_39 w.params).In h → True := by
  k_fill
  intros; trivial

/-- what a call of a def does to the ledger -/
noncomputable abbrev MutC (prog : Program) (w : World) (K : Frag) (p : Program) (loose : List Str) (mean : ExcName → Option Value) (mg mb : Str → Option Value) (lev : Nat) (f : Addr) (news : Led9) (vs : List Value) (Out : Value → Led9 → Prop) : Prop :=
  ∀ (dp un : Nat) (gd : Option (List Code)) (cn : Str) (cs : Scope) (a : Addr) (ccd : Value) (cl : List (Str × Addr)) (outer : List Env) (A₀ : Around) (base h₀ : Heap) (L : Addr) (m : Str → Option Value) (s : Shared) (Q E : Value → Shared → Prop),
    Below A₀ base outer h₀ → Fr h₀ L s.heap m → K.In h₀ → News h₀ L s.heap news → Top p loose mean mg mb h₀ → cs.kind = .function → dp + lev < recursionLimit → un + 8 * lev < cLine →
    (∀ r led h' tk', Out r led → Fr h₀ L h' m → News h₀ L h' led → Q r { s with heap := h', toks := tk' }) →
    wpAny (model prog w) (ktrTop dp un gd cn cs L a ccd cl outer) (call (.ref f) vs) Q E s


theorem fitsIdx {k : Int} (h0 : 0 ≤ k) (h : k < 2 ^ 63) : Builtin.List.listFitsIndex k = true := by
  unfold Builtin.List.listFitsIndex
  simp
  omega
theorem goes_ge {ns : List Int} {x k : Int} (h : Goes ns x 0 k) : 0 ≤ k := h.1
theorem goes_lt {ns : List Int} {x lo k : Int} (h : Goes ns x lo k) (hl : ns.length < 2 ^ 62) : k < 2 ^ 63 := by
  have := h.2.1
  omega
theorem my_insert {prog : Program} {w : World} {A : Around} {E : Value → Shared → Prop} {s : Shared} {h₀ : Heap} {L D : Addr} {m : Str → Option Value} {news : Led9} {vs : List Value} {n : Nat} {x : Int} {u : Tok} {y : Value} {Q : Value → Shared → Prop} {upd : Obj → Led9}
    (F : Fr h₀ L s.heap m) (N : News h₀ L s.heap news) (hU : ∀ o', Upd D (lst vs n) o' news (upd o')) (h0 : 0 ≤ x) (hx : x < 2 ^ 63) (hz : vs.length ≤ sizeLine)
    (h : ∀ h', Fr h₀ L h' m → News h₀ L h' (upd (lst (kl_ins vs x y) (n + 1))) → Q .none { s with heap := h' }) : wpAny (model prog w) A (call (.builtin "list.insert") [.ref D, .int x u, y]) Q E s :=
  kl_insert (its := vs.toArray) F N (fitsIdx h0 hx) rfl (hU _) hz h
set_option maxHeartbeats 4000000 in
theorem c_insort {prog : Program} {w : World} {p : Program} {loose : List Str} {mean : ExcName → Option Value} {mg mb : Str → Option Value} (news : Led9) (la : Addr) (vs : List Value) (ns : List Int) (n : Nat) (x : Int) (t1 : Tok) (upd : Obj → Led9)
  (hm : (la, lst vs n) ∈ news) (hi : IntsAre vs ns) (hf : vs.length < 2 ^ 20) (hsorted : ∀ i j : Nat, i ≤ j → j < ns.length → ns.getD i 0 ≤ ns.getD j 0) (hU : ∀ o', Upd la (lst vs n) o' news (upd o')) :
  MutC prog w (hd.heap_39 w.params) p loose mean mg mb 6 68 news [.ref la, .int x t1] (fun res led => res = .none ∧ ∃ k, Goes ns x 0 k ∧ led = upd (lst (kl_ins vs k (.int x t1)) (n + 1))) := by
  unfold MutC
  intro dp un gd cn cs a ccd cl outer A₀ base h₀ L m s Q E B F X N T hk hd9 hu hret
  have hf' : vs.length < 2 ^ 62 := by omega
  have hlen := hi.length
  refine wpAny_call ?_
  k_dflt (refine' code_def ?ce_k1 ?ce_k2 ?ce_k3 ?ce_k4 ?ce_k5 ?ce_kA ?ce_kF ?ce_kK ?ce_k6 ?ce_k7 ?ce_k8 ?ce_k9 ?ce_kB ?_ ?ce_c2 ?ce_c3 ?ce_c4 ?ce_c5; (case ce_kA => exact rfl); (case ce_kF => exact rfl); (case ce_kK => assumption); (case ce_k1 => k_asm); (case ce_k2 => k_asm); (case ce_k3 => k_asm); (case ce_k4 => k_asm); (case ce_k5 => k_asm); (case ce_k6 => k_is); (case ce_k7 => k_is); (case ce_k8 => ktr_room); (case ce_k9 => first | exact BindsTo.of_eq rfl | exact binds_K (by k_in) rfl (by k_is) rfl rfl rfl | (refine' kp_binds ?ce_kx ?ce_ke; (case ce_kx => k_in); (case ce_ke => exact fun _ => rfl))); (case ce_c5 => decide); (case ce_kB => exact locs rfl); (case ce_c2 => exact rfl); (case ce_c3 => exact rfl); (case ce_c4 => exact rfl); k_whole; intro g' L' h' FG' F' N' B' X' T'; (try dsimp only); (try k_fold))
  (repeat' (first
    | (k_unfold; (try dsimp only))
    | (k_end; wrow_close)
    | (k_here; (with_reducible show wpAny _ _ (PySem.call (Value.builtin "list.insert") _ _) _ _ _); (with_unfolding_all refine' my_insert (by k_asm) (by k_asm) (by assumption) (by exact (goes_ge (by assumption))) (by exact (goes_lt (by assumption) (by omega))) (by (rw [sizeLine_eq]; omega)) ?_); (intro h' F' N'))
    | (k_here; (with_reducible show wpAny _ _ (PySem.call (Value.ref _) _ _) _ _ _); (with_unfolding_all refine' c_bisect4 _ _ _ _ _ _ _ (by assumption) (by assumption) (by assumption) (by assumption) _ _ (by omega) _ _ _ _ _ _ _ _ _ _ _ _ _ _ _ _ _ (by k_asm) (by k_asm) (by k_asm) (by k_asm) (by k_asm) (by exact rfl) (by ktr_room) (by ktr_units) ?_); (intro r9 own9 h9 tk9 ho9 F9 N9 l9; obtain ⟨e9, k9, t9, e8, G9⟩ := ho9; subst e9; subst e8; (try simp only [List.nil_append] at N9); (try dsimp only)))
    | walk1
    | (dsimp only; walk1)
    | (leave1; (try dsimp only))))
  all_goals (refine' hret _ _ _ _ ⟨rfl, _, ?g, rfl⟩ ?F ?N; (case F => k_asm); (case N => k_asm); (case g => assumption))
end
section
open PySem PySem.W PyProof.Rows PySem.Flt
theorem fillC4 (w : World) (h : Heap) : PySem.Challenge.rw_pm0065_01.Holds → (hd.heap_39 w.params).In h → True := by
  k_fill
  intros; trivial

/-- as PureC, with keyword arguments -/
noncomputable abbrev PureK (prog : Program) (w : World) (K : Frag) (p : Program) (loose : List Str) (mean : ExcName → Option Value) (mg mb : Str → Option Value) (lev : Nat) (f : Addr) (news : Led9) (vs : List Value) (kws : List (Str × Value)) (Out : Value → Led9 → Prop) : Prop :=
  ∀ (dp un : Nat) (gd : Option (List Code)) (cn : Str) (cs : Scope) (a : Addr) (ccd : Value) (cl : List (Str × Addr)) (outer : List Env) (A₀ : Around) (base h₀ : Heap) (L : Addr) (m : Str → Option Value) (s : Shared) (Q E : Value → Shared → Prop),
    Below A₀ base outer h₀ → Fr h₀ L s.heap m → K.In h₀ → News h₀ L s.heap news → Top p loose mean mg mb h₀ → cs.kind = .function → dp + lev < recursionLimit → un + 8 * lev < cLine →
    (∀ r own h' tk', Out r own → Fr h₀ L h' m → News h₀ L h' (own ++ news) → (∀ q ∈ own, ∀ p ∈ news, p.1 < q.1) → Q r { s with heap := h', toks := tk' }) →
    wpAny (model prog w) (ktrTop dp un gd cn cs L a ccd cl outer) (call (.ref f) vs kws) Q E s

namespace RS
theorem plainAttrs_rep : PlainAttrs "re.Pattern" :=
  ⟨⟨"object.__getattribute__", by rw [typeLookup_type, builtinLookup_eq_fast]; kernel_rfl, by decide +kernel⟩, by rw [typeLookup_type, builtinLookup_eq_fast]; kernel_rfl⟩
theorem slot_search : Slot "re.Pattern" "search" "re.Pattern.search" :=
  .of (owner := "re.Pattern") (n := "search") (by rw [typeLookup_type, builtinLookup_eq_fast]; kernel_rfl) (by decide +kernel) (by decide +kernel) (by decide +kernel)
    (by first | exact .inl (by decide +kernel) | exact .inr (by decide +kernel)) (by rw [isSubtype_type]; kernel_rfl)
theorem type_search : typeOf (.builtin "re.Pattern.search") = pure (.type "method_descriptor") := by show builtinType _ = _; rw [builtinType_eq_fast]; kernel_rfl
theorem entry_search : entryFor table "re.Pattern.search" = some Builtin.«re.Pattern.search» := entryFor_of_tree (by kernel_rfl)
theorem args_search (a b : Value) : argsOk "re.Pattern.search" ⟨[a, b], []⟩ := by unfold argsOk; kernel_rfl
end RS

/-- no sign of v is one that the pattern at a looks for -/
noncomputable def Clean (P : Params) (a : Addr) (v : Str) : Prop := ∀ (S : Setting) (t : Tok), peek (hd.heap_39 P) S (Builtin.«re.Pattern.search» ⟨[.ref a, .str v t], []⟩) = some (.done (.ret .none))
section
variable {prog : Program} {w : World} {A : Around} {E : Value → Shared → Prop} {s : Shared} {h₀ : Heap} {L a : Addr} {m : Str → Option Value}
theorem my_search {v : Str} {t : Tok} {Q : Value → Shared → Prop} {o : Obj} (F : Fr h₀ L s.heap m) (X₀ : (hd.heap_39 w.params).In h₀) (hl : (hd.heap_39 w.params).lookup a = some o) (ho : o.cls = .type "re.Pattern") (hc : Clean w.params a v) (h : Q .none s) :
    wpAny (model prog w) A (call (.builtin "re.Pattern.search") [.ref a, .str v t]) Q E s := by
  have X := X₀.keeps F.keep
  exact wpAny_call (codeAny_call_builtin RS.slot_search.plain RS.entry_search (RS.slot_search.check _ _ _ _ _ _ _ _ ⟨_, X _ _ hl, ho⟩ (RS.args_search _ _)
    ((Looks.of_peek X (hc ⟨prog, w.params⟩ t)).here h)))
theorem my_getsearch {pl : Sem Bool} {Q : Value × List Value → Shared → Prop} {o : Obj} (F : Fr h₀ L s.heap m) (X₀ : (hd.heap_39 w.params).In h₀) (hl : (hd.heap_39 w.params).lookup a = some o) (ho : o.cls = .type "re.Pattern") (hd : o.dict = none)
    (h : Q (.builtin "re.Pattern.search", [.ref a]) s) : wpAny (model prog w) A (getMethod (.ref a) "search" pl) Q E s := by
  have X := X₀.keeps F.keep
  exact getMethod_builtin ⟨_, X _ _ hl, ho⟩ RS.plainAttrs_rep RS.slot_search RS.type_search (fun a' e => by cases e; exact ⟨_, X _ _ hl, hd⟩) h
end


/-- the end of a turn of a loop over a list of the ledger -/
noncomputable def LPost (h₀ : Heap) (L : Addr) (s : Shared) (I : Addr) (o : Obj) (J : (Str → Option Value) → Led9 → Prop) (Q : Flow → Shared → Prop) (f : Flow) (s₃ : Shared) : Prop :=
  match f with
  | .ret v => Q (.ret v) s₃
  | .brk => Q .next s₃
  | _ => ∃ h' tk m' nw, s₃ = { s with heap := h', toks := tk } ∧ Fr h₀ L h' m' ∧ News h₀ L h' ((I, o) :: nw) ∧ (∀ p ∈ nw, p.1 ≠ I) ∧ J m' nw
section
variable {prog : Program} {w : World} {A : Around} {E : Value → Shared → Prop} {s : Shared} {env : Env} {h₀ : Heap} {target : Expr} {body : List Stmt} {Q : Flow → Shared → Prop}
theorem for_list {ax : Addr} {vs : List Value} {n : Nat} {m₀ : Str → Option Value} {news : Led9} (J : Nat → (Str → Option Value) → Led9 → Prop)
    (hh : A.handled = none) (F : Fr h₀ env.locals s.heap m₀) (N : News h₀ env.locals s.heap news) (hm : ∀ i m nw, J i m nw → (ax, lst vs n) ∈ nw) (hJ : J 0 m₀ news)
    (turn : ∀ i v m₁ nw h tk I o, vs[i]? = some v → J i m₁ nw → (∀ p ∈ news, p.1 < I) → Fr h₀ env.locals h m₁ → News h₀ env.locals h ((I, o) :: nw) →
      wpAny (model prog w) A (assign target env v) (fun _ s₂ => wpAny (model prog w) A (execs body env) (LPost h₀ env.locals { s with heap := h, toks := tk } I o (J (i + 1)) Q) E s₂) E { s with heap := h, toks := tk })
    (done : ∀ m₁ nw h tk, J vs.length m₁ nw → Fr h₀ env.locals h m₁ → News h₀ env.locals h nw → Q .next { s with heap := h, toks := tk }) :
    wpAny (model prog w) A (pyIter (.ref ax)) (fun it s₂ => TurnsAt prog w A h₀ env target body Q E it s₂) E s := by
  refine iter_listTurns hh F N (hm _ _ _ hJ) rfl rfl fun I hI => ?_
  have all : ∀ k i m nw, i + k = vs.length → J i m nw → ItemsRest prog w A E h₀ env target body Q s [(I, "list_iterator")] [(ax, lst vs n)] ((vs.drop i).map .val) m nw := by
    intro k
    induction k with
    | zero =>
      intro i m nw hi hJ
      have : vs.drop i = [] := List.drop_eq_nil_of_le (by omega)
      rw [this]
      have e : i = vs.length := by omega
      subst e
      exact ItemsRest.zero fun h tk F' N' => done m nw h tk hJ F' N'
    | succ k ih =>
      intro i m nw hi hJ
      have hlt : i < vs.length := by omega
      rw [List.drop_eq_getElem_cons hlt]
      refine ItemsRest.val fun h tk F' => AllObj.cons fun o _ => AllObj.nil fun N' => ?_
      refine wpAny_mono (turn i vs[i] m nw h tk I o (by simp [hlt]) hJ hI F' N') (fun _ s₂ h₂ => wpAny_mono h₂ (fun f s₃ p => ?_) fun _ _ e => e) fun _ _ e => e
      have fin : (∃ h' tk' m' nw', s₃ = { s with heap := h', toks := tk' } ∧ Fr h₀ env.locals h' m' ∧ News h₀ env.locals h' ((I, o) :: nw') ∧ (∀ p ∈ nw', p.1 ≠ I) ∧ J (i + 1) m' nw') →
          UnrEndW h₀ env.locals { s with heap := h, toks := tk } [(I, o)] (fun m' n' => SubL [(ax, lst vs n)] n' ∧ ItemsRest prog w A E h₀ env target body Q s [(I, "list_iterator")] [(ax, lst vs n)] ((vs.drop (i + 1)).map .val) m' n') s₃ := by
        rintro ⟨h', tk', m', nw', rfl, F₂, N₂, off, hJ₂⟩
        exact ⟨h', tk', m', nw', rfl, F₂, N₂, fun p hp q hq => by rw [List.mem_singleton.mp hq]; exact off p hp, ⟨hm _ _ _ hJ₂, trivial⟩, ih (i + 1) m' nw' (by omega) hJ₂⟩
      cases f with
      | ret v => exact p
      | brk => exact p
      | next => exact fin p
      | cont => exact fin p
  have := all vs.length 0 m₀ news (by omega) hJ
  simpa using this
end

/-- a header: its tuple's place, its name, its text, its name in small letters -/
structure HI where
  a : Addr
  nm : Str
  t1 : Tok
  tx : Str
  t2 : Tok
  low : Str
noncomputable abbrev HI.val (i : HI) : Value := .ref i.a
noncomputable abbrev HI.ent (i : HI) : Addr × Obj := (i.a, tup [.str i.nm i.t1, .str i.tx i.t2])
noncomputable def Nm (v lv : Str) : Prop := Txt.lower v = lv ∧ v.length ≤ 100
theorem my_lower {prog : Program} {w : World} {A : Around} {E : Value → Shared → Prop} {s : Shared} {Q : Value → Shared → Prop} {v lv : Str} {t : Tok} (hn : Nm v lv) (h : Q (.str lv s.toks) { s with toks := s.toks + 1 }) :
    wpAny (model prog w) A (call (.builtin "str.lower") [.str v t]) Q E s :=
  SCL.lower (by have := hn.2; omega) fun _ => by rw [hn.1]; exact h
noncomputable abbrev sK : Str := Str.ofString "k"
noncomputable abbrev sV : Str := Str.ofString "v"
/-- the end of a turn that binds k and v alone and makes nothing that lasts -/
noncomputable def GPost (h₀ : Heap) (L : Addr) (s : Shared) (news : Led9) (m₀ : Str → Option Value) (C : Prop) (Q : Flow → Shared → Prop) (f : Flow) (s₃ : Shared) : Prop :=
  match f with
  | .ret v => Q (.ret v) s₃
  | .next => C ∧ ∃ h' tk m', s₃ = { s with heap := h', toks := tk } ∧ Fr h₀ L h' m' ∧ News h₀ L h' news ∧ ∀ z, z ≠ sK → z ≠ sV → m' z = m₀ z
  | _ => False
theorem gpost_ret {h₀ : Heap} {L : Addr} {s : Shared} {news : Led9} {m₀ : Str → Option Value} {C : Prop} {Q : Flow → Shared → Prop} {v : Value} {s₃ : Shared} (h : Q (.ret v) s₃) : GPost h₀ L s news m₀ C Q (.ret v) s₃ := h
theorem gpost_next {h₀ : Heap} {L : Addr} {s : Shared} {news : Led9} {m₀ : Str → Option Value} {C : Prop} {Q : Flow → Shared → Prop} {h' : Heap} {tk : Nat} {m' : Str → Option Value} (F : Fr h₀ L h' m') (N : News h₀ L h' news) (hm : ∀ z, z ≠ sK → z ≠ sV → m' z = m₀ z) (hc : C) :
    GPost h₀ L s news m₀ C Q .next { s with heap := h', toks := tk } := ⟨hc, h', tk, m', rfl, F, N, hm⟩
theorem get_loop {prog : Program} {w : World} {A : Around} {E : Value → Shared → Prop} {s : Shared} {env : Env} {h₀ : Heap} {target : Expr} {body : List Stmt} {Q : Flow → Shared → Prop} {H : Addr} {its : List HI} {n : Nat} {m₀ : Str → Option Value} {news : Led9} {ln : Str} {i0 : HI}
    (hh : A.handled = none) (F : Fr h₀ env.locals s.heap m₀) (N : News h₀ env.locals s.heap news) (hm : (H, lst (its.map HI.val) n) ∈ news) (hit : ∀ i ∈ its, i.ent ∈ news) (hnm : ∀ i ∈ its, Nm i.nm i.low) (hf : its.find? (fun i => i.low == ln) = some i0)
    (turn : ∀ b nm tx low u1 u2 h tk I o u u', (b, tup [.str nm u1, .str tx u2]) ∈ news → Nm nm low → (low = ln → tx = i0.tx ∧ u2 = i0.t2) → Fr h₀ env.locals h (fun y => if y = sK then u else if y = sV then u' else m₀ y) → News h₀ env.locals h ((I, o) :: news) →
      wpAny (model prog w) A (assign target env (.ref b)) (fun _ s₂ => wpAny (model prog w) A (execs body env) (GPost h₀ env.locals s ((I, o) :: news) m₀ (low ≠ ln) Q) E s₂) E { s with heap := h, toks := tk }) :
    wpAny (model prog w) A (pyIter (.ref H)) (fun it s₂ => TurnsAt prog w A h₀ env target body Q E it s₂) E s := by
  refine for_list (J := fun k m nw => nw = news ∧ (∀ z, z ≠ sK → z ≠ sV → m z = m₀ z) ∧ ∀ j i, j < k → its[j]? = some i → i.low ≠ ln) hh F N (fun i m nw hJ => hJ.1 ▸ hm) ⟨rfl, fun _ _ _ => rfl, fun j i h => by omega⟩ ?_ ?_
  · rintro k v m₁ nw h tk I o hv ⟨rfl, e, hb⟩ hI F₁ N₁
    rw [List.getElem?_map] at hv
    obtain ⟨i, hi, rfl⟩ := Option.map_eq_some_iff.mp hv
    have hmem := List.mem_of_getElem? hi
    have em : m₁ = fun y => if y = sK then m₁ sK else if y = sV then m₁ sV else m₀ y := by
      funext y
      by_cases h1 : y = sK
      · rw [if_pos h1, h1]
      · rw [if_neg h1]
        by_cases h2 : y = sV
        · rw [if_pos h2, h2]
        · rw [if_neg h2, e y h1 h2]
    rw [em] at F₁
    have hi0 : i.low = ln → i = i0 := by
      intro hl
      obtain ⟨hp, as, bs, hab, hno⟩ := List.find?_eq_some_iff_append.mp hf
      have hk : k < its.length := (List.getElem?_eq_some_iff.mp hi).1
      have hle : as.length ≤ k := by
        rcases Nat.lt_or_ge k as.length with hlt | hge
        · have := hno i (by rw [hab, List.getElem?_append_left hlt] at hi; exact List.mem_of_getElem? hi)
          simp [hl] at this
        · exact hge
      rcases Nat.lt_or_ge as.length k with hlt | hge
      · have := hb as.length i0 hlt (by rw [hab]; simp)
        have hp' : i0.low = ln := by simpa using hp
        exact absurd hp' this
      · have ek : k = as.length := by omega
        rw [hab, ek] at hi
        simpa using hi.symm
    refine wpAny_mono (turn i.a i.nm i.tx i.low i.t1 i.t2 h tk I o _ _ (hit i hmem) (hnm i hmem) (fun hl => by rw [hi0 hl]; exact ⟨rfl, rfl⟩) F₁ N₁) (fun _ s₂ h₂ => wpAny_mono h₂ (fun f s₃ p => ?_) fun _ _ e => e) fun _ _ e => e
    cases f with
    | ret v => exact p
    | brk => exact p.elim
    | cont => exact p.elim
    | next =>
      obtain ⟨hl, h', tk', m', rfl, F₂, N₂, e₂⟩ := p
      refine ⟨h', tk', m', nw, rfl, F₂, N₂, fun p hp => Nat.ne_of_lt (hI p hp), rfl, e₂, fun j i' hj hi' => ?_⟩
      rcases Nat.lt_succ_iff_lt_or_eq.mp hj with hlt | rfl
      · exact hb j i' hlt hi'
      · rw [hi] at hi'
        cases hi'
        exact hl
  · rintro m₁ nw h tk ⟨rfl, e, hb⟩ F₁ N₁
    exfalso
    obtain ⟨hp, as, bs, hab, hno⟩ := List.find?_eq_some_iff_append.mp hf
    have := hb as.length i0 (by rw [List.length_map, hab]; simp) (by rw [hab]; simp)
    simp at hp
    exact this hp
set_option maxHeartbeats 4000000 in
theorem c_convN {prog : Program} {w : World} {p : Program} {loose : List Str} {mean : ExcName → Option Value} {mg mb : Str → Option Value} (news : Led9) (self : Addr) (v : Str) (t1 : Tok) (hc : Clean w.params 82 v) :
  PureK prog w (hd.heap_39 w.params) p loose mean mg mb 3 109 news [.ref self, .str v t1] [(Str.ofString "name", .bool true)] (fun res own => own = [] ∧ res = .str v t1) := by
  unfold PureK
  intro dp un gd cn cs a ccd cl outer A₀ base h₀ L m s Q E B F X N T hk hd9 hu hret
  refine wpAny_call ?_
  k_dflt (refine' code_def ?ce_k1 ?ce_k2 ?ce_k3 ?ce_k4 ?ce_k5 ?ce_kA ?ce_kF ?ce_kK ?ce_k6 ?ce_k7 ?ce_k8 ?ce_k9 ?ce_kB ?_ ?ce_c2 ?ce_c3 ?ce_c4 ?ce_c5; (case ce_kA => exact rfl); (case ce_kF => exact rfl); (case ce_kK => assumption); (case ce_k1 => k_asm); (case ce_k2 => k_asm); (case ce_k3 => k_asm); (case ce_k4 => k_asm); (case ce_k5 => k_asm); (case ce_k6 => k_is); (case ce_k7 => k_is); (case ce_k8 => ktr_room); (case ce_k9 => first | exact BindsTo.of_eq rfl | exact binds_K (by k_in) rfl (by k_is) rfl rfl rfl | (refine' kp_binds ?ce_kx ?ce_ke; (case ce_kx => k_in); (case ce_ke => exact fun _ => rfl))); (case ce_c5 => decide); (case ce_kB => exact locs rfl); (case ce_c2 => exact rfl); (case ce_c3 => exact rfl); (case ce_c4 => exact rfl); k_whole; intro g' L' h' FG' F' N' B' X' T'; (try dsimp only); (try k_fold))
  (repeat' (first
    | (k_unfold; (try dsimp only))
    | (k_end; wrow_close)
    | (k_here; (with_reducible show wpAny _ _ (PySem.call (Value.builtin "str.lower") _ _) _ _ _); (with_unfolding_all refine' my_lower (by assumption) ?_; k_whole))
    | (k_here; (with_reducible show wpAny _ _ (PySem.call (Value.builtin "re.Pattern.search") _ _) _ _ _); (with_unfolding_all refine' my_search (by k_asm) (by k_asm) (by k_is) (by exact rfl) (by assumption) ?_; k_whole))
    | (k_here; (with_reducible show wpAny _ _ (getMethod (Value.ref _) (PySem.Str.ofString "search") _) _ _ _); (with_unfolding_all refine' my_getsearch (by k_asm) (by k_asm) (by k_is) (by exact rfl) (by exact rfl) ?_; k_whole))
    | walk1
    | (dsimp only; walk1)
    | (leave1; (try dsimp only))))
  all_goals exact hret _ [] _ _ ⟨rfl, rfl⟩ (by k_asm) (by k_asm) fun _ h => nomatch h
set_option maxHeartbeats 4000000 in
theorem c_convV {prog : Program} {w : World} {p : Program} {loose : List Str} {mean : ExcName → Option Value} {mg mb : Str → Option Value} (news : Led9) (self : Addr) (v : Str) (t1 : Tok) (hc : Clean w.params 87 v) :
  PureK prog w (hd.heap_39 w.params) p loose mean mg mb 3 109 news [.ref self, .str v t1] [(Str.ofString "name", .bool false)] (fun res own => own = [] ∧ res = .str v t1) := by
  unfold PureK
  intro dp un gd cn cs a ccd cl outer A₀ base h₀ L m s Q E B F X N T hk hd9 hu hret
  refine wpAny_call ?_
  k_dflt (refine' code_def ?ce_k1 ?ce_k2 ?ce_k3 ?ce_k4 ?ce_k5 ?ce_kA ?ce_kF ?ce_kK ?ce_k6 ?ce_k7 ?ce_k8 ?ce_k9 ?ce_kB ?_ ?ce_c2 ?ce_c3 ?ce_c4 ?ce_c5; (case ce_kA => exact rfl); (case ce_kF => exact rfl); (case ce_kK => assumption); (case ce_k1 => k_asm); (case ce_k2 => k_asm); (case ce_k3 => k_asm); (case ce_k4 => k_asm); (case ce_k5 => k_asm); (case ce_k6 => k_is); (case ce_k7 => k_is); (case ce_k8 => ktr_room); (case ce_k9 => first | exact BindsTo.of_eq rfl | exact binds_K (by k_in) rfl (by k_is) rfl rfl rfl | (refine' kp_binds ?ce_kx ?ce_ke; (case ce_kx => k_in); (case ce_ke => exact fun _ => rfl))); (case ce_c5 => decide); (case ce_kB => exact locs rfl); (case ce_c2 => exact rfl); (case ce_c3 => exact rfl); (case ce_c4 => exact rfl); k_whole; intro g' L' h' FG' F' N' B' X' T'; (try dsimp only); (try k_fold))
  (repeat' (first
    | (k_unfold; (try dsimp only))
    | (k_end; wrow_close)
    | (k_here; (with_reducible show wpAny _ _ (PySem.call (Value.builtin "str.lower") _ _) _ _ _); (with_unfolding_all refine' my_lower (by assumption) ?_; k_whole))
    | (k_here; (with_reducible show wpAny _ _ (PySem.call (Value.builtin "re.Pattern.search") _ _) _ _ _); (with_unfolding_all refine' my_search (by k_asm) (by k_asm) (by k_is) (by exact rfl) (by assumption) ?_; k_whole))
    | (k_here; (with_reducible show wpAny _ _ (getMethod (Value.ref _) (PySem.Str.ofString "search") _) _ _ _); (with_unfolding_all refine' my_getsearch (by k_asm) (by k_asm) (by k_is) (by exact rfl) (by exact rfl) ?_; k_whole))
    | walk1
    | (dsimp only; walk1)
    | (leave1; (try dsimp only))))
  all_goals exact hret _ [] _ _ ⟨rfl, rfl⟩ (by k_asm) (by k_asm) fun _ h => nomatch h
end
section
open PySem PySem.W PyProof.Rows PySem.Flt
theorem fillC5 (w : World) (h : Heap) : PySem.Challenge.rw_pm0065_01.Holds → (hd.heap_39 w.params).In h → True := by
  k_fill
  intros; trivial

local macro_rules | `(tactic| k_mem) => `(tactic| first | assumption | exact List.mem_cons_of_mem _ (by assumption) | exact List.mem_cons_of_mem _ (List.mem_cons_of_mem _ (by assumption)))
theorem news_tail {h₀ h : Heap} {L : Addr} {p : Addr × Obj} {news : Led9} (N : News h₀ L h (p :: news)) : News h₀ L h news := fun q hq => N q (.tail _ hq)
noncomputable abbrev sH : Str := Str.ofString "_headers"
noncomputable abbrev hdD (P : Params) (tk : Tok) (H : Addr) : Obj := dictOf [⟨PyData.keyHash P sH, .str sH tk, .ref H⟩] 1

set_option maxHeartbeats 4000000 in
theorem c_get {prog : Program} {w : World} {p : Program} {loose : List Str} {mean : ExcName → Option Value} {mg mb : Str → Option Value} (news : Led9) (hx dx H : Addr) (tk : Tok) (its : List HI) (n : Nat) (name ln : Str) (t1 : Tok) (i0 : HI)
  (hI : (hx, instObj 210 dx) ∈ news) (hD : (dx, hdD w.params tk H) ∈ news) (hm : (H, lst (its.map HI.val) n) ∈ news) (hit : ∀ i ∈ its, i.ent ∈ news) (hnm : ∀ i ∈ its, Nm i.nm i.low) (hn : Nm name ln) (hc : Clean w.params 82 ln) (hf : its.find? (fun i => i.low == ln) = some i0) :
  PureC prog w (hd.heap_39 w.params) p loose mean mg mb 6 157 news [.ref hx, .str name t1] (fun res own => own = [] ∧ res = .str i0.tx i0.t2) := by
  unfold PureC
  intro dp un gd cn cs a ccd cl outer A₀ base h₀ L m s Q E B F X N T hk hd9 hu hret
  refine wpAny_call ?_
  k_dflt (refine' code_def ?ce_k1 ?ce_k2 ?ce_k3 ?ce_k4 ?ce_k5 ?ce_kA ?ce_kF ?ce_kK ?ce_k6 ?ce_k7 ?ce_k8 ?ce_k9 ?ce_kB ?_ ?ce_c2 ?ce_c3 ?ce_c4 ?ce_c5; (case ce_kA => exact rfl); (case ce_kF => exact rfl); (case ce_kK => assumption); (case ce_k1 => k_asm); (case ce_k2 => k_asm); (case ce_k3 => k_asm); (case ce_k4 => k_asm); (case ce_k5 => k_asm); (case ce_k6 => k_is); (case ce_k7 => k_is); (case ce_k8 => ktr_room); (case ce_k9 => first | exact BindsTo.of_eq rfl | exact binds_K (by k_in) rfl (by k_is) rfl rfl rfl | (refine' kp_binds ?ce_kx ?ce_ke; (case ce_kx => k_in); (case ce_ke => exact fun _ => rfl))); (case ce_c5 => decide); (case ce_kB => exact locs rfl); (case ce_c2 => exact rfl); (case ce_c3 => exact rfl); (case ce_c4 => exact rfl); k_whole; intro g' L' h' FG' F' N' B' X' T'; (try dsimp only); (try k_fold))
  (repeat' (first
    | (k_unfold; (try dsimp only))
    | (k_end; wrow_close)
    | (k_here; (with_reducible show wpAny _ _ (exec (PySem.Stmt.For (PySem.Expr.Tuple _ _ _) _ _ _ _) _) _ _ _); (rename Fr _ _ _ _ => lF'); (with_unfolding_all refine' For_turns lF' ?_; k_whole))
    | (k_here; (with_reducible show wpAny _ _ (pyIter (Value.ref _)) _ _ _); (with_reducible show wpAny _ _ (pyIter (Value.ref _)) (fun it s₂ => TurnsAt _ _ _ _ _ _ _ _ _ it s₂) _ _); (with_unfolding_all refine' get_loop (by exact rfl) (by k_asm) (by k_asm) (by assumption) (by assumption) (by assumption) (by assumption) ?_); (intro b' nm' tx' low' u1' u2' h' tk' I' o' u' u'' hm' hn' hl' F' N'))
    | (k_here; (with_reducible show wpAny _ _ (PySem.call (Value.ref _) _ _) _ _ _); (with_unfolding_all refine' c_convN _ _ _ _ (by assumption) _ _ _ _ _ _ _ _ _ _ _ _ _ _ _ _ _ (by k_asm) (by k_asm) (by k_asm) (by k_asm) (by k_asm) (by exact rfl) (by ktr_room) (by ktr_units) ?_); (intro r9 own9 h9 tk9 ho9 F9 N9 l9; obtain ⟨e9, e8⟩ := ho9; subst e9; subst e8; (try simp only [List.nil_append] at N9); (try dsimp only)))
    | (k_here; (with_reducible show wpAny _ _ (PySem.call (Value.builtin "str.lower") _ _) _ _ _); (with_unfolding_all refine' my_lower (by assumption) ?_; k_whole))
    | ((with_reducible show GPost ..); (refine gpost_ret ?_; try dsimp only))
    | walk1
    | (dsimp only; walk1)
    | (leave1; (try dsimp only))))
  all_goals first
    | (refine' hret _ [] _ _ ?o ?F ?N ?l; (case F => k_asm); (case N => exact news_tail (by k_asm)); (case l => exact fun _ h => nomatch h); (case o => (have hq := (by assumption : _ = ln → _ ∧ _) (by simp_all); exact ⟨rfl, by rw [hq.1, hq.2]⟩)))
    | (refine' gpost_next ?F ?N ?m ?c; (case F => k_asm); (case N => k_asm); (case m => (intro z h1 h2; simp [h1, h2])); (case c => simp_all))

end
section
open PySem PySem.W PyProof.Rows PySem.Flt
theorem fillC6 (w : World) (h : Heap) : PySem.Challenge.rw_pm0065_01.Holds → (hd.heap_39 w.params).In h → True := by
  k_fill
  intros; trivial
local macro_rules | `(tactic| k_mem) => `(tactic| first | assumption | exact List.mem_cons_of_mem _ (by assumption) | exact List.mem_cons_of_mem _ (List.mem_cons_of_mem _ (by assumption)))

theorem off_lt {news : Led9} {a b : Addr} (h : ∀ p ∈ news, p.1 < a) (hab : a ≤ b) : ∀ p ∈ news, p.1 ≠ b := fun p hp => Nat.ne_of_lt (Nat.lt_of_lt_of_le (h p hp) hab)
local macro_rules | `(tactic| k_all) => `(tactic| first | assumption | exact off_lt (by assumption) (Nat.le_succ _) | exact off_lt (by assumption) (Nat.le_refl _))

/-- the end of a turn of a comprehension that keeps or drops a header -/
noncomputable def SEnd (h₀ : Heap) (L : Addr) (m : Str → Option Value) (s : Shared) (led : Led9) (C : Prop) (v : Value) (y : Value) (s' : Shared) : Prop := ∃ h' tk, s' = { s with heap := h', toks := tk } ∧ Fr h₀ L h' m ∧ News h₀ L h' led ∧ C ∧ y = v
theorem send {h₀ : Heap} {L : Addr} {m : Str → Option Value} {s : Shared} {led : Led9} {C : Prop} {v : Value} {h' : Heap} {tk : Nat} (F : Fr h₀ L h' m) (N : News h₀ L h' led) (c : C) : SEnd h₀ L m s led C v v { s with heap := h', toks := tk } := ⟨h', tk, rfl, F, N, c, rfl⟩
section
open LCg LCt
variable {prog : Program} {w : World} {A : Around} {h₀ : Heap} {L : Addr} {m : Str → Option Value} {env : Env}
theorem compT_src {ct elt : Expr} {x : Str} {scope : Scope} {cl : List (Str × Addr)} {Fin : Shared → List Value → Led9 → Prop} {ax : Addr} {its : List HI} {n : Nat} {news : Led9} {s₁ : Shared} {P9 : Params} {ln : Str} (_hc : Clean P9 82 ln)
    (hh : A.handled = none) (F : Fr h₀ L s₁.heap m) (N : News h₀ L s₁.heap news) (hm : (ax, lst (its.map HI.val) n) ∈ news) {nb : Led9} (hit : ∀ i ∈ its, i.ent ∈ nb) (hsub : ∀ q ∈ nb, q ∈ news) (hnm : ∀ i ∈ its, Nm i.nm i.low) (hsz : its.length ≤ 1000)
    (step : ∀ b nm u1 tx u2 low I oI C oC D m₂ h tk (E' : Value → Shared → Prop) ys, (b, tup [.str nm u1, .str tx u2]) ∈ news → Nm nm low → NsObj oC m₂ → m₂ x = some (.ref b) → Fr h₀ L h m → News h₀ L h ((I, oI) :: (C, oC) :: (D, LCg.lst ys) :: news) →
      wpAny (model prog w) A (isTrue ct (compEnvC scope cl C env) (eval ct (compEnvC scope cl C env))) (fun ok s' => if ok = true then
        wpAny (model prog w) A (eval elt (compEnvC scope cl C env)) (SEnd h₀ L m { s₁ with heap := h, toks := tk } ((I, oI) :: (C, oC) :: (D, LCg.lst ys) :: news) (low ≠ ln) (.ref b)) E' s'
        else SEnd h₀ L m { s₁ with heap := h, toks := tk } ((I, oI) :: (C, oC) :: (D, LCg.lst ys) :: news) (low = ln) .none .none s') E' { s₁ with heap := h, toks := tk })
    (fin : ∀ g, Fin { s₁ with heap := g } ((its.filter fun i => i.low != ln).map HI.val) news) : CompSrcT prog w A h₀ L m env ct elt x scope cl Fin (.ref ax) s₁ := by
  generalize hp : (fun i : HI => i.low != ln) = p at fin
  have hS : SrcAt h₀ ax (its.map HI.val).toArray news := .inr ⟨_, hm, rfl, _, rfl⟩
  refine CompSrcT.ledger (k := n) hh F N hm (by rw [List.size_toArray, List.length_map, sizeLine_eq]; omega) fun g => ?_
  have all : ∀ k i ys, i + k = its.length → ys = ((its.take i).filter p).map HI.val → CompRestT prog w A h₀ L m env ct elt x scope cl { s₁ with heap := g } (SrcAt h₀ ax (its.map HI.val).toArray) (fun i v => (its.map HI.val).toArray[i]? = some v) (Fin { s₁ with heap := g }) k i ys news := by
    intro k
    induction k with
    | zero =>
      intro i ys hi hy
      have e : i = its.length := by omega
      subst e
      rw [List.take_length] at hy
      subst hy
      exact CompRestT.zero (fin g)
    | succ k ih =>
      intro i ys hi hy
      have hlt : i < its.length := by omega
      refine CompRestT.succ fun v I oI C oC D m₂ h tk E' hv hC hx F' N' off ne => ?_
      have hv' : v = HI.val its[i] := by
        simp at hv
        obtain ⟨a, ha, rfl⟩ := hv
        have : its[i] = a := by simpa [hlt] using ha
        rw [this]
      subst hv'
      have hmem : its[i] ∈ its := List.getElem_mem hlt
      have htk : its.take (i + 1) = its.take i ++ [its[i]] := by rw [List.take_append_getElem hlt]
      refine wpAny_mono (step its[i].a its[i].nm its[i].t1 its[i].tx its[i].t2 its[i].low I oI C oC D m₂ h tk E' ys (hsub _ (hit _ hmem)) (hnm _ hmem) hC hx F' N') (fun ok s' h₂ => ?_) fun _ _ e => e
      cases ok with
      | true =>
        simp only [if_true] at h₂ ⊢
        refine wpAny_mono h₂ (fun y s₃ h₃ => ?_) fun _ _ e => e
        obtain ⟨h', tk', rfl, F₂, N₂, c, rfl⟩ := h₃
        refine ⟨h', tk', news, rfl, F₂, N₂, off, hS, ih (i + 1) _ (by omega) ?_⟩
        rw [hy, htk, List.filter_append, List.map_append]
        have : List.filter p [its[i]] = [its[i]] := by subst hp; simp [c]
        rw [this]
        rfl
      | false =>
        simp only [Bool.false_eq_true, if_false] at h₂ ⊢
        obtain ⟨h', tk', rfl, F₂, N₂, c, _⟩ := h₂
        refine ⟨h', tk', news, rfl, F₂, N₂, off, hS, ih (i + 1) _ (by omega) ?_⟩
        rw [hy, htk, List.filter_append, List.map_append]
        have : List.filter p [its[i]] = [] := by subst hp; simp [c]
        rw [this]
        simp
  have := all its.length 0 [] (by omega) (by simp)
  simpa using this
end
section
variable {prog : Program} {w : World} {A : Around} {E : Value → Shared → Prop} {s : Shared} {h₀ : Heap} {L : Addr} {m : Str → Option Value}
theorem wpAny_letGo {M : Model} {A : Around} {E : Value → Shared → Prop} {s : Shared} {Q : Unit → Shared → Prop} (h : Q () s) : ∀ vs ks : List Value, wpAny M A (letGo vs ks) Q E s
  | [], _ => wpAny_pure h
  | _ :: r, ks => by
    unfold letGo
    exact wpAny_bind (wpAny_holding (wpAny_point (wpAny_letGo h r ks)))
noncomputable abbrev sliceNone : Obj := { cls := .type "slice", data := .fields #[.none, .none, .none] }
theorem my_setslice {H D : Addr} {xs ys : List Value} {n k : Nat} {hb : Heap} {led news : Led9} {Q : Unit → Shared → Prop} {upd : Obj → Led9}
    (F : Fr h₀ L hb m) (N : News h₀ L hb led) (hU : ∀ o', Upd H (lst xs n) o' news (upd o')) (hsub : ∀ q ∈ news, q ∈ led) (hm : (H, lst xs n) ∈ news) (hD : (D, lst ys k) ∈ led) (hx : xs.length ≤ 1000) (hy : ys.length ≤ 1000)
    (h : ∀ h' n', Fr h₀ L h' m → News h₀ L h' (upd (lst ys n')) → Q () { s with heap := h' }) :
    wpAny (model prog w) A (setItem (.ref H) (.ref hb.objs.size) (.ref D)) Q E { s with heap := hb.push sliceNone } := by
  have hH : (hb.push sliceNone).get? H = some (lst xs n) := Heap.get?_push_of_some _ (N _ (hsub _ hm)).1
  have hDo : (hb.push sliceNone).get? D = some (lst ys k) := Heap.get?_push_of_some _ (N _ hD).1
  have hl : (hb.push sliceNone).IsList H xs.toArray := ⟨_, hH, rfl, n, rfl⟩
  have hs : (hb.push sliceNone).IsSliceOf hb.objs.size .none .none .none := Heap.IsSliceOf.new _ _ _ _
  obtain ⟨os, hos, hcs, hds⟩ := id hs
  have hTs : Shared.TypeIs { s with heap := hb.push sliceNone } (.ref hb.objs.size) "slice" := ⟨os, hos, hcs⟩
  unfold setItem
  try with_reducible refine wpAny_holding ?_
  first | refine wpAny_bind (wpAny_pure ?_) | skip
  refine wpAny_bind (wpAny_sequenceKey hl.typeIs (by decide) ?_)
  refine wpAny_bind (wpAny_callSpecial?_slot (name := Str.ofString "__setitem__") hl.typeIs slot_list_setitem
    (wpAny_call_entry slot_list_setitem hl.typeIs entry_list_setitem ?_ (args_list_setitem _ _ _)))
  show wpAny _ _ (Builtin.List.listSubscript? (.ref hb.objs.size) >>= _) _ _ _
  refine wpAny_bind ?_
  unfold Builtin.List.listSubscript?
  refine wpAny_bind (wpAny_specialOf hTs slice_no_index ?_)
  simp only [Option.isNone_none, if_true]
  refine wpAny_pure ?_
  show wpAny _ _ (typeOf (.ref hb.objs.size) >>= _) _ _ _
  refine wpAny_bind (wpAny_typeOf hTs ?_)
  rw [if_neg (by decide)]
  rw [listSliceParts_eq]
  refine wpAny_bind (wpAny_bind (wpAny_field hos hds (x := .none) rfl (wpAny_bind (wpAny_listPart .none ?_))))
  rw [if_neg (show ¬ ((rawPart none == rawInt 0) = true) from Bool.false_ne_true)]
  refine wpAny_bind (wpAny_field hos hds (x := .none) rfl (wpAny_bind (wpAny_listPart .none ?_)))
  refine wpAny_bind (wpAny_field hos hds (x := .none) rfl (wpAny_bind (wpAny_listPart .none (wpAny_pure ?_))))
  generalize hf : (fun zs : Array Value => zs.extract 0 (sliceBounds none none none xs.toArray.size).1.toNat ++ ys.toArray ++ zs.extract (max (sliceBounds none none none xs.toArray.size).1 (sliceBounds none none none xs.toArray.size).2.1).toNat) = f
  have hfx : f xs.toArray = ys.toArray := by
    subst hf
    have e : sliceBounds none none none xs.toArray.size = (0, (xs.toArray.size : Int), 1) := rfl
    rw [e]
    show xs.toArray.extract 0 0 ++ ys.toArray ++ xs.toArray.extract (max 0 (xs.toArray.size : Int)).toNat = ys.toArray
    have e2 : (max 0 (xs.toArray.size : Int)).toNat = xs.toArray.size := by omega
    rw [e2]
    simp
  have hupd : ∀ n', News h₀ L ((hb.push sliceNone).update H (Obj.mapSeq f)) (upd (lst ys n')) → Q () { s with heap := (hb.push sliceNone).update H (Obj.mapSeq f) } := fun n' N' =>
    h _ n' ((F.push _).change (Heap.SameBut.update ..) (N _ (hsub _ hm)).2.1 (N _ (hsub _ hm)).2.2) N'
  have hnews : ∃ n', News h₀ L ((hb.push sliceNone).update H (Obj.mapSeq f)) (upd (lst ys n')) := by
    have N0 : News h₀ L (hb.push sliceNone) news := fun p hp => ⟨Heap.get?_push_of_some _ (N p (hsub _ hp)).1, (N p (hsub _ hp)).2⟩
    by_cases hc : ys.length = xs.length
    · refine ⟨n, ?_⟩
      obtain ⟨pre, post, e1, e2, a, c⟩ := (hU (lst ys n)).split
      rw [e2]
      rw [e1] at N0
      exact kl_turn0 (its := xs.toArray) (its' := ys.toArray) f N0 a c hfx (by simp [hc])
    · refine ⟨n + 1, ?_⟩
      obtain ⟨pre, post, e1, e2, a, c⟩ := (hU (lst ys (n + 1))).split
      rw [e2]
      rw [e1] at N0
      exact kl_turn (its := xs.toArray) (its' := ys.toArray) f N0 a c hfx (by simpa using hc)
  obtain ⟨n', hn'⟩ := hnews
  have hfin := hupd n' hn'
  have items : ∀ {B : Around} {E' : Value → Shared → Prop} {a : Addr} {zs : List Value} {j : Nat} {Q' : Array Value → Shared → Prop}, (hb.push sliceNone).get? a = some (lst zs j) → Q' zs.toArray { s with heap := hb.push sliceNone } →
      wpAny (model prog w) B (Builtin.List.listItems (.ref a)) Q' E' { s with heap := hb.push sliceNone } := by
    intro B E' a zs j Q' ha hq
    unfold Builtin.List.listItems
    exact wpAny_bind (wpAny_seqItems ha rfl (wpAny_pure hq))
  have hsz : ¬ Builtin.List.listTooLong (xs.toArray.size + ys.toArray.size) = true := by
    unfold Builtin.List.listTooLong
    rw [List.size_toArray, List.size_toArray, sizeLine_eq]
    simp
    omega
  have hsz1 : xs.toArray.size ≤ sizeLine := by rw [List.size_toArray, sizeLine_eq]; omega
  have hsz2 : (f xs.toArray).size ≤ sizeLine + 1 := by rw [hfx, List.size_toArray, sizeLine_eq]; omega
  have hDl : Shared.TypeIs { s with heap := hb.push sliceNone } (.ref D) "list" := ⟨_, hDo, rfl⟩
  split
  · refine wpAny_bind (items hDo ?_)
    refine wpAny_bind (items hH ?_)
    refine wpAny_bind (wpAny_of_eq (sliceIndices_raw none none none xs.toArray.size (by decide)) ?_)
    rw [if_pos (by rfl)]
    refine wpAny_bind (wpAny_rule ?_)
    rw [if_neg hsz]
    refine wpAny_bind (m := Builtin.List.listUpdate (.ref H) _) ?_
    show wpAny _ _ (updateSeq H _) _ _ _
    rw [hf]
    refine wpAny_updateSeq hH rfl ?_ hsz1 hsz2
    refine wpAny_bind (wpAny_letGo ?_ _ _)
    exact wpAny_pure ⟨.none, rfl, wpAny_pure hfin⟩
  · unfold Builtin.List.listAllItems
    refine wpAny_bind (wpAny_bind (wpAny_typeOf hDl ?_))
    rw [if_pos (by decide)]
    refine items hDo ?_
    refine wpAny_bind (items hH ?_)
    refine wpAny_bind (wpAny_of_eq (sliceIndices_raw none none none xs.toArray.size (by decide)) ?_)
    rw [if_pos (by rfl)]
    refine wpAny_bind (wpAny_rule ?_)
    rw [if_neg hsz]
    refine wpAny_bind (m := Builtin.List.listUpdate (.ref H) _) ?_
    show wpAny _ _ (updateSeq H _) _ _ _
    rw [hf]
    refine wpAny_updateSeq hH rfl ?_ hsz1 hsz2
    refine wpAny_bind (wpAny_letGo ?_ _ _)
    exact wpAny_pure ⟨.none, rfl, wpAny_pure hfin⟩
end
theorem my_del {M : Model} {A : Around} {E : Value → Shared → Prop} {s : Shared} {K : Frag} {x C L f : Addr} {h₀ : Heap} {m : Str → Option Value} {ox : Obj} {od : Option Obj} {i : Value} {Q : Unit → Shared → Prop} (F : Fr h₀ L s.heap m) (X₀ : K.In h₀) (I : InstAt s.heap x ox C od) (hs : findIn K (.ref C) "__delitem__" = some (some (.ref f))) (hf : isFn K (.ref f) = true) (hq : noSeq K C = true)
    (h : wpAny M A (call (.ref f) [.ref x, i]) (fun _ s' => Q () s') E s) : wpAny M A (delItem (.ref x) i) Q E s := by
  have X := X₀.keeps F.keep
  unfold delItem sequenceKey
  refine wpAny_holding (wpAny_bind (wpAny_bind (I.type.here ?_)))
  refine wpAny_bind ((anyM_none X hq).here ?_)
  rw [if_pos (show (!false) = true from rfl)]
  exact wpAny_pure (wpAny_bind (special_fn X I hs (beq_iff_eq.mp hf) (wpAny_mono h (fun _ _ z => wpAny_pure z) fun _ _ z => z)))
theorem filt_len {its : List HI} {p : HI → Bool} (h : its.length ≤ 1000) : ((its.filter p).map HI.val).length ≤ 1000 := by
  rw [List.length_map]
  exact Nat.le_trans (List.length_filter_le _ _) h
theorem map_len {its : List HI} (h : its.length ≤ 1000) : (its.map HI.val).length ≤ 1000 := by rw [List.length_map]; exact h
set_option maxHeartbeats 4000000 in
theorem c_delitem {prog : Program} {w : World} {p : Program} {loose : List Str} {mean : ExcName → Option Value} {mg mb : Str → Option Value} (news : Led9) (hx dx H : Addr) (tk : Tok) (its : List HI) (n : Nat) (name ln : Str) (t1 : Tok) (upd : Obj → Led9)
  (hI : (hx, instObj 210 dx) ∈ news) (hD : (dx, hdD w.params tk H) ∈ news) (hm : (H, lst (its.map HI.val) n) ∈ news) (hit : ∀ i ∈ its, i.ent ∈ news) (hnm : ∀ i ∈ its, Nm i.nm i.low) (hsz : its.length ≤ 1000) (hn : Nm name ln) (hc : Clean w.params 82 ln) (hU : ∀ o', Upd H (lst (its.map HI.val) n) o' news (upd o')) :
  MutC prog w (hd.heap_39 w.params) p loose mean mg mb 6 128 news [.ref hx, .str name t1] (fun res led => res = .none ∧ ∃ n', led = upd (lst ((its.filter fun i => i.low != ln).map HI.val) n')) := by
  unfold MutC
  intro dp un gd cn cs a ccd cl outer A₀ base h₀ L m s Q E B F X N T hk hd9 hu hret
  refine wpAny_call ?_
  k_dflt (first | (refine' code_def ?ce_k1 ?ce_k2 ?ce_k3 ?ce_k4 ?ce_k5 ?ce_kA ?ce_kF ?ce_kK ?ce_k6 ?ce_k7 ?ce_k8 ?ce_k9 ?ce_kB ?_ ?ce_c2 ?ce_c3 ?ce_c4 ?ce_c5; (case ce_kA => exact rfl); (case ce_kF => exact rfl); (case ce_kK => assumption); (case ce_k1 => k_asm); (case ce_k2 => k_asm); (case ce_k3 => k_asm); (case ce_k4 => k_asm); (case ce_k5 => k_asm); (case ce_k6 => k_is); (case ce_k7 => k_is); (case ce_k8 => ktr_room); (case ce_k9 => first | exact BindsTo.of_eq rfl | exact binds_K (by k_in) rfl (by k_is) rfl rfl rfl | (refine' kp_binds ?ce_kx ?ce_ke; (case ce_kx => k_in); (case ce_ke => exact fun _ => rfl))); (case ce_c5 => decide); (case ce_kB => exact locs rfl); (case ce_c2 => exact rfl); (case ce_c3 => exact rfl); (case ce_c4 => exact rfl); k_whole; intro g' L' h' FG' F' N' B' X' T'; (try dsimp only); (try k_fold)) | (refine' code_defC ?ce_k1 ?ce_k2 ?ce_k3 ?ce_k4 ?ce_k5 ?ce_kA ?ce_kF ?ce_kK ?ce_k6 ?ce_k7 ?ce_k8 ?ce_k9 ?ce_kB ?ce_kD ?_ ?ce_c2 ?ce_c3 ?ce_c4; (case ce_kA => exact rfl); (case ce_kF => exact rfl); (case ce_kK => assumption); (case ce_k1 => k_asm); (case ce_k2 => k_asm); (case ce_k3 => k_asm); (case ce_k4 => k_asm); (case ce_k5 => k_asm); (case ce_k6 => k_is); (case ce_k7 => k_is); (case ce_k8 => ktr_room); (case ce_k9 => first | exact BindsTo.of_eq rfl | exact binds_K (by k_in) rfl (by k_is) rfl rfl rfl | (refine' kp_binds ?ce_kx ?ce_ke; (case ce_kx => k_in); (case ce_ke => exact fun _ => rfl))); (case ce_kB => exact rfl); (case ce_kD => decide +kernel); (case ce_c2 => exact rfl); (case ce_c3 => exact rfl); (case ce_c4 => exact rfl); k_whole; intro g' L' h' tk' cells' FG' F' N' Y' B' X' T' l1; (try k_lt l1); k_cells Y'; (try simp only [List.cons_append, List.nil_append] at N'); (try dsimp only); (try k_fold)))
  (repeat' (first
    | (k_unfold; (try dsimp only))
    | (k_end; wrow_close)
    | (k_here; (with_reducible show wpAny _ _ (setItem (Value.ref _) (Value.ref _) _) _ _ _); (with_unfolding_all refine' my_setslice (by k_asm) (by k_asm) (by assumption) (by (intro q hq; k_mem)) (by assumption) (by k_mem) (by exact map_len (by assumption)) (by exact filt_len (by assumption)) ?_); (intro h' n' F' N'); (try dsimp only))
    | (k_here; (with_reducible show wpAny _ _ (delItem (Value.ref _) _) _ _ _); k_dflt (refine' my_del (by k_asm) (by k_asm) (by k_inst) (by k_is) (by k_is) (by k_is) ?_; k_whole))
    | (k_here; (with_reducible show wpAny _ _ (eval (PySem.Expr.ListComp _ _ _ _) _) _ _ _); k_dflt (refine LCt.ListComp_T (F₀ := by k_asm) (by with_unfolding_all rfl) (by decide) (by rfl) (by decide) (by rfl) ?_))
    | (k_here; (with_reducible show wpAny _ _ (PySem.call (Value.ref _) _ _) _ _ _); (with_unfolding_all refine' c_convN _ _ _ _ (by assumption) _ _ _ _ _ _ _ _ _ _ _ _ _ _ _ _ _ (by k_asm) (by k_asm) (by k_asm) (by k_asm) (by k_asm) (by exact rfl) (by ktr_room) (by ktr_units) ?_); (intro r9 own9 h9 tk9 ho9 F9 N9 l9; obtain ⟨e9, e8⟩ := ho9; subst e9; subst e8; (try simp only [List.nil_append] at N9); (try dsimp only)))
    | (k_here; (with_reducible show wpAny _ _ (PySem.call (Value.builtin "str.lower") _ _) _ _ _); (with_unfolding_all refine' my_lower (by assumption) ?_; k_whole))
    | (k_here; (with_reducible show LCt.CompSrcT _ _ _ _ _ _ _ _ _ _ _ _ _ _ _); (with_unfolding_all refine' compT_src (by assumption) (by exact rfl) (by k_asm) (by k_asm) (by k_mem) (by assumption) (by (first | exact fun q hq => hq | exact fun q hq => List.mem_cons_of_mem _ hq)) (by assumption) (by assumption) ?_ ?_))
    | walk1
    | (dsimp only; walk1)
    | (leave1; (try dsimp only))))
  all_goals first
    | (refine' send ?F ?N ?c; (case F => k_asm); (case N => k_asm); (case c => first | assumption | simp_all))
    | (refine' hret _ _ _ _ ⟨rfl, _, rfl⟩ ?F ?N; (case F => k_asm); (case N => k_asm))
end
section
open PySem PySem.W PyProof.Rows PySem.Flt
theorem fillC7 (w : World) (h : Heap) : PySem.Challenge.rw_pm0065_01.Holds → (hd.heap_39 w.params).In h → True := by
  k_fill
  intros; trivial
theorem upd_two {d : Addr} {o o' o'' : Obj} {l l' : Led9} (h : Upd d o o' l l') : ∀ {l'' : Led9}, Upd d o o'' l l'' → Upd d o' o'' l' l'' := by
  induction h with
  | head h =>
    intro l'' k
    cases k with
    | head _ => exact .head h
    | tail hn _ => exact absurd rfl hn
  | tail hn _ ih =>
    intro l'' k
    cases k with
    | head _ => exact absurd rfl hn
    | tail _ r' => exact .tail hn (ih r')
theorem upd_mem {d : Addr} {o o' : Obj} {l l' : Led9} (h : Upd d o o' l l') : (d, o') ∈ l' := by
  induction h with
  | head _ => exact .head _
  | tail _ _ ih => exact .tail _ ih
theorem upd_keep {d : Addr} {o o' : Obj} {p : Addr × Obj} (hp : p.1 ≠ d) {l l' : Led9} (u : Upd d o o' l l') (h : p ∈ l) : p ∈ l' := by
  induction u with
  | head _ =>
    rcases List.mem_cons.mp h with rfl | h
    · exact absurd rfl hp
    · exact .tail _ h
  | tail _ _ ih =>
    rcases List.mem_cons.mp h with rfl | h
    · exact .head _
    · exact .tail _ (ih h)
theorem news_ne {h₀ h : Heap} {L : Addr} {news : Led9} {a b : Addr} {o o' : Obj} (N : News h₀ L h news) (ha : (a, o) ∈ news) (hb : (b, o') ∈ news) (hc : o.cls ≠ o'.cls) : a ≠ b := by
  intro e
  subst e
  have h1 := (N _ ha).1
  have h2 := (N _ hb).1
  exact hc (congrArg Obj.cls (Option.some.inj (h1.symm.trans h2)))

theorem use_delitem {prog : Program} {w : World} {p : Program} {loose : List Str} {mean : ExcName → Option Value} {mg mb : Str → Option Value} {news : Led9} {hx dx H : Addr} {tk : Tok} {its : List HI} {n : Nat} {name ln : Str} {t1 : Tok} {upd : Obj → Led9}
  {dp un : Nat} {gd : Option (List Code)} {cn : Str} {cs : Scope} {a : Addr} {ccd : Value} {cl : List (Str × Addr)} {outer : List Env} {A₀ : Around} {base h₀ : Heap} {L : Addr} {m : Str → Option Value} {s : Shared} {Q E : Value → Shared → Prop}
  (hI : (hx, instObj 210 dx) ∈ news) (hD : (dx, hdD w.params tk H) ∈ news) (hm : (H, lst (its.map HI.val) n) ∈ news) (hit : ∀ i ∈ its, i.ent ∈ news) (hnm : ∀ i ∈ its, Nm i.nm i.low) (hsz : its.length ≤ 1000) (hn : Nm name ln) (hc : Clean w.params 82 ln) (hU : ∀ o', Upd H (lst (its.map HI.val) n) o' news (upd o'))
  (B : Below A₀ base outer h₀) (F : Fr h₀ L s.heap m) (X : (hd.heap_39 w.params).In h₀) (N : News h₀ L s.heap news) (T : Top p loose mean mg mb h₀) (hk : cs.kind = .function) (hd9 : dp + 6 < recursionLimit) (hu : un + 8 * 6 < cLine)
  (ret : ∀ led n' h' tk', led = upd (lst ((its.filter fun i => i.low != ln).map HI.val) n') → (hx, instObj 210 dx) ∈ led → (dx, hdD w.params tk H) ∈ led → (H, lst ((its.filter fun i => i.low != ln).map HI.val) n') ∈ led →
    (∀ o'', Upd H (lst ((its.filter fun i => i.low != ln).map HI.val) n') o'' led (upd o'')) → Fr h₀ L h' m → News h₀ L h' led → Q .none { s with heap := h', toks := tk' }) :
  wpAny (model prog w) (ktrTop dp un gd cn cs L a ccd cl outer) (call (.ref 128) [.ref hx, .str name t1]) Q E s := by
  refine c_delitem news hx dx H tk its n name ln t1 upd hI hD hm hit hnm hsz hn hc hU dp un gd cn cs a ccd cl outer A₀ base h₀ L m s Q E B F X N T hk hd9 hu ?_
  rintro r led h' tk' ⟨rfl, n', rfl⟩ F' N'
  exact ret _ n' h' tk' rfl (upd_keep (p := (hx, instObj 210 dx)) (news_ne N hI hm (by intro e; cases e)) (hU _) hI) (upd_keep (p := (dx, hdD w.params tk H)) (news_ne N hD hm (by intro e; exact absurd (Value.type.inj e) (by decide))) (hU _) hD) (upd_mem (hU _)) (fun o'' => upd_two (hU _) (hU o'')) F' N'
local macro_rules | `(tactic| k_mem) => `(tactic| first | assumption | exact List.mem_cons_of_mem _ (by assumption) | exact List.mem_cons_of_mem _ (List.mem_cons_of_mem _ (by assumption)))

theorem my_append {prog : Program} {w : World} {A : Around} {E : Value → Shared → Prop} {s : Shared} {h₀ : Heap} {L H T : Addr} {m : Str → Option Value} {led : Led9} {xs : List Value} {n : Nat} {o : Obj} {x : Value} {Q : Value → Shared → Prop} {upd : Obj → Led9}
    (F : Fr h₀ L s.heap m) (N : News h₀ L s.heap ((T, o) :: led)) (hT : ∀ p ∈ led, p.1 < T) (hm : (H, lst xs n) ∈ led) (hU : ∀ o', Upd H (lst xs n) o' led (upd o')) (hx : xs.length ≤ 1000)
    (h : ∀ h', Fr h₀ L h' m → News h₀ L h' ((T, o) :: upd (lst (xs ++ [x]) (n + 1))) → Q .none { s with heap := h' }) : wpAny (model prog w) A (call (.builtin "list.append") [.ref H, x]) Q E s := by
  refine append_K (its := xs.toArray) (n := n) F N (news' := (T, o) :: upd (lst (xs ++ [x]) (n + 1))) ?_ h (by rw [List.size_toArray, sizeLine_eq]; omega)
  have e : (xs.toArray.push x) = (xs ++ [x]).toArray := by simp
  show Upd H (listOf xs.toArray n) (listOf (xs.toArray.push x) (n + 1)) _ _
  rw [e]
  exact .tail (Nat.ne_of_gt (hT _ hm)) (hU _)

set_option maxHeartbeats 4000000 in
theorem c_setitem {prog : Program} {w : World} {p : Program} {loose : List Str} {mean : ExcName → Option Value} {mg mb : Str → Option Value} (news : Led9) (hx dx H : Addr) (tk : Tok) (its : List HI) (n : Nat) (name ln v : Str) (t1 t2 : Tok) (upd : Obj → Led9)
  (hI : (hx, instObj 210 dx) ∈ news) (hD : (dx, hdD w.params tk H) ∈ news) (hm : (H, lst (its.map HI.val) n) ∈ news) (hit : ∀ i ∈ its, i.ent ∈ news) (hnm : ∀ i ∈ its, Nm i.nm i.low) (hsz : its.length ≤ 1000) (hn : Nm name ln) (hc : Clean w.params 82 ln) (hc1 : Clean w.params 82 name) (hc2 : Clean w.params 87 v)
  (hU : ∀ o', Upd H (lst (its.map HI.val) n) o' news (upd o')) :
  MutC prog w (hd.heap_39 w.params) p loose mean mg mb 9 123 news [.ref hx, .str name t1, .str v t2] (fun res led => res = .none ∧ ∃ T n', (∀ p ∈ upd (lst ((its.filter fun i => i.low != ln).map HI.val) n'), p.1 < T) ∧
    led = (T, tup [.str name t1, .str v t2]) :: upd (lst ((its.filter fun i => i.low != ln).map HI.val ++ [.ref T]) (n' + 1))) := by
  unfold MutC
  intro dp un gd cn cs a ccd cl outer A₀ base h₀ L m s Q E B F X N T hk hd9 hu hret
  refine wpAny_call ?_
  k_dflt (first | (refine' code_def ?ce_k1 ?ce_k2 ?ce_k3 ?ce_k4 ?ce_k5 ?ce_kA ?ce_kF ?ce_kK ?ce_k6 ?ce_k7 ?ce_k8 ?ce_k9 ?ce_kB ?_ ?ce_c2 ?ce_c3 ?ce_c4 ?ce_c5; (case ce_kA => exact rfl); (case ce_kF => exact rfl); (case ce_kK => assumption); (case ce_k1 => k_asm); (case ce_k2 => k_asm); (case ce_k3 => k_asm); (case ce_k4 => k_asm); (case ce_k5 => k_asm); (case ce_k6 => k_is); (case ce_k7 => k_is); (case ce_k8 => ktr_room); (case ce_k9 => first | exact BindsTo.of_eq rfl | exact binds_K (by k_in) rfl (by k_is) rfl rfl rfl | (refine' kp_binds ?ce_kx ?ce_ke; (case ce_kx => k_in); (case ce_ke => exact fun _ => rfl))); (case ce_c5 => decide); (case ce_kB => exact locs rfl); (case ce_c2 => exact rfl); (case ce_c3 => exact rfl); (case ce_c4 => exact rfl); k_whole; intro g' L' h' FG' F' N' B' X' T'; (try dsimp only); (try k_fold)) | (refine' code_defC ?ce_k1 ?ce_k2 ?ce_k3 ?ce_k4 ?ce_k5 ?ce_kA ?ce_kF ?ce_kK ?ce_k6 ?ce_k7 ?ce_k8 ?ce_k9 ?ce_kB ?ce_kD ?_ ?ce_c2 ?ce_c3 ?ce_c4; (case ce_kA => exact rfl); (case ce_kF => exact rfl); (case ce_kK => assumption); (case ce_k1 => k_asm); (case ce_k2 => k_asm); (case ce_k3 => k_asm); (case ce_k4 => k_asm); (case ce_k5 => k_asm); (case ce_k6 => k_is); (case ce_k7 => k_is); (case ce_k8 => ktr_room); (case ce_k9 => first | exact BindsTo.of_eq rfl | exact binds_K (by k_in) rfl (by k_is) rfl rfl rfl | (refine' kp_binds ?ce_kx ?ce_ke; (case ce_kx => k_in); (case ce_ke => exact fun _ => rfl))); (case ce_kB => exact rfl); (case ce_kD => decide +kernel); (case ce_c2 => exact rfl); (case ce_c3 => exact rfl); (case ce_c4 => exact rfl); k_whole; intro g' L' h' tk' cells' FG' F' N' Y' B' X' T' l1; (try k_lt l1); k_cells Y'; (try simp only [List.cons_append, List.nil_append] at N'); (try dsimp only); (try k_fold)))
  (repeat' (first
    | (k_unfold; (try dsimp only))
    | (k_end; wrow_close)
    | (k_here; (with_reducible show wpAny _ _ (PySem.call (Value.builtin "list.append") _ _) _ _ _); (with_unfolding_all refine' my_append (by k_asm) (by k_asm) (by assumption) (by assumption) (by assumption) (by exact filt_len (by assumption)) ?_); (intro h' F' N'); (try dsimp only))
    | (k_here; (with_reducible show wpAny _ _ (PySem.call (Value.ref _) _ _) _ _ _); (with_unfolding_all refine' use_delitem (by assumption) (by assumption) (by assumption) (by assumption) (by assumption) (by assumption) (by assumption) (by assumption) (by assumption) (by k_asm) (by k_asm) (by k_asm) (by k_asm) (by k_asm) (by exact rfl) (by ktr_room) (by ktr_units) ?_); (intro led9 n9 h9 tk9 el9 hI9 hD9 hm9 hU9 F9 N9; (try dsimp only)))
    | (k_here; (with_reducible show wpAny _ _ (PySem.call (Value.ref _) _ _) _ _ _); (with_unfolding_all refine' c_convV _ _ _ _ (by assumption) _ _ _ _ _ _ _ _ _ _ _ _ _ _ _ _ _ (by k_asm) (by k_asm) (by k_asm) (by k_asm) (by k_asm) (by exact rfl) (by ktr_room) (by ktr_units) ?_); (intro r9 own9 h9 tk9 ho9 F9 N9 l9; obtain ⟨e9, e8⟩ := ho9; subst e9; subst e8; (try simp only [List.nil_append] at N9); (try dsimp only)))
    | (k_here; (with_reducible show wpAny _ _ (delItem (Value.ref _) _) _ _ _); k_dflt (refine' my_del (by k_asm) (by k_asm) (by k_inst) (by k_is) (by k_is) (by k_is) ?_; k_whole))
    | (k_here; (with_reducible show wpAny _ _ (PySem.call (Value.ref _) _ _) _ _ _); (with_unfolding_all refine' c_convN _ _ _ _ (by assumption) _ _ _ _ _ _ _ _ _ _ _ _ _ _ _ _ _ (by k_asm) (by k_asm) (by k_asm) (by k_asm) (by k_asm) (by exact rfl) (by ktr_room) (by ktr_units) ?_); (intro r9 own9 h9 tk9 ho9 F9 N9 l9; obtain ⟨e9, e8⟩ := ho9; subst e9; subst e8; (try simp only [List.nil_append] at N9); (try dsimp only)))
    | (k_here; (with_reducible show wpAny _ _ (PySem.call (Value.builtin "str.lower") _ _) _ _ _); (with_unfolding_all refine' my_lower (by assumption) ?_; k_whole))
    | ((with_reducible show zz7 ..); skip)
    | walk1
    | (dsimp only; walk1)
    | (leave1; (try dsimp only))))
  all_goals (rename _ = upd _ => el; subst el; (refine' hret _ _ _ _ ⟨rfl, _, _, ?l, rfl⟩ ?F ?N; (case F => k_asm); (case N => k_asm); (case l => assumption)))
end
section
open PySem PySem.W PyProof.Rows PySem.Flt PySem.Spec PySem.Calls
theorem fr_ext {h₀ h h' : Heap} {L : Addr} {m : Str → Option Value} {ws : List Addr} (F : Fr h₀ L h m) (hk : ∀ b o, b ∉ ws → h.get? b = some o → h'.get? b = some o) (hL : L ∉ ws) (hw : ∀ b ∈ ws, h₀.get? b = none) : Fr h₀ L h' m :=
  ⟨F.ns.at' fun o e => hk L o hL e, fun b o e => hk b o (fun hm => by rw [hw b hm] at e; cases e) (F.keep b o e), F.above⟩
theorem news_ext {h₀ h h' : Heap} {L : Addr} {ws : List Addr} {news : Led9} (N : News h₀ L h news) (hk : ∀ b o, b ∉ ws → h.get? b = some o → h'.get? b = some o) (off : ∀ p ∈ news, p.1 ∉ ws) : News h₀ L h' news :=
  fun p hp => ⟨hk _ _ (off p hp) (N p hp).1, (N p hp).2⟩
noncomputable abbrev mkE (nms : List (Str × Pos)) : List Expr := nms.map fun p => .Name p.1 p.2
theorem assignEach_names (env : Env) : ∀ nms : List (Str × Pos), assignEach (mkE nms) env = nms.map fun p => (false, assign (.Name p.1 p.2) env)
  | [] => rfl
  | p :: r => congrArg (List.cons (false, assign (.Name p.1 p.2) env)) (assignEach_names env r)
theorem names_assign {M : Model} {A : Around} {E : Value → Shared → Prop} {env : Env} (hp : (env.scope.kind == .class || (env.scope.kind == .module && env.locals != env.globals)) = false) (nms : List (Str × Pos)) : ∀ (vals : List Value) (s : Shared) (m₁ : Str → Option Value) (Q : Unit → Shared → Prop),
    vals.length = nms.length → (∀ p ∈ nms, env.kindOf p.1 = some .local) → (nms.map (·.1)).Nodup → s.heap.Ns env.locals m₁ →
    (∀ h' m₂, h'.Ns env.locals m₂ → (∀ b o, b ∉ [env.locals] → s.heap.get? b = some o → h'.get? b = some o) → (∀ x, x ∉ nms.map (·.1) → m₂ x = m₁ x) → (∀ (j : Nat) (x : Str × Pos) (v : Value), nms[j]? = some x → vals[j]? = some v → m₂ x.1 = some v) → ∀ tk, Q () { s with heap := h', toks := tk }) →
    wpAny M A (assignInOrder ((nms.map fun p => (false, assign (.Name p.1 p.2) env)).map (·.2)) vals) Q E s := by
  induction nms with
  | nil =>
    intro vals s m₁ Q hl _ _ hn h
    obtain rfl : vals = [] := List.eq_nil_of_length_eq_zero hl
    exact assignInOrder_nil (h s.heap m₁ hn (fun _ _ _ e => e) (fun _ _ => rfl) (fun j x v e => by simp at e) s.toks)
  | cons p r ih =>
    intro vals s m₁ Q hl hk hd hn h
    obtain ⟨v, vs, rfl⟩ : ∃ v vs, vals = v :: vs := by
      cases vals with
      | nil => simp at hl
      | cons v vs => exact ⟨v, vs, rfl⟩
    rw [List.map_cons, List.nodup_cons] at hd
    rw [List.map_cons, List.map_cons]
    refine assignInOrder_cons ?_
    dsimp only
    refine wpAny_assign_Name (wpAny_storeName_local (hk p (.head _)) hn (fun h₁ hn₁ hs₁ => ?_) hp)
    refine ih vs _ _ Q (by simpa using hl) (fun q hq => hk q (.tail _ hq)) hd.2 hn₁ fun h' m₂ hn₂ he hx hv tk => ?_
    refine h h' m₂ hn₂ (fun b o hb e => he b o hb (hs₁.extBut b o (by simpa using hb) e)) (fun x hx' => ?_) (fun j x u ej eu => ?_) tk
    · rw [List.map_cons, List.mem_cons, not_or] at hx'
      rw [hx x hx'.2, if_neg hx'.1]
    · cases j with
      | zero =>
        have e1 : p = x := by simpa using ej
        have e2 : v = u := by simpa using eu
        subst e1; subst e2
        rw [hx _ hd.1, if_pos rfl]
      | succ j => exact hv j x u (by simpa using ej) (by simpa using eu)

/-- what gives tuples, one a turn, n times -/
structure TSrc (prog : Program) (w : World) (A : Around) (z : Addr) (fp own : List Addr) (n : Nat) (vals : Nat → List Value) (St : Nat → Heap → Prop) : Prop where
  sub : ∀ b ∈ own, b ∈ fp
  here : ∀ i h, St i h → ∀ b ∈ fp, ∃ o, h.get? b = some o
  frame : ∀ i h h', St i h → (∀ b ∈ fp, ∀ o, h.get? b = some o → h'.get? b = some o) → St i h'
  turn : ∀ i (s : Shared) (elts : List Expr) (k : Nat) (tp : Pos) (Q : Value → Shared → Prop) (E : Value → Shared → Prop), i < n → St i s.heap →
    (∀ T h' tk, IsTup h' T (vals i).toArray → St (i + 1) h' → (∀ b o, b ∉ own → s.heap.get? b = some o → h'.get? b = some o) → Q (.ref T) { s with heap := h', toks := tk }) →
    wpAny (model prog w) A (pyNext (.ref z)) (fun r s₁ => ∃ v, r = some v ∧ wpAny (model prog w) A (letOwnedTupleGo (.Tuple elts k tp) (.ref z) v) (fun _ s₂ => Q v s₂) E s₁) E s
  done : ∀ (s : Shared) (Q : Option Value → Shared → Prop) (E : Value → Shared → Prop), St n s.heap →
    (∀ h' tk, (∀ b o, b ∉ own → s.heap.get? b = some o → h'.get? b = some o) → Q none { s with heap := h', toks := tk }) → wpAny (model prog w) A (pyNext (.ref z)) Q E s
  self : ∀ i (s : Shared) (Q : Value → Shared → Prop) (E : Value → Shared → Prop), St i s.heap → Q (.ref z) s → wpAny (model prog w) A (pyIter (.ref z)) Q E s

theorem TSrc.next {prog : Program} {w : World} {A : Around} {z : Addr} {fp own : List Addr} {n : Nat} {vals : Nat → List Value} {St : Nat → Heap → Prop} (W : TSrc prog w A z fp own n vals St) {i : Nat} {s : Shared} {elts : List Expr} {k : Nat} {tp : Pos} {Q : Value → Shared → Prop} {E : Value → Shared → Prop} {R : Option Value → Shared → Prop}
    (hi : i < n) (hst : St i s.heap) (hR : ∀ v s₁, wpAny (model prog w) A (letOwnedTupleGo (.Tuple elts k tp) (.ref z) v) (fun _ s₂ => Q v s₂) E s₁ → R (some v) s₁)
    (h : ∀ T h' tk, IsTup h' T (vals i).toArray → St (i + 1) h' → (∀ b o, b ∉ own → s.heap.get? b = some o → h'.get? b = some o) → Q (.ref T) { s with heap := h', toks := tk }) : wpAny (model prog w) A (pyNext (.ref z)) R E s :=
  wpAny_mono (W.turn i s elts k tp Q E hi hst h) (fun r s₁ hr => by obtain ⟨v, rfl, hv⟩ := hr; exact hR v s₁ hv) fun _ _ e => e
theorem hid_of {h : Heap} : ∀ fp : List Addr, (∀ b ∈ fp, ∃ o, h.get? b = some o) → ∃ hid : Led9, (∀ p ∈ hid, p.1 ∈ fp ∧ h.get? p.1 = some p.2) ∧ ∀ b ∈ fp, ∃ o, (b, o) ∈ hid
  | [], _ => ⟨[], by simp, by simp⟩
  | b :: r, hb => by
    obtain ⟨o, ho⟩ := hb b (.head _)
    obtain ⟨hid, h1, h2⟩ := hid_of r fun c hc => hb c (.tail _ hc)
    refine ⟨(b, o) :: hid, fun p hp => ?_, fun c hc => ?_⟩
    · rcases List.mem_cons.mp hp with rfl | hp
      · exact ⟨.head _, ho⟩
      · exact ⟨.tail _ (h1 p hp).1, (h1 p hp).2⟩
    · rcases List.mem_cons.mp hc with rfl | hc
      · exact ⟨o, .head _⟩
      · obtain ⟨o', h'⟩ := h2 c hc
        exact ⟨o', .tail _ h'⟩
/-- the end of a turn of a comprehension -/
noncomputable def TEnd (h₀ : Heap) (L : Addr) (m : Str → Option Value) (s : Shared) (all : Led9) (K : Value → Led9 → Prop) (y : Value) (s' : Shared) : Prop :=
  ∃ h' tk own, s' = { s with heap := h', toks := tk } ∧ Fr h₀ L h' m ∧ News h₀ L h' (own ++ all) ∧ (∀ q ∈ own, ∀ p ∈ all, p.1 < q.1) ∧ K y own
theorem tend {h₀ : Heap} {L : Addr} {m : Str → Option Value} {s : Shared} {all : Led9} {K : Value → Led9 → Prop} {y : Value} {h' : Heap} {tk : Nat} (own : Led9) (F : Fr h₀ L h' m) (N : News h₀ L h' (own ++ all)) (l : ∀ q ∈ own, ∀ p ∈ all, p.1 < q.1) (k : K y own) :
    TEnd h₀ L m s all K y { s with heap := h', toks := tk } := ⟨h', tk, own, rfl, F, N, l, k⟩
noncomputable abbrev TStep (prog : Program) (w : World) (A : Around) (h₀ : Heap) (L : Addr) (m : Str → Option Value) (env : Env) (elt : Expr) (nms : List (Str × Pos)) (scope : Scope) (cl : List (Str × Addr)) (s : Shared) (n : Nat) (vals : Nat → List Value) (J : Nat → List Value → Led9 → Prop) : Prop :=
  ∀ i ys nw rest C oC m₂ h tk (E' : Value → Shared → Prop), i < n → J i ys nw → LCg.NsObj oC m₂ → (∀ (j : Nat) (x : Str × Pos) (v : Value), nms[j]? = some x → (vals i)[j]? = some v → m₂ x.1 = some v) → Fr h₀ L h m → News h₀ L h ((C, oC) :: (nw ++ rest)) →
    wpAny (model prog w) A (eval elt (compEnvC scope cl C env)) (TEnd h₀ L m { s with heap := h, toks := tk } ((C, oC) :: (nw ++ rest)) (fun y own => J (i + 1) (ys ++ [y]) (own ++ nw))) E' { s with heap := h, toks := tk }
section
variable {prog : Program} {w : World} {A : Around} {E : Value → Shared → Prop} {h₀ : Heap} {L : Addr} {m : Str → Option Value} {env : Env}
theorem tcomp_block {s₂ : Shared} {elt iter : Expr} {nms : List (Str × Pos)} {k : Nat} {tp : Pos} {scope : Scope} {cl : List (Str × Addr)} {pos : Pos} {z : Addr} {fp own : List Addr} {n : Nat} {vals : Nat → List Value} {St : Nat → Heap → Prop} {J : Nat → List Value → Led9 → Prop} {nw₀ : Led9}
    {RR : Value → Addr → Result → Shared → Prop}
    (hh : A.handled = none) (W : TSrc prog w A z fp own n vals St) (hsz : n ≤ 1000) (hlen : ∀ i, i < n → (vals i).length = nms.length)
    (hcell : ∀ y ∈ scope.names, y.2 ≠ .cell) (hkind : scope.kind = .function) (hloc : ∀ p ∈ nms, scope.names.lookup p.1 = some .local) (hnd : (nms.map (·.1)).Nodup)
    (hst : St 0 s₂.heap) (hfp : ∀ b ∈ fp, b ≠ L ∧ h₀.get? b = none) (F : Fr h₀ L s₂.heap m) (N : News h₀ L s₂.heap nw₀) (off : ∀ p ∈ nw₀, p.1 ∉ own) (hJ : J 0 [] nw₀)
    (step : TStep prog w A h₀ L m env elt nms scope cl s₂ n vals J)
    (hRR : ∀ D C h tk m' ys nw, Fr h₀ L h m → News h₀ L h ((D, LCg.lst ys) :: nw) → (∀ p ∈ nw, p.1 ≠ D) → (∀ p ∈ nw₀, p.1 < D) → h.Ns C m' → h₀.get? C = none → C ≠ L → C ≠ D → (∀ p ∈ nw, p.1 ≠ C) → J n ys nw → RR (.ref D) C (.ok .next) { s₂ with heap := h, toks := tk }) :
    wpAny (model prog w) A (newList []) (fun acc s₃ => wpAny (model prog w) A (newFunctionEnv scope env.globals cl [] env.qual none .none (some env)) (fun cenv s₄ =>
      codeAny (model prog w) A (.compStart (.ListComp elt [⟨.Tuple (mkE nms) k tp, iter, [], 0⟩] scope pos) 0 (.ref z) acc { cenv with scope := relabel scope env }) (RR acc cenv.locals) s₄) E s₃) E s₂ := by
  refine wpAny_newObj_type (wpAny_newFunctionEnv hcell (by intro y hy; simp at hy) (fun h₁ hns₁ hsb₁ => ?_) hkind)
  dsimp only at hns₁ hsb₁ ⊢
  generalize hH : s₂.heap.push { cls := .type "list", dict := none, data := .seq ([] : List Value).toArray } = H at hns₁ hsb₁ ⊢
  generalize hDn : s₂.heap.objs.size = D at *
  have hCn : H.objs.size = D + 1 := by rw [← hH, Heap.size_push, hDn]
  generalize H.objs.size = C at *
  subst hCn
  have hlt2 : ∀ b o, s₂.heap.get? b = some o → b < D := fun b o e => hDn ▸ Heap.lt_size e
  have old : ∀ b o, s₂.heap.get? b = some o → h₁.get? b = some o := fun b o e =>
    hsb₁.extBut b o (Nat.ne_of_lt (Nat.lt_succ_of_lt (hlt2 b o e))) (Heap.get?_push_of_some _ (hH ▸ Heap.get?_push_of_some _ e))
  have hacc0 : H.get? D = some (LCg.lst []) := by rw [← hH, ← hDn]; exact Heap.get?_push_size _ rfl
  have hacc : h₁.get? D = some (LCg.lst []) := hsb₁.extBut _ _ (Nat.ne_of_lt (Nat.lt_succ_self _)) (Heap.get?_push_of_some _ hacc0)
  have fpD : ∀ b ∈ fp, b < D := fun b hb => by obtain ⟨o, ho⟩ := W.here 0 _ hst b hb; exact hlt2 b o ho
  have fresh₀ : ∀ a, D ≤ a → h₀.get? a = none := fun a ha => by
    cases e : h₀.get? a with
    | none => rfl
    | some o' => exact absurd (hlt2 a o' (F.keep a o' e)) (Nat.not_lt.mpr ha)
  have hLlt : L < D := hDn ▸ F.ns.lt
  have hD₀ := fresh₀ D (Nat.le_refl _)
  have hC₀ := fresh₀ (D + 1) (Nat.le_succ _)
  have hst₁ : St 0 h₁ := W.frame _ _ _ hst fun b _ o e => old b o e
  have Lo : L ∉ own := fun h => (hfp L (W.sub L h)).1 rfl
  have Do : D ∉ own := fun h => Nat.lt_irrefl _ (fpD _ (W.sub _ h))
  have Co : D + 1 ∉ own := fun h => Nat.lt_irrefl _ (Nat.lt_of_succ_lt (fpD _ (W.sub _ h)))
  have own₀ : ∀ b ∈ own, h₀.get? b = none := fun b hb => (hfp b (W.sub b hb)).2
  have loop : ∀ s₃ : Shared, s₃ = { s₂ with heap := h₁, toks := s₂.toks + ([] : List (Str × Value)).length } →
      codeAny (model prog w) A (.compLoop (.ListComp elt [⟨.Tuple (mkE nms) k tp, iter, [], 0⟩] scope pos) 0 (.ref z) (.ref D) (compEnvC scope cl (D + 1) env)) (RR (.ref D) (D + 1)) s₃ := by
    rintro s₃ rfl
    refine LCp.codeAny_compLoop_pair
      (fun k s' => ∃ h' tk i ys m' nw, s' = { s₂ with heap := h', toks := tk } ∧ i ≤ n ∧ k = n + 1 - i ∧ ys.length = i ∧ St i h' ∧ Fr h₀ L h' m ∧ h'.Ns (D + 1) m' ∧ News h₀ L h' ((D, LCg.lst ys) :: nw) ∧ (∀ p ∈ nw, p.1 ∉ own ∧ p.1 ≠ D + 1 ∧ p.1 ≠ D) ∧ J i ys nw) ?_ (n + 1)
      ⟨h₁, _, 0, [], _, nw₀, rfl, Nat.zero_le _, rfl, rfl, hst₁, F.keeps old, hns₁, ?_, ?_, hJ⟩
    · intro k' s' hh9
      refine Classical.byContradiction fun hn9 => ?_
      obtain ⟨h', tk, i, ys, m', nw, rfl, hi, rfl, hyl, hst', F', hn', N', off', hJ'⟩ := hh9
      refine hn9 ?_
      clear hn9
      by_cases hlt : i < n
      · refine W.next hlt hst' (fun v s₁ hv => hv) fun T h₂ tk₂ hT hst₂ hk₂ => ?_
        refine assign_Tuple_tuple hh hT (by rw [assignEach_names, List.length_map, List.size_toArray, hlen i hlt]) (by rw [assignEach_names]; simp [List.findIdx?_eq_none_iff]) fun h₅ he => ?_
        have he' : ∀ b o, h₂.get? b = some o → h₅.get? b = some o := fun b o e => he b o (Nat.ne_of_lt (Heap.lt_size e)) e
        rw [assignEach_names]
        refine names_assign (by simp [compEnvC, relabel, hkind]) nms _ _ _ _ (hlen i hlt) (fun p hp => lookup_relabel_local (hloc p hp)) hnd ((hn'.at' fun o e => hk₂ _ o Co e).at' fun o e => he' _ o e) fun h₃ m₂ hn₃ hk₃ _ hv₃ tk₃ => ?_
        have old3 : ∀ b o, b ∉ [D + 1] → h₂.get? b = some o → h₃.get? b = some o := fun b o hb e => hk₃ b o hb (he' b o e)
        have hst₃ : St (i + 1) h₃ := W.frame _ _ _ hst₂ fun b hb o e => old3 b o (fun q => by have := fpD b hb; rw [List.mem_singleton.mp q] at this; exact Nat.lt_irrefl _ (Nat.lt_of_succ_lt this)) e
        obtain ⟨oC, heC, hoC⟩ := LCg.ns_obj hn₃
        obtain ⟨hid, hid1, hid2⟩ := hid_of fp (W.here _ _ hst₃)
        have F₃ : Fr h₀ L h₃ m := fr_ext (fr_ext F' hk₂ Lo own₀) old3 (by simp; exact Nat.ne_of_lt (Nat.lt_succ_of_lt hLlt)) (fun b hb => by rw [List.mem_singleton.mp hb]; exact hC₀)
        have N₂ : News h₀ L h₂ ((D, LCg.lst ys) :: nw) := news_ext N' hk₂ fun p hp => by
          rcases List.mem_cons.mp hp with rfl | hp
          · exact Do
          · exact (off' p hp).1
        have N₃ : News h₀ L h₃ ((D, LCg.lst ys) :: nw) := news_ext N₂ old3 fun p hp => by
          rcases List.mem_cons.mp hp with rfl | hp
          · simp
          · simpa using (off' p hp).2.1
        have NA : News h₀ L h₃ ((D + 1, oC) :: (nw ++ (D, LCg.lst ys) :: hid)) := fun p hp => by
          rcases List.mem_cons.mp hp with rfl | hp
          · exact ⟨heC, (Nat.ne_of_gt (Nat.lt_succ_of_lt hLlt)), hC₀⟩
          · rcases List.mem_append.mp hp with hp | hp
            · exact N₃ p (.tail _ hp)
            · rcases List.mem_cons.mp hp with rfl | hp
              · exact N₃ _ (.head _)
              · exact ⟨(hid1 p hp).2, hfp _ (hid1 p hp).1⟩
        refine wpAny_mono (step i ys nw ((D, LCg.lst ys) :: hid) (D + 1) oC m₂ h₃ tk₃ _ hlt hJ' hoC hv₃ F₃ NA) (fun y s₄ h₄ => ?_) fun _ _ e => e
        obtain ⟨h₄, tk₄, nn, rfl, F₄, N₄, l₄, J₄⟩ := h₄
        have zz : ∀ p ∈ (D + 1, oC) :: (nw ++ (D, LCg.lst ys) :: hid), h₄.get? p.1 = some p.2 := fun p hp => (N₄ p (List.mem_append_right _ hp)).1
        have hst₄ : St (i + 1) h₄ := W.frame _ _ _ hst₃ fun b hb o e => by
          obtain ⟨o', ho'⟩ := hid2 b hb
          have e1 := (hid1 _ ho').2
          rw [e] at e1
          cases e1
          exact zz _ (.tail _ (List.mem_append_right _ (.tail _ ho')))
        have zD := zz _ (.tail _ (List.mem_append_right _ (.head _)))
        refine append_at (hsz := by show ys.toArray.size ≤ sizeLine; rw [List.size_toArray, hyl, sizeLine_eq]; omega) zD fun h₅ hs₅ hD₅ => ?_
        have offn : ∀ p ∈ nn ++ nw, p.1 ∉ own ∧ p.1 ≠ D + 1 ∧ p.1 ≠ D := fun p hp => by
          rcases List.mem_append.mp hp with hp | hp
          · refine ⟨fun ho => ?_, ?_, ?_⟩
            · obtain ⟨o', ho'⟩ := hid2 _ (W.sub _ ho)
              exact Nat.lt_irrefl _ (l₄ p hp (p.1, o') (.tail _ (List.mem_append_right _ (.tail _ ho'))))
            · exact Nat.ne_of_gt (l₄ p hp (D + 1, oC) (.head _))
            · exact Nat.ne_of_gt (l₄ p hp (D, LCg.lst ys) (.tail _ (List.mem_append_right _ (.head _))))
          · exact off' p hp
        refine ⟨n + 1 - (i + 1), by omega, h₅, tk₄, i + 1, ys ++ [y], _, nn ++ nw, rfl, hlt, rfl, by rw [List.length_append, List.length_singleton, hyl], W.frame _ _ _ hst₄ fun b hb o e => hs₅.extBut b o (Nat.ne_of_lt (fpD b hb)) e,
          F₄.change hs₅ (Nat.ne_of_gt hLlt) hD₀, (hoC.ns (zz _ (.head _))).sameBut hs₅ (Nat.ne_of_gt (Nat.lt_succ_self _)), fun p hp => ?_, offn, J₄⟩
        rcases List.mem_cons.mp hp with rfl | hp
        · exact ⟨hD₅.trans (congrArg some (LCg.lst_snoc ys y)), Nat.ne_of_gt hLlt, hD₀⟩
        · have hn4 : News h₀ L h₄ (nn ++ nw) := fun q hq => N₄ q (by
            rcases List.mem_append.mp hq with hq | hq
            · exact List.mem_append_left _ hq
            · exact List.mem_append_right _ (.tail _ (List.mem_append_left _ hq)))
          exact ⟨hs₅.extBut _ _ (offn p hp).2.2 (hn4 p hp).1, (hn4 p hp).2⟩
      · obtain rfl : i = n := Nat.le_antisymm hi (Nat.not_lt.mp hlt)
        refine W.done _ _ _ hst' fun h₂ tk₂ hk₂ => ?_
        exact hRR _ _ h₂ tk₂ _ ys nw (fr_ext F' hk₂ Lo own₀) (news_ext N' hk₂ fun p hp => by
          rcases List.mem_cons.mp hp with rfl | hp
          · exact Do
          · exact (off' p hp).1) (fun p hp => (off' p hp).2.2) (fun p hp => hlt2 _ _ (N p hp).1) (hn'.at' fun o e => hk₂ _ o Co e) hC₀ (Nat.ne_of_gt (Nat.lt_succ_of_lt hLlt)) (Nat.ne_of_gt (Nat.lt_succ_self _)) (fun p hp => (off' p hp).2.1) hJ'
    · intro p hp
      rcases List.mem_cons.mp hp with rfl | hp
      · exact ⟨hacc, Nat.ne_of_gt hLlt, hD₀⟩
      · exact ⟨old _ _ (N p hp).1, (N p hp).2⟩
    · intro p hp
      have := hlt2 _ _ (N p hp).1
      exact ⟨off p hp, Nat.ne_of_lt (Nat.lt_succ_of_lt this), Nat.ne_of_lt this⟩
  exact codeAny_compStart_list (loop _ rfl) (W.self 0 _ _ _ hst₁ (loop _ rfl))

/-- the comprehension's source as its walk finds it -/
noncomputable def SrcN (prog : Program) (w : World) (A : Around) (h₀ : Heap) (L : Addr) (m : Str → Option Value) (env : Env) (elt : Expr) (nms : List (Str × Pos)) (scope : Scope) (cl : List (Str × Addr)) (Q : Value → Shared → Prop) (it : Value) (s₂ : Shared) : Prop :=
  ∃ z fp own n vals St J nw₀, it = .ref z ∧ A.handled = none ∧ TSrc prog w A z fp own n vals St ∧ n ≤ 1000 ∧ (∀ i, i < n → (vals i).length = nms.length) ∧ St 0 s₂.heap ∧ (∀ b ∈ fp, b ≠ L ∧ h₀.get? b = none) ∧ Fr h₀ L s₂.heap m ∧ News h₀ L s₂.heap nw₀ ∧ (∀ p ∈ nw₀, p.1 ∉ own) ∧ J 0 [] nw₀ ∧
    TStep prog w A h₀ L m env elt nms scope cl s₂ n vals J ∧
    ∀ D h tk ys nw, Fr h₀ L h m → News h₀ L h ((D, LCg.lst ys) :: nw) → (∀ p ∈ nw, p.1 ≠ D) → (∀ p ∈ nw₀, p.1 < D) → J n ys nw → Q (.ref D) { s₂ with heap := h, toks := tk }
theorem tcomp {s : Shared} {elt iter : Expr} (nms : List (Str × Pos)) {k : Nat} {tp : Pos} {scope : Scope} {cl : List (Str × Addr)} {pos : Pos} {Q : Value → Shared → Prop} (F₀ : Fr h₀ L s.heap m)
    (hclos : closureFor scope env = pure cl) (hcell : ∀ y ∈ scope.names, y.2 ≠ .cell) (hkind : scope.kind = .function) (hnames : ∀ y ∈ scope.names, y.2 = .local → scope.names.lookup y.1 = some .local)
    (hloc : ∀ p ∈ nms, scope.names.lookup p.1 = some .local) (hnd : (nms.map (·.1)).Nodup)
    (h : wpAny (model prog w) A (eval iter env) (fun xv s₁ => wpAny (model prog w) A (pyIter xv) (fun it s₂ => SrcN prog w A h₀ L m env elt nms scope cl Q it s₂) E s₁) E s)
    (hs : ∀ x, foldedSetIterable iter env x = pure x := by intro _; rfl) :
    wpAny (model prog w) A (eval (.ListComp elt [⟨.Tuple (mkE nms) k tp, iter, [], 0⟩] scope pos) env) Q E s := by
  rw [eval_ListComp]
  refine wpAny_comprehension_free (use := none) rfl hs hclos hkind hnames (wpAny_mono h (fun xv s₁ h₁ => wpAny_mono h₁ (fun it s₂ h₂ => ?_) fun _ _ e => e) fun _ _ e => e)
  refine Classical.byContradiction fun hn9 => ?_
  obtain ⟨z, fp, own, n, vals, St, J, nw₀, rfl, hh, W, hsz, hlen, hst, hfp, F, N, off, hJ, step, fin⟩ := h₂
  refine hn9 ?_
  clear hn9
  refine tcomp_block (RR := fun acc C => compPost (model prog w) A E none Q acc C) hh W hsz hlen hcell hkind hloc hnd hst hfp F N off hJ step ?_
  intro D C h tk m' ys nw F' N' oD lD hn hC₀ hCL hCD offC hJ'
  refine ⟨m', hn, fun h'' hs'' => fin D h'' tk ys nw (F'.change hs'' hCL hC₀) (fun p hp => ?_) oD lD hJ'⟩
  refine ⟨hs''.extBut _ _ ?_ (N' p hp).1, (N' p hp).2⟩
  rcases List.mem_cons.mp hp with rfl | hp
  · exact Ne.symm hCD
  · exact offC p hp
/-- the same, where its list is bound to a name -/
noncomputable def SrcNA (prog : Program) (w : World) (A : Around) (h₀ : Heap) (L : Addr) (m : Str → Option Value) (env : Env) (elt : Expr) (nms : List (Str × Pos)) (scope : Scope) (cl : List (Str × Addr)) (y : Str) (Q : Flow → Shared → Prop) (it : Value) (s₂ : Shared) : Prop :=
  ∃ z fp own n vals St J nw₀, it = .ref z ∧ A.handled = none ∧ TSrc prog w A z fp own n vals St ∧ n ≤ 1000 ∧ (∀ i, i < n → (vals i).length = nms.length) ∧ St 0 s₂.heap ∧ (∀ b ∈ fp, b ≠ L ∧ h₀.get? b = none) ∧ Fr h₀ L s₂.heap m ∧ News h₀ L s₂.heap nw₀ ∧ (∀ p ∈ nw₀, p.1 ∉ own) ∧ J 0 [] nw₀ ∧
    TStep prog w A h₀ L m env elt nms scope cl s₂ n vals J ∧
    ∀ D h tk ys nw, Fr h₀ L h (fun z => if z = y then some (.ref D) else m z) → News h₀ L h ((D, LCg.lst ys) :: nw) → (∀ p ∈ nw, p.1 ≠ D) → (∀ p ∈ nw₀, p.1 < D) → J n ys nw → Q .next { s₂ with heap := h, toks := tk }
theorem tcompA {s : Shared} {elt iter : Expr} (nms : List (Str × Pos)) {k : Nat} {tp : Pos} {scope : Scope} {cl : List (Str × Addr)} {y : Str} {py pos spos : Pos} {Q : Flow → Shared → Prop} (F₀ : Fr h₀ L s.heap m) (hLe : env.locals = L)
    (hsw : swapsWith (.ListComp elt [⟨.Tuple (mkE nms) k tp, iter, [], 0⟩] scope pos) (some (.Name y py)) spos.line env = pure true)
    (hclos : closureFor scope env = pure cl) (hcell : ∀ y ∈ scope.names, y.2 ≠ .cell) (hkind : scope.kind = .function) (hnames : ∀ y ∈ scope.names, y.2 = .local → scope.names.lookup y.1 = some .local)
    (hloc : ∀ p ∈ nms, scope.names.lookup p.1 = some .local) (hnd : (nms.map (·.1)).Nodup)
    (hy : env.kindOf y = some .local) (hp : (env.scope.kind == .class || (env.scope.kind == .module && env.locals != env.globals)) = false)
    (h : wpAny (model prog w) A (eval iter env) (fun xv s₁ => wpAny (model prog w) A (pyIter xv) (fun it s₂ => SrcNA prog w A h₀ L m env elt nms scope cl y Q it s₂) E s₁) E s)
    (hs : ∀ x, foldedSetIterable iter env x = pure x := by intro _; rfl) :
    wpAny (model prog w) A (exec (.Assign [.Name y py] (.ListComp elt [⟨.Tuple (mkE nms) k tp, iter, [], 0⟩] scope pos) spos) env) Q E s := by
  subst hLe
  rw [exec_Assign_Name_used _ _ _ _ hsw]
  refine wpAny_bind (wpAny_standAt (wpAny_bind ?_))
  show wpAny _ A (do let _ ← comprehension (.ListComp elt [⟨.Tuple (mkE nms) k tp, iter, [], 0⟩] scope pos) scope env _ (newList []) false (eval iter env) (some (assign (.Name y py) env))) _ _ s
  refine wpAny_bind (wpAny_mono (wpAny_comprehension_free (use := some (assign (.Name y py) env)) (Q := fun _ s' => Q .next s') rfl hs hclos hkind hnames
    (wpAny_mono h (fun xv s₁ h₁ => wpAny_mono h₁ (fun it s₂ h₂ => ?_) fun _ _ e => e) fun _ _ e => e)) (fun _ s' hq => wpAny_pure (wpAny_pure hq)) fun _ _ e => e)
  refine Classical.byContradiction fun hn9 => ?_
  obtain ⟨z, fp, own, n, vals, St, J, nw₀, rfl, hh, W, hsz, hlen, hst, hfp, F, N, off, hJ, step, fin⟩ := h₂
  refine hn9 ?_
  clear hn9
  refine tcomp_block (RR := fun acc C => compPost (model prog w) A E (some (assign (.Name y py) env)) (fun _ s' => Q .next s') acc C) hh W hsz hlen hcell hkind hloc hnd hst hfp F N off hJ step ?_
  intro D C h' tk m' ys nw F' N' oD lD hn hC₀ hCL hCD offC hJ'
  show wpAny _ A (assign (.Name y py) env (.ref D)) _ _ _
  refine wpAny_assign_Name (wpAny_storeName_local hy F'.ns (fun h₂ hn₂ hs₂ => ?_) hp)
  have hL₀ : h₀.get? env.locals = none := Heap.get?_none_of_le F'.above
  have F₂ : Fr h₀ env.locals h₂ (fun z => if z = y then some (.ref D) else m z) := ⟨hn₂, fun b o e => hs₂.extBut b o (fun q => by rw [q, hL₀] at e; cases e) (F'.keep b o e), F'.above⟩
  refine ⟨m', hn.sameBut hs₂ hCL, fun h'' hs'' => fin D h'' _ ys nw (F₂.change hs'' hCL hC₀) (fun p hp => ?_) oD lD hJ'⟩
  have z : h₂.get? p.1 = some p.2 := hs₂.extBut _ _ (N' p hp).2.1 (N' p hp).1
  refine ⟨hs''.extBut _ _ ?_ z, (N' p hp).2⟩
  rcases List.mem_cons.mp hp with rfl | hp
  · exact Ne.symm hCD
  · exact offC p hp
end
end
section
open PySem PySem.W PyProof.Rows PySem.Flt PySem.Spec PySem.Calls
theorem nm1 {α : Type} {x a : α} {l : List α} (h : x ∉ a :: l) : x ≠ a := fun e => h (e ▸ .head _)
theorem nm2 {α : Type} {x a : α} {l : List α} (h : x ∉ a :: l) : x ∉ l := fun m => h (.tail _ m)
theorem na9 {b i j : Nat} (h : i ≠ j) : b + i ≠ b + j := fun e => h (Nat.add_left_cancel e)
theorem nb9 {b i : Nat} : b ≠ b + (i + 1) := Nat.ne_of_lt (Nat.lt_add_of_pos_right (Nat.succ_pos _))
theorem nc9 {b i : Nat} : b + (i + 1) ≠ b := nb9.symm
theorem nt9 {t b i : Nat} (h : t < b) : t ≠ b + i := Nat.ne_of_lt (Nat.lt_of_lt_of_le h (Nat.le_add_right _ _))
noncomputable abbrev tupA (a : Array Value) : Obj := { cls := .type "tuple", data := .seq a }
noncomputable abbrev oTIt (t : Addr) (k : Int) : Obj := { cls := .type "tuple_iterator", data := .fields #[.ref t, .int k 0] }
noncomputable abbrev oZip (n b : Nat) (f0 : Value) : Obj := { cls := .type "zip", dict := none, data := .fields #[f0, .bool false, .bool false, .ref (b + n : Nat), .ref (b + n + 1 : Nat)], slots := #[] }
theorem IsTupIter.at' {h h' : Heap} {a t : Addr} {i : Nat} (x : IsTupIter h a t i) (hk : ∀ o, h.get? a = some o → h'.get? a = some o) : IsTupIter h' a t i := let ⟨o, ho, r⟩ := x; ⟨o, hk o ho, r⟩
theorem IsTup.at' {h h' : Heap} {a : Addr} {items : Array Value} (x : IsTup h a items) (hk : ∀ o, h.get? a = some o → h'.get? a = some o) : IsTup h' a items := let ⟨o, ho, r⟩ := x; ⟨o, hk o ho, r⟩
section
variable {prog : Program} {w : World} {A : Around} {E : Value → Shared → Prop} {s : Shared}
theorem nextOf_tup {it t : Addr} {i : Nat} {items : Array Value} {x : Value} {Q : Value → Shared → Prop} (hit : IsTupIter s.heap it t i) (ht : IsTup s.heap t items) (hx : items[i]? = some x)
    (hQ : ∀ h', IsTupIter h' it t (i + 1) → Heap.SameBut it s.heap h' → Q x { s with heap := h' }) : wpAny (model prog w) A (Builtin.SmallTypes.nextOf (.ref it)) Q E s := by
  obtain ⟨o, ho, hc, hd⟩ := id hit
  obtain ⟨ol, hol, _, nl, hdl⟩ := ht
  unfold Builtin.SmallTypes.nextOf
  refine wpAny_bind (wpAny_callSpecial?_slot (name := Str.ofString "__next__") hit.typeIs slot_tupleiter_next (wpAny_call_entry slot_tupleiter_next hit.typeIs entry_tupleiter_next ?_ (args_tupleiter_next _)))
  show wpAny _ _ (field (.ref it) 0 >>= _) _ _ s
  refine wpAny_bind (wpAny_field ho hd (x := .ref t) rfl ?_)
  show wpAny _ _ (if (Value.ref t == Value.none) = true then _ else _) _ _ s
  rw [if_neg (show ¬ ((Value.ref t == Value.none) = true) from Bool.false_ne_true)]
  show wpAny _ _ (field (.ref it) 1 >>= _) _ _ s
  refine wpAny_bind (wpAny_field ho hd (x := .int i 0) rfl ?_)
  show wpAny _ _ (seqItems? (.ref t) >>= _) _ _ s
  refine wpAny_bind (wpAny_seqItems hol hdl ?_)
  simp only [Int.toNat_natCast, hx]
  refine wpAny_bind (wpAny_setField ho hd (by simp) (wpAny_pure ⟨x, rfl, wpAny_pure (hQ _ ?_ (Heap.SameBut.update ..))⟩))
  exact ⟨_, Heap.get?_update_self _ ho (Obj.isFreed_of_fields (Obj.data_mapFields hd _)), (Obj.cls_mapFields ..).trans hc, by rw [Obj.data_mapFields hd]; simp [rawInt]⟩
theorem nextOf_tupEnd {it t : Addr} {i : Nat} {items : Array Value} {Q : Value → Shared → Prop} (hh : A.handled = none) (hit : IsTupIter s.heap it t i) (ht : IsTup s.heap t items) (hx : items[i]? = none)
    (hE : ∀ h' e, Heap.ExtBut it s.heap h' → (∃ o, h'.get? e = some o ∧ o.cls = .type "StopIteration") → E (.ref e) { s with heap := h' }) : wpAny (model prog w) A (Builtin.SmallTypes.nextOf (.ref it)) Q E s := by
  obtain ⟨o, ho, hc, hd⟩ := id hit
  obtain ⟨ol, hol, _, nl, hdl⟩ := ht
  unfold Builtin.SmallTypes.nextOf
  refine wpAny_bind (wpAny_callSpecial?_slot (name := Str.ofString "__next__") hit.typeIs slot_tupleiter_next (wpAny_call_entry slot_tupleiter_next hit.typeIs entry_tupleiter_next ?_ (args_tupleiter_next _)))
  show wpAny _ _ (field (.ref it) 0 >>= _) _ _ s
  refine wpAny_bind (wpAny_field ho hd (x := .ref t) rfl ?_)
  show wpAny _ _ (if (Value.ref t == Value.none) = true then _ else _) _ _ s
  rw [if_neg (show ¬ ((Value.ref t == Value.none) = true) from Bool.false_ne_true)]
  show wpAny _ _ (field (.ref it) 1 >>= _) _ _ s
  refine wpAny_bind (wpAny_field ho hd (x := .int i 0) rfl ?_)
  show wpAny _ _ (seqItems? (.ref t) >>= _) _ _ s
  refine wpAny_bind (wpAny_seqItems hol hdl ?_)
  simp only [Int.toNat_natCast, hx]
  refine wpAny_bind (wpAny_rule (wpAny_bind (wpAny_setField ho hd (by simp) ?_)))
  show wpAny _ _ (newExc (.type "StopIteration") [] >>= _) _ _ _
  refine wpAny_bind ?_
  simp only [newExc, newTuple]
  refine wpAny_bind (wpAny_newObj_type ?_ (by size_fits))
  refine wpAny_bind (m := firstArgMember _ _) (wpAny_of_eq (a := Value.none) (by first | rfl | (simp only [firstArgMember]; rfl)) ?_)
  refine wpAny_newObj_type ?_ (by size_fits)
  simp only [raiseNew]
  refine wpAny_bind (wpAny_handled ?_)
  first | rw [show A.in1.handled = none from hh] | rw [hh]
  refine wpAny_bind (wpAny_pure (wpAny_throw ?_))
  exact hE _ _ (((Heap.SameBut.update ..).extBut.push _).push _) ⟨_, Heap.get?_push_size _ rfl, rfl⟩
theorem updSeq_tup {T : Addr} {a : Array Value} {x : Value} {k : Nat} {Q : Unit → Shared → Prop} (hT : s.heap.get? T = some (tupA a))
    (h : ∀ h', h'.get? T = some (tupA (a.setIfInBounds k x)) → Heap.SameBut T s.heap h' → Q () { s with heap := h' }) (hsz : a.size ≤ 1000 := by simp) : wpAny (model prog w) A (updateSeq T (·.setIfInBounds k x)) Q E s := by
  refine wpAny_updateSeq hT rfl (h _ ?_ (Heap.SameBut.update ..)) (by rw [sizeLine_eq]; omega) (by rw [Array.size_setIfInBounds, sizeLine_eq]; omega)
  rw [Heap.get?_update_self _ hT rfl]
  simp [Obj.mapSeq]
theorem zip2_item {b t1 t2 : Nat} {k : Nat} {xs1 xs2 : Array Value} {a1 x1 a2 x2 : Value} {Q : Value → Shared → Prop} (hz : s.heap.get? (b + 4) = some (oZip 2 b .none)) (hTI : s.heap.get? (b + 2) = some (tupA #[.ref b, .ref (b + 1)])) (hTO : s.heap.get? (b + 3) = some (tupA #[a1, a2])) (l1 : t1 < b) (i1 : IsTupIter s.heap b t1 k) (u1 : IsTup s.heap t1 xs1) (l2 : t2 < b) (i2 : IsTupIter s.heap (b + 1) t2 k) (u2 : IsTup s.heap t2 xs2) (e1 : xs1[k]? = some x1) (e2 : xs2[k]? = some x2)
    (hQ : ∀ h', h'.get? (b + 4) = some (oZip 2 b (rawInt s.heap.objs.size)) → h'.get? (b + 2) = some (tupA #[.ref b, .ref (b + 1)]) → h'.get? (b + 3) = some (tupA #[x1, x2]) → IsTupIter h' b t1 (k + 1) → IsTup h' t1 xs1 → IsTupIter h' (b + 1) t2 (k + 1) → IsTup h' t2 xs2 → h'.get? s.heap.objs.size = some (tupA #[x1, x2]) → (∀ c o, c ∉ ([(b + 4), (b + 3), b, (b + 1)] : List Addr) → s.heap.get? c = some o → h'.get? c = some o) → Q (.ref s.heap.objs.size) { s with heap := h' }) :
    wpAny (model prog w) A (Builtin.«zip.__next__» ⟨[.ref (b + 4)], []⟩) (fun fin s' => ∃ v, fin = .done (.ret v) ∧ Q v s') E s := by
  show wpAny _ _ (field (.ref (b + 4)) 2 >>= _) _ _ _
  refine wpAny_bind (wpAny_field hz rfl (x := .bool false) rfl ?_)
  show wpAny _ _ (field (.ref (b + 4)) 3 >>= _) _ _ _
  refine wpAny_bind (wpAny_field hz rfl (x := .ref (b + 2)) rfl ?_)
  refine wpAny_bind (wpAny_seqItems hTI rfl ?_)
  show wpAny _ _ (Builtin.SmallTypes.ownedTupleIsFree (.ref (b + 4)) >>= _) _ _ _
  refine wpAny_bind ?_
  unfold Builtin.SmallTypes.ownedTupleIsFree
  refine wpAny_bind (wpAny_field hz rfl (x := .none) rfl (wpAny_pure ?_))
  simp only [if_true]
  refine wpAny_bind (wpAny_rule ?_)
  refine wpAny_bind (wpAny_field hz rfl (x := .ref (b + 3)) rfl ?_)
  refine wpAny_bind (wpAny_setField_rec hz (by simp) fun g0 z0 s0 => ?_)
  replace z0 : g0.get? (b + 4) = some (oZip 2 b .ellipsis) := z0
  refine wpAny_bind ?_
  simp only [List.zipIdx_cons, List.zipIdx_nil, List.forIn_cons, List.forIn_nil]
  have TI_1 := s0.extBut _ _ (by (show (_ : Nat) ≠ _); (first | exact na9 (by decide) | exact nb9 | exact nc9 | exact nt9 (by assumption) | exact Nat.ne_of_lt (by assumption) | exact (nt9 (by assumption)).symm | exact Nat.ne_of_gt (by assumption) | omega)) hTI
  have TO_1 := s0.extBut _ _ (by (show (_ : Nat) ≠ _); (first | exact na9 (by decide) | exact nb9 | exact nc9 | exact nt9 (by assumption) | exact Nat.ne_of_lt (by assumption) | exact (nt9 (by assumption)).symm | exact Nat.ne_of_gt (by assumption) | omega)) hTO
  have i1_1 := i1.extBut s0.extBut (by (show (_ : Nat) ≠ _); (first | exact na9 (by decide) | exact nb9 | exact nc9 | exact nt9 (by assumption) | exact Nat.ne_of_lt (by assumption) | exact (nt9 (by assumption)).symm | exact Nat.ne_of_gt (by assumption) | omega))
  have u1_1 := u1.extBut s0.extBut (by (show (_ : Nat) ≠ _); (first | exact na9 (by decide) | exact nb9 | exact nc9 | exact nt9 (by assumption) | exact Nat.ne_of_lt (by assumption) | exact (nt9 (by assumption)).symm | exact Nat.ne_of_gt (by assumption) | omega))
  have i2_1 := i2.extBut s0.extBut (by (show (_ : Nat) ≠ _); (first | exact na9 (by decide) | exact nb9 | exact nc9 | exact nt9 (by assumption) | exact Nat.ne_of_lt (by assumption) | exact (nt9 (by assumption)).symm | exact Nat.ne_of_gt (by assumption) | omega))
  have u2_1 := u2.extBut s0.extBut (by (show (_ : Nat) ≠ _); (first | exact na9 (by decide) | exact nb9 | exact nc9 | exact nt9 (by assumption) | exact Nat.ne_of_lt (by assumption) | exact (nt9 (by assumption)).symm | exact Nat.ne_of_gt (by assumption) | omega))
  refine wpAny_bind (wpAny_bind (wpAny_onRaise ?_))
  show wpAny _ _ (Builtin.SmallTypes.nextOf (.ref b) >>= _) _ _ _
  refine wpAny_bind (nextOf_tup i1_1 u1_1 e1 fun g1 ii1 s1 => wpAny_pure ?_)
  have z_2 := s1.extBut _ _ (by (show (_ : Nat) ≠ _); (first | exact na9 (by decide) | exact nb9 | exact nc9 | exact nt9 (by assumption) | exact Nat.ne_of_lt (by assumption) | exact (nt9 (by assumption)).symm | exact Nat.ne_of_gt (by assumption) | omega)) z0
  have TI_2 := s1.extBut _ _ (by (show (_ : Nat) ≠ _); (first | exact na9 (by decide) | exact nb9 | exact nc9 | exact nt9 (by assumption) | exact Nat.ne_of_lt (by assumption) | exact (nt9 (by assumption)).symm | exact Nat.ne_of_gt (by assumption) | omega)) TI_1
  have TO_2 := s1.extBut _ _ (by (show (_ : Nat) ≠ _); (first | exact na9 (by decide) | exact nb9 | exact nc9 | exact nt9 (by assumption) | exact Nat.ne_of_lt (by assumption) | exact (nt9 (by assumption)).symm | exact Nat.ne_of_gt (by assumption) | omega)) TO_1
  have u1_2 := u1_1.extBut s1.extBut (by (show (_ : Nat) ≠ _); (first | exact na9 (by decide) | exact nb9 | exact nc9 | exact nt9 (by assumption) | exact Nat.ne_of_lt (by assumption) | exact (nt9 (by assumption)).symm | exact Nat.ne_of_gt (by assumption) | omega))
  have i2_2 := i2_1.extBut s1.extBut (by (show (_ : Nat) ≠ _); (first | exact na9 (by decide) | exact nb9 | exact nc9 | exact nt9 (by assumption) | exact Nat.ne_of_lt (by assumption) | exact (nt9 (by assumption)).symm | exact Nat.ne_of_gt (by assumption) | omega))
  have u2_2 := u2_1.extBut s1.extBut (by (show (_ : Nat) ≠ _); (first | exact na9 (by decide) | exact nb9 | exact nc9 | exact nt9 (by assumption) | exact Nat.ne_of_lt (by assumption) | exact (nt9 (by assumption)).symm | exact Nat.ne_of_gt (by assumption) | omega))
  refine wpAny_bind (wpAny_seqItems TO_2 rfl ?_)
  refine wpAny_bind (updSeq_tup TO_2 fun g2 o1 s2 => ?_)
  replace o1 : g2.get? (b + 3) = some (tupA #[x1, a2]) := o1
  have z_3 := s2.extBut _ _ (by (show (_ : Nat) ≠ _); (first | exact na9 (by decide) | exact nb9 | exact nc9 | exact nt9 (by assumption) | exact Nat.ne_of_lt (by assumption) | exact (nt9 (by assumption)).symm | exact Nat.ne_of_gt (by assumption) | omega)) z_2
  have TI_3 := s2.extBut _ _ (by (show (_ : Nat) ≠ _); (first | exact na9 (by decide) | exact nb9 | exact nc9 | exact nt9 (by assumption) | exact Nat.ne_of_lt (by assumption) | exact (nt9 (by assumption)).symm | exact Nat.ne_of_gt (by assumption) | omega)) TI_2
  have i1_3 := ii1.extBut s2.extBut (by (show (_ : Nat) ≠ _); (first | exact na9 (by decide) | exact nb9 | exact nc9 | exact nt9 (by assumption) | exact Nat.ne_of_lt (by assumption) | exact (nt9 (by assumption)).symm | exact Nat.ne_of_gt (by assumption) | omega))
  have u1_3 := u1_2.extBut s2.extBut (by (show (_ : Nat) ≠ _); (first | exact na9 (by decide) | exact nb9 | exact nc9 | exact nt9 (by assumption) | exact Nat.ne_of_lt (by assumption) | exact (nt9 (by assumption)).symm | exact Nat.ne_of_gt (by assumption) | omega))
  have i2_3 := i2_2.extBut s2.extBut (by (show (_ : Nat) ≠ _); (first | exact na9 (by decide) | exact nb9 | exact nc9 | exact nt9 (by assumption) | exact Nat.ne_of_lt (by assumption) | exact (nt9 (by assumption)).symm | exact Nat.ne_of_gt (by assumption) | omega))
  have u2_3 := u2_2.extBut s2.extBut (by (show (_ : Nat) ≠ _); (first | exact na9 (by decide) | exact nb9 | exact nc9 | exact nt9 (by assumption) | exact Nat.ne_of_lt (by assumption) | exact (nt9 (by assumption)).symm | exact Nat.ne_of_gt (by assumption) | omega))
  refine wpAny_bind (PySem.wpAny_letGo (wpAny_pure ?_))
  refine wpAny_bind (wpAny_bind (wpAny_onRaise ?_))
  show wpAny _ _ (Builtin.SmallTypes.nextOf (.ref (b + 1)) >>= _) _ _ _
  refine wpAny_bind (nextOf_tup i2_3 u2_3 e2 fun g3 ii2 s3 => wpAny_pure ?_)
  have z_4 := s3.extBut _ _ (by (show (_ : Nat) ≠ _); (first | exact na9 (by decide) | exact nb9 | exact nc9 | exact nt9 (by assumption) | exact Nat.ne_of_lt (by assumption) | exact (nt9 (by assumption)).symm | exact Nat.ne_of_gt (by assumption) | omega)) z_3
  have TI_4 := s3.extBut _ _ (by (show (_ : Nat) ≠ _); (first | exact na9 (by decide) | exact nb9 | exact nc9 | exact nt9 (by assumption) | exact Nat.ne_of_lt (by assumption) | exact (nt9 (by assumption)).symm | exact Nat.ne_of_gt (by assumption) | omega)) TI_3
  have TO_4 := s3.extBut _ _ (by (show (_ : Nat) ≠ _); (first | exact na9 (by decide) | exact nb9 | exact nc9 | exact nt9 (by assumption) | exact Nat.ne_of_lt (by assumption) | exact (nt9 (by assumption)).symm | exact Nat.ne_of_gt (by assumption) | omega)) o1
  have i1_4 := i1_3.extBut s3.extBut (by (show (_ : Nat) ≠ _); (first | exact na9 (by decide) | exact nb9 | exact nc9 | exact nt9 (by assumption) | exact Nat.ne_of_lt (by assumption) | exact (nt9 (by assumption)).symm | exact Nat.ne_of_gt (by assumption) | omega))
  have u1_4 := u1_3.extBut s3.extBut (by (show (_ : Nat) ≠ _); (first | exact na9 (by decide) | exact nb9 | exact nc9 | exact nt9 (by assumption) | exact Nat.ne_of_lt (by assumption) | exact (nt9 (by assumption)).symm | exact Nat.ne_of_gt (by assumption) | omega))
  have u2_4 := u2_3.extBut s3.extBut (by (show (_ : Nat) ≠ _); (first | exact na9 (by decide) | exact nb9 | exact nc9 | exact nt9 (by assumption) | exact Nat.ne_of_lt (by assumption) | exact (nt9 (by assumption)).symm | exact Nat.ne_of_gt (by assumption) | omega))
  refine wpAny_bind (wpAny_seqItems TO_4 rfl ?_)
  refine wpAny_bind (updSeq_tup TO_4 fun g4 o2 s4 => ?_)
  replace o2 : g4.get? (b + 3) = some (tupA #[x1, x2]) := o2
  have z_5 := s4.extBut _ _ (by (show (_ : Nat) ≠ _); (first | exact na9 (by decide) | exact nb9 | exact nc9 | exact nt9 (by assumption) | exact Nat.ne_of_lt (by assumption) | exact (nt9 (by assumption)).symm | exact Nat.ne_of_gt (by assumption) | omega)) z_4
  have TI_5 := s4.extBut _ _ (by (show (_ : Nat) ≠ _); (first | exact na9 (by decide) | exact nb9 | exact nc9 | exact nt9 (by assumption) | exact Nat.ne_of_lt (by assumption) | exact (nt9 (by assumption)).symm | exact Nat.ne_of_gt (by assumption) | omega)) TI_4
  have i1_5 := i1_4.extBut s4.extBut (by (show (_ : Nat) ≠ _); (first | exact na9 (by decide) | exact nb9 | exact nc9 | exact nt9 (by assumption) | exact Nat.ne_of_lt (by assumption) | exact (nt9 (by assumption)).symm | exact Nat.ne_of_gt (by assumption) | omega))
  have u1_5 := u1_4.extBut s4.extBut (by (show (_ : Nat) ≠ _); (first | exact na9 (by decide) | exact nb9 | exact nc9 | exact nt9 (by assumption) | exact Nat.ne_of_lt (by assumption) | exact (nt9 (by assumption)).symm | exact Nat.ne_of_gt (by assumption) | omega))
  have i2_5 := ii2.extBut s4.extBut (by (show (_ : Nat) ≠ _); (first | exact na9 (by decide) | exact nb9 | exact nc9 | exact nt9 (by assumption) | exact Nat.ne_of_lt (by assumption) | exact (nt9 (by assumption)).symm | exact Nat.ne_of_gt (by assumption) | omega))
  have u2_5 := u2_4.extBut s4.extBut (by (show (_ : Nat) ≠ _); (first | exact na9 (by decide) | exact nb9 | exact nc9 | exact nt9 (by assumption) | exact Nat.ne_of_lt (by assumption) | exact (nt9 (by assumption)).symm | exact Nat.ne_of_gt (by assumption) | omega))
  refine wpAny_bind (PySem.wpAny_letGo (wpAny_pure (wpAny_pure ?_)))
  refine wpAny_bind (wpAny_seqItems o2 rfl ?_)
  refine wpAny_bind (wpAny_newTuple ?_)
  have hsz : g4.objs.size = s.heap.objs.size := by rw [s4.1, s3.1, s2.1, s1.1, s0.1]
  have hk : ∀ c o, c ∉ ([(b + 4), (b + 3), b, (b + 1)] : List Addr) → s.heap.get? c = some o → g4.get? c = some o := fun c o hc e => by
    have c1 := nm1 hc
    have c2 := nm1 (nm2 hc)
    have d1 := nm1 (nm2 (nm2 hc))
    have d2 := nm1 (nm2 (nm2 (nm2 hc)))
    exact (s4.extBut _ _ c2 (s3.extBut _ _ d2 (s2.extBut _ _ c2 (s1.extBut _ _ d1 (s0.extBut _ _ c1 e)))))
  show wpAny _ _ (Builtin.SmallTypes.ownedTupleHandOut (.ref (b + 4)) (.ref g4.objs.size) >>= _) _ _ _
  refine wpAny_bind ?_
  unfold Builtin.SmallTypes.ownedTupleHandOut
  have zz : (g4.push { cls := .type "tuple", data := .seq #[x1, x2] }).get? (b + 4) = some (oZip 2 b .ellipsis) := Heap.get?_push_of_some _ z_5
  refine wpAny_bind (wpAny_setField_rec zz (by simp) fun k1 y1 r1 => ?_)
  replace y1 : k1.get? (b + 4) = some (oZip 2 b (rawInt g4.objs.size)) := y1
  refine wpAny_setField_rec y1 (by simp) fun k2 y2 r2 => ?_
  replace y2 : k2.get? (b + 4) = some (oZip 2 b (rawInt g4.objs.size)) := y2
  have up : ∀ c o, c ≠ (b + 4) → g4.get? c = some o → k2.get? c = some o := fun c o c1 e => r2.extBut _ _ c1 (r1.extBut _ _ c1 (Heap.get?_push_of_some _ e))
  have zlt : (b + 4) < g4.objs.size := Heap.lt_size z_5
  have hT : k2.get? g4.objs.size = some (tupA #[x1, x2]) := r2.extBut _ _ (Nat.ne_of_gt zlt) (r1.extBut _ _ (Nat.ne_of_gt zlt) (Heap.get?_push_size _ rfl))
  rw [hsz] at y2 hT
  refine wpAny_pure ⟨_, rfl, ?_⟩
  show Q (.ref g4.objs.size) _
  rw [hsz]
  exact hQ k2 y2 (up _ _ (by (show (_ : Nat) ≠ _); (first | exact na9 (by decide) | exact nb9 | exact nc9 | exact nt9 (by assumption) | exact Nat.ne_of_lt (by assumption) | exact (nt9 (by assumption)).symm | exact Nat.ne_of_gt (by assumption) | omega)) TI_5) (up _ _ (by (show (_ : Nat) ≠ _); (first | exact na9 (by decide) | exact nb9 | exact nc9 | exact nt9 (by assumption) | exact Nat.ne_of_lt (by assumption) | exact (nt9 (by assumption)).symm | exact Nat.ne_of_gt (by assumption) | omega)) o2) (IsTupIter.at' i1_5 fun o e => up _ o (by (show (_ : Nat) ≠ _); (first | exact na9 (by decide) | exact nb9 | exact nc9 | exact nt9 (by assumption) | exact Nat.ne_of_lt (by assumption) | exact (nt9 (by assumption)).symm | exact Nat.ne_of_gt (by assumption) | omega)) e) (IsTup.at' u1_5 fun o e => up _ o (by (show (_ : Nat) ≠ _); (first | exact na9 (by decide) | exact nb9 | exact nc9 | exact nt9 (by assumption) | exact Nat.ne_of_lt (by assumption) | exact (nt9 (by assumption)).symm | exact Nat.ne_of_gt (by assumption) | omega)) e) (IsTupIter.at' i2_5 fun o e => up _ o (by (show (_ : Nat) ≠ _); (first | exact na9 (by decide) | exact nb9 | exact nc9 | exact nt9 (by assumption) | exact Nat.ne_of_lt (by assumption) | exact (nt9 (by assumption)).symm | exact Nat.ne_of_gt (by assumption) | omega)) e) (IsTup.at' u2_5 fun o e => up _ o (by (show (_ : Nat) ≠ _); (first | exact na9 (by decide) | exact nb9 | exact nc9 | exact nt9 (by assumption) | exact Nat.ne_of_lt (by assumption) | exact (nt9 (by assumption)).symm | exact Nat.ne_of_gt (by assumption) | omega)) e) hT fun c o hc e => up c o (fun q => hc (by simp [q])) (hk c o hc e)
theorem zip2_end {b t1 t2 : Nat} {k : Nat} {xs1 xs2 : Array Value} {a1 a2 : Value} {Q : Fin → Shared → Prop} (hh : A.handled = none) (hz : s.heap.get? (b + 4) = some (oZip 2 b .none)) (hTI : s.heap.get? (b + 2) = some (tupA #[.ref b, .ref (b + 1)])) (hTO : s.heap.get? (b + 3) = some (tupA #[a1, a2])) (l1 : t1 < b) (i1 : IsTupIter s.heap b t1 k) (u1 : IsTup s.heap t1 xs1) (l2 : t2 < b) (i2 : IsTupIter s.heap (b + 1) t2 k) (u2 : IsTup s.heap t2 xs2) (e1 : xs1[k]? = none)
    (hE : ∀ h' e, (∀ c o, c ∉ ([(b + 4), (b + 3), b, (b + 1)] : List Addr) → s.heap.get? c = some o → h'.get? c = some o) → (∃ o, h'.get? e = some o ∧ o.cls = .type "StopIteration") → E (.ref e) { s with heap := h' }) :
    wpAny (model prog w) A (Builtin.«zip.__next__» ⟨[.ref (b + 4)], []⟩) Q E s := by
  show wpAny _ _ (field (.ref (b + 4)) 2 >>= _) _ _ _
  refine wpAny_bind (wpAny_field hz rfl (x := .bool false) rfl ?_)
  show wpAny _ _ (field (.ref (b + 4)) 3 >>= _) _ _ _
  refine wpAny_bind (wpAny_field hz rfl (x := .ref (b + 2)) rfl ?_)
  refine wpAny_bind (wpAny_seqItems hTI rfl ?_)
  show wpAny _ _ (Builtin.SmallTypes.ownedTupleIsFree (.ref (b + 4)) >>= _) _ _ _
  refine wpAny_bind ?_
  unfold Builtin.SmallTypes.ownedTupleIsFree
  refine wpAny_bind (wpAny_field hz rfl (x := .none) rfl (wpAny_pure ?_))
  simp only [if_true]
  refine wpAny_bind (wpAny_rule ?_)
  refine wpAny_bind (wpAny_field hz rfl (x := .ref (b + 3)) rfl ?_)
  refine wpAny_bind (wpAny_setField_rec hz (by simp) fun g0 z0 s0 => ?_)
  replace z0 : g0.get? (b + 4) = some (oZip 2 b .ellipsis) := z0
  refine wpAny_bind ?_
  simp only [List.zipIdx_cons, List.zipIdx_nil, List.forIn_cons, List.forIn_nil]
  refine wpAny_bind (wpAny_bind (wpAny_onRaise ?_))
  show wpAny _ _ (Builtin.SmallTypes.nextOf (.ref b) >>= _) _ _ _
  refine wpAny_bind (nextOf_tupEnd hh (i1.extBut s0.extBut (by (show (_ : Nat) ≠ _); (first | exact na9 (by decide) | exact nb9 | exact nc9 | exact nt9 (by assumption) | exact Nat.ne_of_lt (by assumption) | exact (nt9 (by assumption)).symm | exact Nat.ne_of_gt (by assumption) | omega))) (u1.extBut s0.extBut (by (show (_ : Nat) ≠ _); (first | exact na9 (by decide) | exact nb9 | exact nc9 | exact nt9 (by assumption) | exact Nat.ne_of_lt (by assumption) | exact (nt9 (by assumption)).symm | exact Nat.ne_of_gt (by assumption) | omega))) e1 fun g1 e hs1 he => ?_)
  obtain ⟨oe, hoe, hce⟩ := he
  have z1 : g1.get? (b + 4) = some (oZip 2 b .ellipsis) := hs1 _ _ (by (show (_ : Nat) ≠ _); (first | exact na9 (by decide) | exact nb9 | exact nc9 | exact nt9 (by assumption) | exact Nat.ne_of_lt (by assumption) | exact (nt9 (by assumption)).symm | exact Nat.ne_of_gt (by assumption) | omega)) z0
  have hez : e ≠ (b + 4) := fun x => by rw [x, z1] at hoe; cases hoe; simp at hce
  refine wpAny_setField_rec z1 (by simp) fun g2 _ hs2 => hE g2 e (fun c o hc x => ?_) ⟨oe, hs2.extBut _ _ hez hoe, hce⟩
  exact hs2.extBut _ _ (nm1 hc) (hs1 _ _ (nm1 (nm2 (nm2 hc))) (s0.extBut _ _ (nm1 hc) x))
noncomputable def ZSt2 (b t1 t2 : Nat) (xs1 xs2 : List Value) (k : Nat) (h : Heap) : Prop := (h.get? (b + 4) = some (oZip 2 b .none) ∧ h.get? (b + 2) = some (tupA #[.ref b, .ref (b + 1)]) ∧ (∃ a1 a2, h.get? (b + 3) = some (tupA #[a1, a2])) ∧ IsTupIter h b t1 k ∧ IsTup h t1 xs1.toArray ∧ IsTupIter h (b + 1) t2 k ∧ IsTup h t2 xs2.toArray)
theorem zip2_src (hh : A.handled = none) {b t1 t2 : Nat} {xs1 xs2 : List Value} (l1 : t1 < b) (y1 : xs1.length = 3) (l2 : t2 < b) (y2 : xs2.length = 3) :
    TSrc prog w A (b + 4) [(b + 4), (b + 2), (b + 3), b, (b + 1), t1, t2] [(b + 4), (b + 3), b, (b + 1)] 3 (fun i => [xs1.getD i .none, xs2.getD i .none]) (ZSt2 b t1 t2 xs1 xs2) where
  sub := fun _ hc => (List.Sublist.cons₂ _ (List.Sublist.cons _ (List.Sublist.cons₂ _ (List.Sublist.cons₂ _ (List.Sublist.cons₂ _ (List.nil_sublist _)))))).subset hc
  here := fun i h hst => by
    obtain ⟨hz, hTI, ⟨a1, a2, hTO⟩, i1, u1, i2, u2⟩ := hst
    exact List.forall_mem_cons.mpr ⟨⟨_, hz⟩, List.forall_mem_cons.mpr ⟨⟨_, hTI⟩, List.forall_mem_cons.mpr ⟨⟨_, hTO⟩, List.forall_mem_cons.mpr ⟨⟨_, i1.choose_spec.1⟩, List.forall_mem_cons.mpr ⟨⟨_, i2.choose_spec.1⟩, List.forall_mem_cons.mpr ⟨⟨_, u1.choose_spec.1⟩, List.forall_mem_cons.mpr ⟨⟨_, u2.choose_spec.1⟩, List.forall_mem_nil _⟩⟩⟩⟩⟩⟩⟩
  frame := fun i h h' hst hk => by
    obtain ⟨hz, hTI, ⟨a1, a2, hTO⟩, i1, u1, i2, u2⟩ := hst
    exact ⟨hk _ (.head _) _ hz, hk _ (.tail _ (.head _)) _ hTI, ⟨a1, a2, hk _ (.tail _ (.tail _ (.head _))) _ hTO⟩, IsTupIter.at' i1 fun o e => hk _ (.tail _ (.tail _ (.tail _ (.head _)))) o e, IsTup.at' u1 fun o e => hk _ (.tail _ (.tail _ (.tail _ (.tail _ (.tail _ (.head _)))))) o e, IsTupIter.at' i2 fun o e => hk _ (.tail _ (.tail _ (.tail _ (.tail _ (.head _))))) o e, IsTup.at' u2 fun o e => hk _ (.tail _ (.tail _ (.tail _ (.tail _ (.tail _ (.tail _ (.head _))))))) o e⟩
  turn := fun i s elts k' tp Q E hi hst hQ => by
    obtain ⟨hz, hTI, ⟨a1, a2, hTO⟩, i1, u1, i2, u2⟩ := hst
    have hT : s.TypeIs (.ref (b + 4)) "zip" := ⟨_, hz, rfl⟩
    have ge : ∀ {xs : List Value}, xs.length = 3 → xs.toArray[i]? = some (xs.getD i .none) := fun {xs} h => by
      have : i < xs.length := by omega
      simp [List.getD, this]
    unfold pyNext
    refine wpAny_bind (wpAny_attempt (wpAny_callSpecial?_slot (name := Str.ofString "__next__") hT F.slot_zip_next
      (wpAny_call_entry F.slot_zip_next hT F.entry_zip_next (zip2_item hz hTI hTO l1 i1 u1 l2 i2 u2 (ge y1) (ge y2) fun h' q1 q2 q3 qi1 qu1 qi2 qu2 qT qk => ?_) (F.args_zip_next_1 _))))
    refine wpAny_pure ⟨_, rfl, ?_⟩
    unfold letOwnedTupleGo
    refine wpAny_bind (wpAny_load q1 ?_)
    show wpAny _ _ (if (["enumerate", "zip", "dict_itemiterator", "dict_reverseitemiterator", "odict_iterator", "itertools.zip_longest", "itertools.pairwise"].contains "zip" &&
      (#[rawInt s.heap.objs.size, .bool false, .bool false, .ref (b + 2), .ref (b + 3)] : Array Value)[0]? == some (rawInt s.heap.objs.size)) = true then _ else _) _ E _
    rw [if_pos (by simp)]
    refine wpAny_bind (wpAny_rule ?_)
    show wpAny _ _ (setField (.ref (b + 4)) 0 .none) _ E _
    refine wpAny_setField_rec q1 (by simp) fun h'' y2 r2 => ?_
    replace y2 : h''.get? (b + 4) = some (oZip 2 b .none) := y2
    have zlt : (b + 4) < s.heap.objs.size := Heap.lt_size hz
    refine hQ _ h'' _ ⟨_, r2.extBut _ _ (Nat.ne_of_gt zlt) qT, rfl, _, rfl⟩ ⟨y2, r2.extBut _ _ (by (show (_ : Nat) ≠ _); (first | exact na9 (by decide) | exact nb9 | exact nc9 | exact nt9 (by assumption) | exact Nat.ne_of_lt (by assumption) | exact (nt9 (by assumption)).symm | exact Nat.ne_of_gt (by assumption) | omega)) q2, ⟨_, _, r2.extBut _ _ (by (show (_ : Nat) ≠ _); (first | exact na9 (by decide) | exact nb9 | exact nc9 | exact nt9 (by assumption) | exact Nat.ne_of_lt (by assumption) | exact (nt9 (by assumption)).symm | exact Nat.ne_of_gt (by assumption) | omega)) q3⟩, qi1.extBut r2.extBut (by (show (_ : Nat) ≠ _); (first | exact na9 (by decide) | exact nb9 | exact nc9 | exact nt9 (by assumption) | exact Nat.ne_of_lt (by assumption) | exact (nt9 (by assumption)).symm | exact Nat.ne_of_gt (by assumption) | omega)), qu1.extBut r2.extBut (by (show (_ : Nat) ≠ _); (first | exact na9 (by decide) | exact nb9 | exact nc9 | exact nt9 (by assumption) | exact Nat.ne_of_lt (by assumption) | exact (nt9 (by assumption)).symm | exact Nat.ne_of_gt (by assumption) | omega)), qi2.extBut r2.extBut (by (show (_ : Nat) ≠ _); (first | exact na9 (by decide) | exact nb9 | exact nc9 | exact nt9 (by assumption) | exact Nat.ne_of_lt (by assumption) | exact (nt9 (by assumption)).symm | exact Nat.ne_of_gt (by assumption) | omega)), qu2.extBut r2.extBut (by (show (_ : Nat) ≠ _); (first | exact na9 (by decide) | exact nb9 | exact nc9 | exact nt9 (by assumption) | exact Nat.ne_of_lt (by assumption) | exact (nt9 (by assumption)).symm | exact Nat.ne_of_gt (by assumption) | omega))⟩ fun c o hc e => r2.extBut _ _ (fun q => hc (by simp [q])) (qk c o hc e)
  done := fun s Q E hst hQ => by
    obtain ⟨hz, hTI, ⟨a1, a2, hTO⟩, i1, u1, i2, u2⟩ := hst
    have hT : s.TypeIs (.ref (b + 4)) "zip" := ⟨_, hz, rfl⟩
    unfold pyNext
    refine wpAny_bind (wpAny_attempt (wpAny_callSpecial?_slot (name := Str.ofString "__next__") hT F.slot_zip_next
      (wpAny_call_entry F.slot_zip_next hT F.entry_zip_next (zip2_end hh hz hTI hTO l1 i1 u1 l2 i2 u2 (by simp [y1]) fun h' e hk he => ?_) (F.args_zip_next_1 _))))
    obtain ⟨o, ho, hc⟩ := he
    refine wpAny_bind (wpAny_isInstance (T := "StopIteration") (b := true) ⟨o, ho, hc⟩ isSubtype_stop ?_)
    exact wpAny_pure (hQ _ s.toks hk)
  self := fun i s Q E hst hQ => by
    obtain ⟨hz, _⟩ := hst
    have hT : s.TypeIs (.ref (b + 4)) "zip" := ⟨_, hz, rfl⟩
    refine wpAny_pyIter_slot hT F.slot_zip_iter (wpAny_call_entry F.slot_zip_iter hT F.entry_zip_iter ?_ (F.args_zip_iter_1 _))
    show wpAny _ _ (ret (.ref (b + 4))) _ _ s
    exact wpAny_pure ⟨_, rfl, "zip", _, hT, F.slot_zip_next.lookup, hQ⟩
noncomputable abbrev zh2_1 (h : Heap) (t1 t2 : Nat) : Heap := h.push { cls := .type "tuple_iterator", data := .fields #[.ref t1, .int 0 0] }
noncomputable abbrev zh2_2 (h : Heap) (t1 t2 : Nat) : Heap := (zh2_1 h t1 t2).push { cls := .type "tuple_iterator", data := .fields #[.ref t2, .int 0 0] }
noncomputable abbrev zh2_3 (h : Heap) (t1 t2 : Nat) : Heap := (zh2_2 h t1 t2).push { cls := .type "tuple", data := .seq #[.ref h.objs.size, .ref (zh2_1 h t1 t2).objs.size] }
noncomputable abbrev zh2_4 (h : Heap) (t1 t2 : Nat) : Heap := (zh2_3 h t1 t2).push { cls := .type "tuple", data := .seq #[.none, .none] }
noncomputable abbrev zh2_5 (h : Heap) (t1 t2 : Nat) : Heap := (zh2_4 h t1 t2).push { cls := .type "zip", data := .fields #[.none, .bool false, .bool false, .ref (zh2_2 h t1 t2).objs.size, .ref (zh2_3 h t1 t2).objs.size] }
set_option maxHeartbeats 4000000 in
theorem meets_zip2 (t1 t2 : Nat) (xs1 xs2 : Array Value) :
    Meets (Builtin.«zip.__new__» ⟨[.type "zip", .ref t1, .ref t2], []⟩) (fun _ R s => IsTup s.heap t1 xs1 ∧ IsTup s.heap t2 xs2 ∧
      R (.ok (.ret (.ref (zh2_4 s.heap t1 t2).objs.size))) { s with heap := zh2_5 s.heap t1 t2 }) :=
  .of_wp fun prog w A R s h => by
    obtain ⟨hp, g, d, tk, os⟩ := s; obtain ⟨u1, u2, h⟩ := h
    have hsub := sub_zip
    have T1 : IsTup (Shared.heap ⟨hp, g, d, tk, os⟩) t1 xs1 := u1
    have T2 : IsTup (Shared.heap ⟨(hp.push { cls := .type "tuple_iterator", data := .fields #[.ref t1, .int 0 0] }), g, d, tk, os⟩) t2 xs2 := IsTup.push (u2) _
    wp_walk using iter_tuple T1, iter_tuple T2
    exact ⟨_, rfl, h⟩
theorem call_zip2 {t1 t2 : Nat} {xs1 xs2 : Array Value} {Q : Value → Shared → Prop} (u1 : IsTup s.heap t1 xs1) (u2 : IsTup s.heap t2 xs2)
    (h : ∀ h' (b : Nat), b = s.heap.objs.size → t1 < b → t2 < b → h'.get? (b + 4) = some (oZip 2 b .none) → h'.get? (b + 2) = some (tupA #[.ref b, .ref (b + 1)]) → h'.get? (b + 3) = some (tupA #[.none, .none]) → h'.get? b = some (oTIt t1 0) → h'.get? (b + 1) = some (oTIt t2 0) → (∀ c o, s.heap.get? c = some o → h'.get? c = some o) →
      Q (.ref (b + 4)) { s with heap := h' }) : wpAny (model prog w) A (call (.type "zip") [.ref t1, .ref t2]) Q E s := by
  refine callType_new F.called_zip (by decide) (by kernel_rfl) (by kernel_rfl) (fun obj => by unfold argsOk; rw [signature?_of (id := "object.__init__") (n := ['_', '_', 't', 'i', 'n', 'i', '_', '_']) (o := ['t', 'c', 'e', 'j', 'b', 'o']) (by kernel_rfl) F.owner_object]; kernel_rfl) F.entry_zip_new
    (meets_zip2 t1 t2 xs1 xs2) ⟨u1, u2, ?_⟩
  have z1 : (zh2_1 s.heap t1 t2).objs.size = s.heap.objs.size + 1 := Heap.size_push ..
  have z2 : (zh2_2 s.heap t1 t2).objs.size = s.heap.objs.size + 2 := by rw [Heap.size_push, z1]
  have z3 : (zh2_3 s.heap t1 t2).objs.size = s.heap.objs.size + 3 := by rw [Heap.size_push, z2]
  have z4 : (zh2_4 s.heap t1 t2).objs.size = s.heap.objs.size + 4 := by rw [Heap.size_push, z3]
  have z5 : (zh2_5 s.heap t1 t2).objs.size = s.heap.objs.size + 5 := by rw [Heap.size_push, z4]
  have g1 : (zh2_5 s.heap t1 t2).get? s.heap.objs.size = some _ := Heap.get?_push_of_some _ (Heap.get?_push_of_some _ (Heap.get?_push_of_some _ (Heap.get?_push_of_some _ (Heap.get?_push_size _ rfl))))
  have g2 : (zh2_5 s.heap t1 t2).get? (zh2_1 s.heap t1 t2).objs.size = some _ := Heap.get?_push_of_some _ (Heap.get?_push_of_some _ (Heap.get?_push_of_some _ (Heap.get?_push_size _ rfl)))
  have g3 : (zh2_5 s.heap t1 t2).get? (zh2_2 s.heap t1 t2).objs.size = some _ := Heap.get?_push_of_some _ (Heap.get?_push_of_some _ (Heap.get?_push_size _ rfl))
  have g4 : (zh2_5 s.heap t1 t2).get? (zh2_3 s.heap t1 t2).objs.size = some _ := Heap.get?_push_of_some _ (Heap.get?_push_size _ rfl)
  have g5 : (zh2_5 s.heap t1 t2).get? (zh2_4 s.heap t1 t2).objs.size = some _ := Heap.get?_push_size _ rfl
  rw [z1] at g2
  rw [z2, z1] at g3
  rw [z3] at g4
  rw [z4, z2, z3] at g5
  show _ ∧ _
  rw [z4]
  exact ⟨⟨_, g5, rfl⟩, h _ _ rfl (Heap.lt_size u1.choose_spec.1) (Heap.lt_size u2.choose_spec.1) g5 g3 g4 g1 g2 fun c o x => (Heap.get?_push_of_some _ (Heap.get?_push_of_some _ (Heap.get?_push_of_some _ (Heap.get?_push_of_some _ (Heap.get?_push_of_some _ x)))))⟩
theorem zip3_item {b t1 t2 t3 : Nat} {k : Nat} {xs1 xs2 xs3 : Array Value} {a1 x1 a2 x2 a3 x3 : Value} {Q : Value → Shared → Prop} (hz : s.heap.get? (b + 5) = some (oZip 3 b .none)) (hTI : s.heap.get? (b + 3) = some (tupA #[.ref b, .ref (b + 1), .ref (b + 2)])) (hTO : s.heap.get? (b + 4) = some (tupA #[a1, a2, a3])) (l1 : t1 < b) (i1 : IsTupIter s.heap b t1 k) (u1 : IsTup s.heap t1 xs1) (l2 : t2 < b) (i2 : IsTupIter s.heap (b + 1) t2 k) (u2 : IsTup s.heap t2 xs2) (l3 : t3 < b) (i3 : IsTupIter s.heap (b + 2) t3 k) (u3 : IsTup s.heap t3 xs3) (e1 : xs1[k]? = some x1) (e2 : xs2[k]? = some x2) (e3 : xs3[k]? = some x3)
    (hQ : ∀ h', h'.get? (b + 5) = some (oZip 3 b (rawInt s.heap.objs.size)) → h'.get? (b + 3) = some (tupA #[.ref b, .ref (b + 1), .ref (b + 2)]) → h'.get? (b + 4) = some (tupA #[x1, x2, x3]) → IsTupIter h' b t1 (k + 1) → IsTup h' t1 xs1 → IsTupIter h' (b + 1) t2 (k + 1) → IsTup h' t2 xs2 → IsTupIter h' (b + 2) t3 (k + 1) → IsTup h' t3 xs3 → h'.get? s.heap.objs.size = some (tupA #[x1, x2, x3]) → (∀ c o, c ∉ ([(b + 5), (b + 4), b, (b + 1), (b + 2)] : List Addr) → s.heap.get? c = some o → h'.get? c = some o) → Q (.ref s.heap.objs.size) { s with heap := h' }) :
    wpAny (model prog w) A (Builtin.«zip.__next__» ⟨[.ref (b + 5)], []⟩) (fun fin s' => ∃ v, fin = .done (.ret v) ∧ Q v s') E s := by
  show wpAny _ _ (field (.ref (b + 5)) 2 >>= _) _ _ _
  refine wpAny_bind (wpAny_field hz rfl (x := .bool false) rfl ?_)
  show wpAny _ _ (field (.ref (b + 5)) 3 >>= _) _ _ _
  refine wpAny_bind (wpAny_field hz rfl (x := .ref (b + 3)) rfl ?_)
  refine wpAny_bind (wpAny_seqItems hTI rfl ?_)
  show wpAny _ _ (Builtin.SmallTypes.ownedTupleIsFree (.ref (b + 5)) >>= _) _ _ _
  refine wpAny_bind ?_
  unfold Builtin.SmallTypes.ownedTupleIsFree
  refine wpAny_bind (wpAny_field hz rfl (x := .none) rfl (wpAny_pure ?_))
  simp only [if_true]
  refine wpAny_bind (wpAny_rule ?_)
  refine wpAny_bind (wpAny_field hz rfl (x := .ref (b + 4)) rfl ?_)
  refine wpAny_bind (wpAny_setField_rec hz (by simp) fun g0 z0 s0 => ?_)
  replace z0 : g0.get? (b + 5) = some (oZip 3 b .ellipsis) := z0
  refine wpAny_bind ?_
  simp only [List.zipIdx_cons, List.zipIdx_nil, List.forIn_cons, List.forIn_nil]
  have TI_1 := s0.extBut _ _ (by (show (_ : Nat) ≠ _); (first | exact na9 (by decide) | exact nb9 | exact nc9 | exact nt9 (by assumption) | exact Nat.ne_of_lt (by assumption) | exact (nt9 (by assumption)).symm | exact Nat.ne_of_gt (by assumption) | omega)) hTI
  have TO_1 := s0.extBut _ _ (by (show (_ : Nat) ≠ _); (first | exact na9 (by decide) | exact nb9 | exact nc9 | exact nt9 (by assumption) | exact Nat.ne_of_lt (by assumption) | exact (nt9 (by assumption)).symm | exact Nat.ne_of_gt (by assumption) | omega)) hTO
  have i1_1 := i1.extBut s0.extBut (by (show (_ : Nat) ≠ _); (first | exact na9 (by decide) | exact nb9 | exact nc9 | exact nt9 (by assumption) | exact Nat.ne_of_lt (by assumption) | exact (nt9 (by assumption)).symm | exact Nat.ne_of_gt (by assumption) | omega))
  have u1_1 := u1.extBut s0.extBut (by (show (_ : Nat) ≠ _); (first | exact na9 (by decide) | exact nb9 | exact nc9 | exact nt9 (by assumption) | exact Nat.ne_of_lt (by assumption) | exact (nt9 (by assumption)).symm | exact Nat.ne_of_gt (by assumption) | omega))
  have i2_1 := i2.extBut s0.extBut (by (show (_ : Nat) ≠ _); (first | exact na9 (by decide) | exact nb9 | exact nc9 | exact nt9 (by assumption) | exact Nat.ne_of_lt (by assumption) | exact (nt9 (by assumption)).symm | exact Nat.ne_of_gt (by assumption) | omega))
  have u2_1 := u2.extBut s0.extBut (by (show (_ : Nat) ≠ _); (first | exact na9 (by decide) | exact nb9 | exact nc9 | exact nt9 (by assumption) | exact Nat.ne_of_lt (by assumption) | exact (nt9 (by assumption)).symm | exact Nat.ne_of_gt (by assumption) | omega))
  have i3_1 := i3.extBut s0.extBut (by (show (_ : Nat) ≠ _); (first | exact na9 (by decide) | exact nb9 | exact nc9 | exact nt9 (by assumption) | exact Nat.ne_of_lt (by assumption) | exact (nt9 (by assumption)).symm | exact Nat.ne_of_gt (by assumption) | omega))
  have u3_1 := u3.extBut s0.extBut (by (show (_ : Nat) ≠ _); (first | exact na9 (by decide) | exact nb9 | exact nc9 | exact nt9 (by assumption) | exact Nat.ne_of_lt (by assumption) | exact (nt9 (by assumption)).symm | exact Nat.ne_of_gt (by assumption) | omega))
  refine wpAny_bind (wpAny_bind (wpAny_onRaise ?_))
  show wpAny _ _ (Builtin.SmallTypes.nextOf (.ref b) >>= _) _ _ _
  refine wpAny_bind (nextOf_tup i1_1 u1_1 e1 fun g1 ii1 s1 => wpAny_pure ?_)
  have z_2 := s1.extBut _ _ (by (show (_ : Nat) ≠ _); (first | exact na9 (by decide) | exact nb9 | exact nc9 | exact nt9 (by assumption) | exact Nat.ne_of_lt (by assumption) | exact (nt9 (by assumption)).symm | exact Nat.ne_of_gt (by assumption) | omega)) z0
  have TI_2 := s1.extBut _ _ (by (show (_ : Nat) ≠ _); (first | exact na9 (by decide) | exact nb9 | exact nc9 | exact nt9 (by assumption) | exact Nat.ne_of_lt (by assumption) | exact (nt9 (by assumption)).symm | exact Nat.ne_of_gt (by assumption) | omega)) TI_1
  have TO_2 := s1.extBut _ _ (by (show (_ : Nat) ≠ _); (first | exact na9 (by decide) | exact nb9 | exact nc9 | exact nt9 (by assumption) | exact Nat.ne_of_lt (by assumption) | exact (nt9 (by assumption)).symm | exact Nat.ne_of_gt (by assumption) | omega)) TO_1
  have u1_2 := u1_1.extBut s1.extBut (by (show (_ : Nat) ≠ _); (first | exact na9 (by decide) | exact nb9 | exact nc9 | exact nt9 (by assumption) | exact Nat.ne_of_lt (by assumption) | exact (nt9 (by assumption)).symm | exact Nat.ne_of_gt (by assumption) | omega))
  have i2_2 := i2_1.extBut s1.extBut (by (show (_ : Nat) ≠ _); (first | exact na9 (by decide) | exact nb9 | exact nc9 | exact nt9 (by assumption) | exact Nat.ne_of_lt (by assumption) | exact (nt9 (by assumption)).symm | exact Nat.ne_of_gt (by assumption) | omega))
  have u2_2 := u2_1.extBut s1.extBut (by (show (_ : Nat) ≠ _); (first | exact na9 (by decide) | exact nb9 | exact nc9 | exact nt9 (by assumption) | exact Nat.ne_of_lt (by assumption) | exact (nt9 (by assumption)).symm | exact Nat.ne_of_gt (by assumption) | omega))
  have i3_2 := i3_1.extBut s1.extBut (by (show (_ : Nat) ≠ _); (first | exact na9 (by decide) | exact nb9 | exact nc9 | exact nt9 (by assumption) | exact Nat.ne_of_lt (by assumption) | exact (nt9 (by assumption)).symm | exact Nat.ne_of_gt (by assumption) | omega))
  have u3_2 := u3_1.extBut s1.extBut (by (show (_ : Nat) ≠ _); (first | exact na9 (by decide) | exact nb9 | exact nc9 | exact nt9 (by assumption) | exact Nat.ne_of_lt (by assumption) | exact (nt9 (by assumption)).symm | exact Nat.ne_of_gt (by assumption) | omega))
  refine wpAny_bind (wpAny_seqItems TO_2 rfl ?_)
  refine wpAny_bind (updSeq_tup TO_2 fun g2 o1 s2 => ?_)
  replace o1 : g2.get? (b + 4) = some (tupA #[x1, a2, a3]) := o1
  have z_3 := s2.extBut _ _ (by (show (_ : Nat) ≠ _); (first | exact na9 (by decide) | exact nb9 | exact nc9 | exact nt9 (by assumption) | exact Nat.ne_of_lt (by assumption) | exact (nt9 (by assumption)).symm | exact Nat.ne_of_gt (by assumption) | omega)) z_2
  have TI_3 := s2.extBut _ _ (by (show (_ : Nat) ≠ _); (first | exact na9 (by decide) | exact nb9 | exact nc9 | exact nt9 (by assumption) | exact Nat.ne_of_lt (by assumption) | exact (nt9 (by assumption)).symm | exact Nat.ne_of_gt (by assumption) | omega)) TI_2
  have i1_3 := ii1.extBut s2.extBut (by (show (_ : Nat) ≠ _); (first | exact na9 (by decide) | exact nb9 | exact nc9 | exact nt9 (by assumption) | exact Nat.ne_of_lt (by assumption) | exact (nt9 (by assumption)).symm | exact Nat.ne_of_gt (by assumption) | omega))
  have u1_3 := u1_2.extBut s2.extBut (by (show (_ : Nat) ≠ _); (first | exact na9 (by decide) | exact nb9 | exact nc9 | exact nt9 (by assumption) | exact Nat.ne_of_lt (by assumption) | exact (nt9 (by assumption)).symm | exact Nat.ne_of_gt (by assumption) | omega))
  have i2_3 := i2_2.extBut s2.extBut (by (show (_ : Nat) ≠ _); (first | exact na9 (by decide) | exact nb9 | exact nc9 | exact nt9 (by assumption) | exact Nat.ne_of_lt (by assumption) | exact (nt9 (by assumption)).symm | exact Nat.ne_of_gt (by assumption) | omega))
  have u2_3 := u2_2.extBut s2.extBut (by (show (_ : Nat) ≠ _); (first | exact na9 (by decide) | exact nb9 | exact nc9 | exact nt9 (by assumption) | exact Nat.ne_of_lt (by assumption) | exact (nt9 (by assumption)).symm | exact Nat.ne_of_gt (by assumption) | omega))
  have i3_3 := i3_2.extBut s2.extBut (by (show (_ : Nat) ≠ _); (first | exact na9 (by decide) | exact nb9 | exact nc9 | exact nt9 (by assumption) | exact Nat.ne_of_lt (by assumption) | exact (nt9 (by assumption)).symm | exact Nat.ne_of_gt (by assumption) | omega))
  have u3_3 := u3_2.extBut s2.extBut (by (show (_ : Nat) ≠ _); (first | exact na9 (by decide) | exact nb9 | exact nc9 | exact nt9 (by assumption) | exact Nat.ne_of_lt (by assumption) | exact (nt9 (by assumption)).symm | exact Nat.ne_of_gt (by assumption) | omega))
  refine wpAny_bind (PySem.wpAny_letGo (wpAny_pure ?_))
  refine wpAny_bind (wpAny_bind (wpAny_onRaise ?_))
  show wpAny _ _ (Builtin.SmallTypes.nextOf (.ref (b + 1)) >>= _) _ _ _
  refine wpAny_bind (nextOf_tup i2_3 u2_3 e2 fun g3 ii2 s3 => wpAny_pure ?_)
  have z_4 := s3.extBut _ _ (by (show (_ : Nat) ≠ _); (first | exact na9 (by decide) | exact nb9 | exact nc9 | exact nt9 (by assumption) | exact Nat.ne_of_lt (by assumption) | exact (nt9 (by assumption)).symm | exact Nat.ne_of_gt (by assumption) | omega)) z_3
  have TI_4 := s3.extBut _ _ (by (show (_ : Nat) ≠ _); (first | exact na9 (by decide) | exact nb9 | exact nc9 | exact nt9 (by assumption) | exact Nat.ne_of_lt (by assumption) | exact (nt9 (by assumption)).symm | exact Nat.ne_of_gt (by assumption) | omega)) TI_3
  have TO_4 := s3.extBut _ _ (by (show (_ : Nat) ≠ _); (first | exact na9 (by decide) | exact nb9 | exact nc9 | exact nt9 (by assumption) | exact Nat.ne_of_lt (by assumption) | exact (nt9 (by assumption)).symm | exact Nat.ne_of_gt (by assumption) | omega)) o1
  have i1_4 := i1_3.extBut s3.extBut (by (show (_ : Nat) ≠ _); (first | exact na9 (by decide) | exact nb9 | exact nc9 | exact nt9 (by assumption) | exact Nat.ne_of_lt (by assumption) | exact (nt9 (by assumption)).symm | exact Nat.ne_of_gt (by assumption) | omega))
  have u1_4 := u1_3.extBut s3.extBut (by (show (_ : Nat) ≠ _); (first | exact na9 (by decide) | exact nb9 | exact nc9 | exact nt9 (by assumption) | exact Nat.ne_of_lt (by assumption) | exact (nt9 (by assumption)).symm | exact Nat.ne_of_gt (by assumption) | omega))
  have u2_4 := u2_3.extBut s3.extBut (by (show (_ : Nat) ≠ _); (first | exact na9 (by decide) | exact nb9 | exact nc9 | exact nt9 (by assumption) | exact Nat.ne_of_lt (by assumption) | exact (nt9 (by assumption)).symm | exact Nat.ne_of_gt (by assumption) | omega))
  have i3_4 := i3_3.extBut s3.extBut (by (show (_ : Nat) ≠ _); (first | exact na9 (by decide) | exact nb9 | exact nc9 | exact nt9 (by assumption) | exact Nat.ne_of_lt (by assumption) | exact (nt9 (by assumption)).symm | exact Nat.ne_of_gt (by assumption) | omega))
  have u3_4 := u3_3.extBut s3.extBut (by (show (_ : Nat) ≠ _); (first | exact na9 (by decide) | exact nb9 | exact nc9 | exact nt9 (by assumption) | exact Nat.ne_of_lt (by assumption) | exact (nt9 (by assumption)).symm | exact Nat.ne_of_gt (by assumption) | omega))
  refine wpAny_bind (wpAny_seqItems TO_4 rfl ?_)
  refine wpAny_bind (updSeq_tup TO_4 fun g4 o2 s4 => ?_)
  replace o2 : g4.get? (b + 4) = some (tupA #[x1, x2, a3]) := o2
  have z_5 := s4.extBut _ _ (by (show (_ : Nat) ≠ _); (first | exact na9 (by decide) | exact nb9 | exact nc9 | exact nt9 (by assumption) | exact Nat.ne_of_lt (by assumption) | exact (nt9 (by assumption)).symm | exact Nat.ne_of_gt (by assumption) | omega)) z_4
  have TI_5 := s4.extBut _ _ (by (show (_ : Nat) ≠ _); (first | exact na9 (by decide) | exact nb9 | exact nc9 | exact nt9 (by assumption) | exact Nat.ne_of_lt (by assumption) | exact (nt9 (by assumption)).symm | exact Nat.ne_of_gt (by assumption) | omega)) TI_4
  have i1_5 := i1_4.extBut s4.extBut (by (show (_ : Nat) ≠ _); (first | exact na9 (by decide) | exact nb9 | exact nc9 | exact nt9 (by assumption) | exact Nat.ne_of_lt (by assumption) | exact (nt9 (by assumption)).symm | exact Nat.ne_of_gt (by assumption) | omega))
  have u1_5 := u1_4.extBut s4.extBut (by (show (_ : Nat) ≠ _); (first | exact na9 (by decide) | exact nb9 | exact nc9 | exact nt9 (by assumption) | exact Nat.ne_of_lt (by assumption) | exact (nt9 (by assumption)).symm | exact Nat.ne_of_gt (by assumption) | omega))
  have i2_5 := ii2.extBut s4.extBut (by (show (_ : Nat) ≠ _); (first | exact na9 (by decide) | exact nb9 | exact nc9 | exact nt9 (by assumption) | exact Nat.ne_of_lt (by assumption) | exact (nt9 (by assumption)).symm | exact Nat.ne_of_gt (by assumption) | omega))
  have u2_5 := u2_4.extBut s4.extBut (by (show (_ : Nat) ≠ _); (first | exact na9 (by decide) | exact nb9 | exact nc9 | exact nt9 (by assumption) | exact Nat.ne_of_lt (by assumption) | exact (nt9 (by assumption)).symm | exact Nat.ne_of_gt (by assumption) | omega))
  have i3_5 := i3_4.extBut s4.extBut (by (show (_ : Nat) ≠ _); (first | exact na9 (by decide) | exact nb9 | exact nc9 | exact nt9 (by assumption) | exact Nat.ne_of_lt (by assumption) | exact (nt9 (by assumption)).symm | exact Nat.ne_of_gt (by assumption) | omega))
  have u3_5 := u3_4.extBut s4.extBut (by (show (_ : Nat) ≠ _); (first | exact na9 (by decide) | exact nb9 | exact nc9 | exact nt9 (by assumption) | exact Nat.ne_of_lt (by assumption) | exact (nt9 (by assumption)).symm | exact Nat.ne_of_gt (by assumption) | omega))
  refine wpAny_bind (PySem.wpAny_letGo (wpAny_pure ?_))
  refine wpAny_bind (wpAny_bind (wpAny_onRaise ?_))
  show wpAny _ _ (Builtin.SmallTypes.nextOf (.ref (b + 2)) >>= _) _ _ _
  refine wpAny_bind (nextOf_tup i3_5 u3_5 e3 fun g5 ii3 s5 => wpAny_pure ?_)
  have z_6 := s5.extBut _ _ (by (show (_ : Nat) ≠ _); (first | exact na9 (by decide) | exact nb9 | exact nc9 | exact nt9 (by assumption) | exact Nat.ne_of_lt (by assumption) | exact (nt9 (by assumption)).symm | exact Nat.ne_of_gt (by assumption) | omega)) z_5
  have TI_6 := s5.extBut _ _ (by (show (_ : Nat) ≠ _); (first | exact na9 (by decide) | exact nb9 | exact nc9 | exact nt9 (by assumption) | exact Nat.ne_of_lt (by assumption) | exact (nt9 (by assumption)).symm | exact Nat.ne_of_gt (by assumption) | omega)) TI_5
  have TO_6 := s5.extBut _ _ (by (show (_ : Nat) ≠ _); (first | exact na9 (by decide) | exact nb9 | exact nc9 | exact nt9 (by assumption) | exact Nat.ne_of_lt (by assumption) | exact (nt9 (by assumption)).symm | exact Nat.ne_of_gt (by assumption) | omega)) o2
  have i1_6 := i1_5.extBut s5.extBut (by (show (_ : Nat) ≠ _); (first | exact na9 (by decide) | exact nb9 | exact nc9 | exact nt9 (by assumption) | exact Nat.ne_of_lt (by assumption) | exact (nt9 (by assumption)).symm | exact Nat.ne_of_gt (by assumption) | omega))
  have u1_6 := u1_5.extBut s5.extBut (by (show (_ : Nat) ≠ _); (first | exact na9 (by decide) | exact nb9 | exact nc9 | exact nt9 (by assumption) | exact Nat.ne_of_lt (by assumption) | exact (nt9 (by assumption)).symm | exact Nat.ne_of_gt (by assumption) | omega))
  have i2_6 := i2_5.extBut s5.extBut (by (show (_ : Nat) ≠ _); (first | exact na9 (by decide) | exact nb9 | exact nc9 | exact nt9 (by assumption) | exact Nat.ne_of_lt (by assumption) | exact (nt9 (by assumption)).symm | exact Nat.ne_of_gt (by assumption) | omega))
  have u2_6 := u2_5.extBut s5.extBut (by (show (_ : Nat) ≠ _); (first | exact na9 (by decide) | exact nb9 | exact nc9 | exact nt9 (by assumption) | exact Nat.ne_of_lt (by assumption) | exact (nt9 (by assumption)).symm | exact Nat.ne_of_gt (by assumption) | omega))
  have u3_6 := u3_5.extBut s5.extBut (by (show (_ : Nat) ≠ _); (first | exact na9 (by decide) | exact nb9 | exact nc9 | exact nt9 (by assumption) | exact Nat.ne_of_lt (by assumption) | exact (nt9 (by assumption)).symm | exact Nat.ne_of_gt (by assumption) | omega))
  refine wpAny_bind (wpAny_seqItems TO_6 rfl ?_)
  refine wpAny_bind (updSeq_tup TO_6 fun g6 o3 s6 => ?_)
  replace o3 : g6.get? (b + 4) = some (tupA #[x1, x2, x3]) := o3
  have z_7 := s6.extBut _ _ (by (show (_ : Nat) ≠ _); (first | exact na9 (by decide) | exact nb9 | exact nc9 | exact nt9 (by assumption) | exact Nat.ne_of_lt (by assumption) | exact (nt9 (by assumption)).symm | exact Nat.ne_of_gt (by assumption) | omega)) z_6
  have TI_7 := s6.extBut _ _ (by (show (_ : Nat) ≠ _); (first | exact na9 (by decide) | exact nb9 | exact nc9 | exact nt9 (by assumption) | exact Nat.ne_of_lt (by assumption) | exact (nt9 (by assumption)).symm | exact Nat.ne_of_gt (by assumption) | omega)) TI_6
  have i1_7 := i1_6.extBut s6.extBut (by (show (_ : Nat) ≠ _); (first | exact na9 (by decide) | exact nb9 | exact nc9 | exact nt9 (by assumption) | exact Nat.ne_of_lt (by assumption) | exact (nt9 (by assumption)).symm | exact Nat.ne_of_gt (by assumption) | omega))
  have u1_7 := u1_6.extBut s6.extBut (by (show (_ : Nat) ≠ _); (first | exact na9 (by decide) | exact nb9 | exact nc9 | exact nt9 (by assumption) | exact Nat.ne_of_lt (by assumption) | exact (nt9 (by assumption)).symm | exact Nat.ne_of_gt (by assumption) | omega))
  have i2_7 := i2_6.extBut s6.extBut (by (show (_ : Nat) ≠ _); (first | exact na9 (by decide) | exact nb9 | exact nc9 | exact nt9 (by assumption) | exact Nat.ne_of_lt (by assumption) | exact (nt9 (by assumption)).symm | exact Nat.ne_of_gt (by assumption) | omega))
  have u2_7 := u2_6.extBut s6.extBut (by (show (_ : Nat) ≠ _); (first | exact na9 (by decide) | exact nb9 | exact nc9 | exact nt9 (by assumption) | exact Nat.ne_of_lt (by assumption) | exact (nt9 (by assumption)).symm | exact Nat.ne_of_gt (by assumption) | omega))
  have i3_7 := ii3.extBut s6.extBut (by (show (_ : Nat) ≠ _); (first | exact na9 (by decide) | exact nb9 | exact nc9 | exact nt9 (by assumption) | exact Nat.ne_of_lt (by assumption) | exact (nt9 (by assumption)).symm | exact Nat.ne_of_gt (by assumption) | omega))
  have u3_7 := u3_6.extBut s6.extBut (by (show (_ : Nat) ≠ _); (first | exact na9 (by decide) | exact nb9 | exact nc9 | exact nt9 (by assumption) | exact Nat.ne_of_lt (by assumption) | exact (nt9 (by assumption)).symm | exact Nat.ne_of_gt (by assumption) | omega))
  refine wpAny_bind (PySem.wpAny_letGo (wpAny_pure (wpAny_pure ?_)))
  refine wpAny_bind (wpAny_seqItems o3 rfl ?_)
  refine wpAny_bind (wpAny_newTuple ?_)
  have hsz : g6.objs.size = s.heap.objs.size := by rw [s6.1, s5.1, s4.1, s3.1, s2.1, s1.1, s0.1]
  have hk : ∀ c o, c ∉ ([(b + 5), (b + 4), b, (b + 1), (b + 2)] : List Addr) → s.heap.get? c = some o → g6.get? c = some o := fun c o hc e => by
    have c1 := nm1 hc
    have c2 := nm1 (nm2 hc)
    have d1 := nm1 (nm2 (nm2 hc))
    have d2 := nm1 (nm2 (nm2 (nm2 hc)))
    have d3 := nm1 (nm2 (nm2 (nm2 (nm2 hc))))
    exact (s6.extBut _ _ c2 (s5.extBut _ _ d3 (s4.extBut _ _ c2 (s3.extBut _ _ d2 (s2.extBut _ _ c2 (s1.extBut _ _ d1 (s0.extBut _ _ c1 e)))))))
  show wpAny _ _ (Builtin.SmallTypes.ownedTupleHandOut (.ref (b + 5)) (.ref g6.objs.size) >>= _) _ _ _
  refine wpAny_bind ?_
  unfold Builtin.SmallTypes.ownedTupleHandOut
  have zz : (g6.push { cls := .type "tuple", data := .seq #[x1, x2, x3] }).get? (b + 5) = some (oZip 3 b .ellipsis) := Heap.get?_push_of_some _ z_7
  refine wpAny_bind (wpAny_setField_rec zz (by simp) fun k1 y1 r1 => ?_)
  replace y1 : k1.get? (b + 5) = some (oZip 3 b (rawInt g6.objs.size)) := y1
  refine wpAny_setField_rec y1 (by simp) fun k2 y2 r2 => ?_
  replace y2 : k2.get? (b + 5) = some (oZip 3 b (rawInt g6.objs.size)) := y2
  have up : ∀ c o, c ≠ (b + 5) → g6.get? c = some o → k2.get? c = some o := fun c o c1 e => r2.extBut _ _ c1 (r1.extBut _ _ c1 (Heap.get?_push_of_some _ e))
  have zlt : (b + 5) < g6.objs.size := Heap.lt_size z_7
  have hT : k2.get? g6.objs.size = some (tupA #[x1, x2, x3]) := r2.extBut _ _ (Nat.ne_of_gt zlt) (r1.extBut _ _ (Nat.ne_of_gt zlt) (Heap.get?_push_size _ rfl))
  rw [hsz] at y2 hT
  refine wpAny_pure ⟨_, rfl, ?_⟩
  show Q (.ref g6.objs.size) _
  rw [hsz]
  exact hQ k2 y2 (up _ _ (by (show (_ : Nat) ≠ _); (first | exact na9 (by decide) | exact nb9 | exact nc9 | exact nt9 (by assumption) | exact Nat.ne_of_lt (by assumption) | exact (nt9 (by assumption)).symm | exact Nat.ne_of_gt (by assumption) | omega)) TI_7) (up _ _ (by (show (_ : Nat) ≠ _); (first | exact na9 (by decide) | exact nb9 | exact nc9 | exact nt9 (by assumption) | exact Nat.ne_of_lt (by assumption) | exact (nt9 (by assumption)).symm | exact Nat.ne_of_gt (by assumption) | omega)) o3) (IsTupIter.at' i1_7 fun o e => up _ o (by (show (_ : Nat) ≠ _); (first | exact na9 (by decide) | exact nb9 | exact nc9 | exact nt9 (by assumption) | exact Nat.ne_of_lt (by assumption) | exact (nt9 (by assumption)).symm | exact Nat.ne_of_gt (by assumption) | omega)) e) (IsTup.at' u1_7 fun o e => up _ o (by (show (_ : Nat) ≠ _); (first | exact na9 (by decide) | exact nb9 | exact nc9 | exact nt9 (by assumption) | exact Nat.ne_of_lt (by assumption) | exact (nt9 (by assumption)).symm | exact Nat.ne_of_gt (by assumption) | omega)) e) (IsTupIter.at' i2_7 fun o e => up _ o (by (show (_ : Nat) ≠ _); (first | exact na9 (by decide) | exact nb9 | exact nc9 | exact nt9 (by assumption) | exact Nat.ne_of_lt (by assumption) | exact (nt9 (by assumption)).symm | exact Nat.ne_of_gt (by assumption) | omega)) e) (IsTup.at' u2_7 fun o e => up _ o (by (show (_ : Nat) ≠ _); (first | exact na9 (by decide) | exact nb9 | exact nc9 | exact nt9 (by assumption) | exact Nat.ne_of_lt (by assumption) | exact (nt9 (by assumption)).symm | exact Nat.ne_of_gt (by assumption) | omega)) e) (IsTupIter.at' i3_7 fun o e => up _ o (by (show (_ : Nat) ≠ _); (first | exact na9 (by decide) | exact nb9 | exact nc9 | exact nt9 (by assumption) | exact Nat.ne_of_lt (by assumption) | exact (nt9 (by assumption)).symm | exact Nat.ne_of_gt (by assumption) | omega)) e) (IsTup.at' u3_7 fun o e => up _ o (by (show (_ : Nat) ≠ _); (first | exact na9 (by decide) | exact nb9 | exact nc9 | exact nt9 (by assumption) | exact Nat.ne_of_lt (by assumption) | exact (nt9 (by assumption)).symm | exact Nat.ne_of_gt (by assumption) | omega)) e) hT fun c o hc e => up c o (fun q => hc (by simp [q])) (hk c o hc e)
theorem zip3_end {b t1 t2 t3 : Nat} {k : Nat} {xs1 xs2 xs3 : Array Value} {a1 a2 a3 : Value} {Q : Fin → Shared → Prop} (hh : A.handled = none) (hz : s.heap.get? (b + 5) = some (oZip 3 b .none)) (hTI : s.heap.get? (b + 3) = some (tupA #[.ref b, .ref (b + 1), .ref (b + 2)])) (hTO : s.heap.get? (b + 4) = some (tupA #[a1, a2, a3])) (l1 : t1 < b) (i1 : IsTupIter s.heap b t1 k) (u1 : IsTup s.heap t1 xs1) (l2 : t2 < b) (i2 : IsTupIter s.heap (b + 1) t2 k) (u2 : IsTup s.heap t2 xs2) (l3 : t3 < b) (i3 : IsTupIter s.heap (b + 2) t3 k) (u3 : IsTup s.heap t3 xs3) (e1 : xs1[k]? = none)
    (hE : ∀ h' e, (∀ c o, c ∉ ([(b + 5), (b + 4), b, (b + 1), (b + 2)] : List Addr) → s.heap.get? c = some o → h'.get? c = some o) → (∃ o, h'.get? e = some o ∧ o.cls = .type "StopIteration") → E (.ref e) { s with heap := h' }) :
    wpAny (model prog w) A (Builtin.«zip.__next__» ⟨[.ref (b + 5)], []⟩) Q E s := by
  show wpAny _ _ (field (.ref (b + 5)) 2 >>= _) _ _ _
  refine wpAny_bind (wpAny_field hz rfl (x := .bool false) rfl ?_)
  show wpAny _ _ (field (.ref (b + 5)) 3 >>= _) _ _ _
  refine wpAny_bind (wpAny_field hz rfl (x := .ref (b + 3)) rfl ?_)
  refine wpAny_bind (wpAny_seqItems hTI rfl ?_)
  show wpAny _ _ (Builtin.SmallTypes.ownedTupleIsFree (.ref (b + 5)) >>= _) _ _ _
  refine wpAny_bind ?_
  unfold Builtin.SmallTypes.ownedTupleIsFree
  refine wpAny_bind (wpAny_field hz rfl (x := .none) rfl (wpAny_pure ?_))
  simp only [if_true]
  refine wpAny_bind (wpAny_rule ?_)
  refine wpAny_bind (wpAny_field hz rfl (x := .ref (b + 4)) rfl ?_)
  refine wpAny_bind (wpAny_setField_rec hz (by simp) fun g0 z0 s0 => ?_)
  replace z0 : g0.get? (b + 5) = some (oZip 3 b .ellipsis) := z0
  refine wpAny_bind ?_
  simp only [List.zipIdx_cons, List.zipIdx_nil, List.forIn_cons, List.forIn_nil]
  refine wpAny_bind (wpAny_bind (wpAny_onRaise ?_))
  show wpAny _ _ (Builtin.SmallTypes.nextOf (.ref b) >>= _) _ _ _
  refine wpAny_bind (nextOf_tupEnd hh (i1.extBut s0.extBut (by (show (_ : Nat) ≠ _); (first | exact na9 (by decide) | exact nb9 | exact nc9 | exact nt9 (by assumption) | exact Nat.ne_of_lt (by assumption) | exact (nt9 (by assumption)).symm | exact Nat.ne_of_gt (by assumption) | omega))) (u1.extBut s0.extBut (by (show (_ : Nat) ≠ _); (first | exact na9 (by decide) | exact nb9 | exact nc9 | exact nt9 (by assumption) | exact Nat.ne_of_lt (by assumption) | exact (nt9 (by assumption)).symm | exact Nat.ne_of_gt (by assumption) | omega))) e1 fun g1 e hs1 he => ?_)
  obtain ⟨oe, hoe, hce⟩ := he
  have z1 : g1.get? (b + 5) = some (oZip 3 b .ellipsis) := hs1 _ _ (by (show (_ : Nat) ≠ _); (first | exact na9 (by decide) | exact nb9 | exact nc9 | exact nt9 (by assumption) | exact Nat.ne_of_lt (by assumption) | exact (nt9 (by assumption)).symm | exact Nat.ne_of_gt (by assumption) | omega)) z0
  have hez : e ≠ (b + 5) := fun x => by rw [x, z1] at hoe; cases hoe; simp at hce
  refine wpAny_setField_rec z1 (by simp) fun g2 _ hs2 => hE g2 e (fun c o hc x => ?_) ⟨oe, hs2.extBut _ _ hez hoe, hce⟩
  exact hs2.extBut _ _ (nm1 hc) (hs1 _ _ (nm1 (nm2 (nm2 hc))) (s0.extBut _ _ (nm1 hc) x))
noncomputable def ZSt3 (b t1 t2 t3 : Nat) (xs1 xs2 xs3 : List Value) (k : Nat) (h : Heap) : Prop := (h.get? (b + 5) = some (oZip 3 b .none) ∧ h.get? (b + 3) = some (tupA #[.ref b, .ref (b + 1), .ref (b + 2)]) ∧ (∃ a1 a2 a3, h.get? (b + 4) = some (tupA #[a1, a2, a3])) ∧ IsTupIter h b t1 k ∧ IsTup h t1 xs1.toArray ∧ IsTupIter h (b + 1) t2 k ∧ IsTup h t2 xs2.toArray ∧ IsTupIter h (b + 2) t3 k ∧ IsTup h t3 xs3.toArray)
theorem zip3_src (hh : A.handled = none) {b t1 t2 t3 : Nat} {xs1 xs2 xs3 : List Value} (l1 : t1 < b) (y1 : xs1.length = 3) (l2 : t2 < b) (y2 : xs2.length = 3) (l3 : t3 < b) (y3 : xs3.length = 3) :
    TSrc prog w A (b + 5) [(b + 5), (b + 3), (b + 4), b, (b + 1), (b + 2), t1, t2, t3] [(b + 5), (b + 4), b, (b + 1), (b + 2)] 3 (fun i => [xs1.getD i .none, xs2.getD i .none, xs3.getD i .none]) (ZSt3 b t1 t2 t3 xs1 xs2 xs3) where
  sub := fun _ hc => (List.Sublist.cons₂ _ (List.Sublist.cons _ (List.Sublist.cons₂ _ (List.Sublist.cons₂ _ (List.Sublist.cons₂ _ (List.Sublist.cons₂ _ (List.nil_sublist _))))))).subset hc
  here := fun i h hst => by
    obtain ⟨hz, hTI, ⟨a1, a2, a3, hTO⟩, i1, u1, i2, u2, i3, u3⟩ := hst
    exact List.forall_mem_cons.mpr ⟨⟨_, hz⟩, List.forall_mem_cons.mpr ⟨⟨_, hTI⟩, List.forall_mem_cons.mpr ⟨⟨_, hTO⟩, List.forall_mem_cons.mpr ⟨⟨_, i1.choose_spec.1⟩, List.forall_mem_cons.mpr ⟨⟨_, i2.choose_spec.1⟩, List.forall_mem_cons.mpr ⟨⟨_, i3.choose_spec.1⟩, List.forall_mem_cons.mpr ⟨⟨_, u1.choose_spec.1⟩, List.forall_mem_cons.mpr ⟨⟨_, u2.choose_spec.1⟩, List.forall_mem_cons.mpr ⟨⟨_, u3.choose_spec.1⟩, List.forall_mem_nil _⟩⟩⟩⟩⟩⟩⟩⟩⟩
  frame := fun i h h' hst hk => by
    obtain ⟨hz, hTI, ⟨a1, a2, a3, hTO⟩, i1, u1, i2, u2, i3, u3⟩ := hst
    exact ⟨hk _ (.head _) _ hz, hk _ (.tail _ (.head _)) _ hTI, ⟨a1, a2, a3, hk _ (.tail _ (.tail _ (.head _))) _ hTO⟩, IsTupIter.at' i1 fun o e => hk _ (.tail _ (.tail _ (.tail _ (.head _)))) o e, IsTup.at' u1 fun o e => hk _ (.tail _ (.tail _ (.tail _ (.tail _ (.tail _ (.tail _ (.head _))))))) o e, IsTupIter.at' i2 fun o e => hk _ (.tail _ (.tail _ (.tail _ (.tail _ (.head _))))) o e, IsTup.at' u2 fun o e => hk _ (.tail _ (.tail _ (.tail _ (.tail _ (.tail _ (.tail _ (.tail _ (.head _)))))))) o e, IsTupIter.at' i3 fun o e => hk _ (.tail _ (.tail _ (.tail _ (.tail _ (.tail _ (.head _)))))) o e, IsTup.at' u3 fun o e => hk _ (.tail _ (.tail _ (.tail _ (.tail _ (.tail _ (.tail _ (.tail _ (.tail _ (.head _))))))))) o e⟩
  turn := fun i s elts k' tp Q E hi hst hQ => by
    obtain ⟨hz, hTI, ⟨a1, a2, a3, hTO⟩, i1, u1, i2, u2, i3, u3⟩ := hst
    have hT : s.TypeIs (.ref (b + 5)) "zip" := ⟨_, hz, rfl⟩
    have ge : ∀ {xs : List Value}, xs.length = 3 → xs.toArray[i]? = some (xs.getD i .none) := fun {xs} h => by
      have : i < xs.length := by omega
      simp [List.getD, this]
    unfold pyNext
    refine wpAny_bind (wpAny_attempt (wpAny_callSpecial?_slot (name := Str.ofString "__next__") hT F.slot_zip_next
      (wpAny_call_entry F.slot_zip_next hT F.entry_zip_next (zip3_item hz hTI hTO l1 i1 u1 l2 i2 u2 l3 i3 u3 (ge y1) (ge y2) (ge y3) fun h' q1 q2 q3 qi1 qu1 qi2 qu2 qi3 qu3 qT qk => ?_) (F.args_zip_next_1 _))))
    refine wpAny_pure ⟨_, rfl, ?_⟩
    unfold letOwnedTupleGo
    refine wpAny_bind (wpAny_load q1 ?_)
    show wpAny _ _ (if (["enumerate", "zip", "dict_itemiterator", "dict_reverseitemiterator", "odict_iterator", "itertools.zip_longest", "itertools.pairwise"].contains "zip" &&
      (#[rawInt s.heap.objs.size, .bool false, .bool false, .ref (b + 3), .ref (b + 4)] : Array Value)[0]? == some (rawInt s.heap.objs.size)) = true then _ else _) _ E _
    rw [if_pos (by simp)]
    refine wpAny_bind (wpAny_rule ?_)
    show wpAny _ _ (setField (.ref (b + 5)) 0 .none) _ E _
    refine wpAny_setField_rec q1 (by simp) fun h'' y2 r2 => ?_
    replace y2 : h''.get? (b + 5) = some (oZip 3 b .none) := y2
    have zlt : (b + 5) < s.heap.objs.size := Heap.lt_size hz
    refine hQ _ h'' _ ⟨_, r2.extBut _ _ (Nat.ne_of_gt zlt) qT, rfl, _, rfl⟩ ⟨y2, r2.extBut _ _ (by (show (_ : Nat) ≠ _); (first | exact na9 (by decide) | exact nb9 | exact nc9 | exact nt9 (by assumption) | exact Nat.ne_of_lt (by assumption) | exact (nt9 (by assumption)).symm | exact Nat.ne_of_gt (by assumption) | omega)) q2, ⟨_, _, _, r2.extBut _ _ (by (show (_ : Nat) ≠ _); (first | exact na9 (by decide) | exact nb9 | exact nc9 | exact nt9 (by assumption) | exact Nat.ne_of_lt (by assumption) | exact (nt9 (by assumption)).symm | exact Nat.ne_of_gt (by assumption) | omega)) q3⟩, qi1.extBut r2.extBut (by (show (_ : Nat) ≠ _); (first | exact na9 (by decide) | exact nb9 | exact nc9 | exact nt9 (by assumption) | exact Nat.ne_of_lt (by assumption) | exact (nt9 (by assumption)).symm | exact Nat.ne_of_gt (by assumption) | omega)), qu1.extBut r2.extBut (by (show (_ : Nat) ≠ _); (first | exact na9 (by decide) | exact nb9 | exact nc9 | exact nt9 (by assumption) | exact Nat.ne_of_lt (by assumption) | exact (nt9 (by assumption)).symm | exact Nat.ne_of_gt (by assumption) | omega)), qi2.extBut r2.extBut (by (show (_ : Nat) ≠ _); (first | exact na9 (by decide) | exact nb9 | exact nc9 | exact nt9 (by assumption) | exact Nat.ne_of_lt (by assumption) | exact (nt9 (by assumption)).symm | exact Nat.ne_of_gt (by assumption) | omega)), qu2.extBut r2.extBut (by (show (_ : Nat) ≠ _); (first | exact na9 (by decide) | exact nb9 | exact nc9 | exact nt9 (by assumption) | exact Nat.ne_of_lt (by assumption) | exact (nt9 (by assumption)).symm | exact Nat.ne_of_gt (by assumption) | omega)), qi3.extBut r2.extBut (by (show (_ : Nat) ≠ _); (first | exact na9 (by decide) | exact nb9 | exact nc9 | exact nt9 (by assumption) | exact Nat.ne_of_lt (by assumption) | exact (nt9 (by assumption)).symm | exact Nat.ne_of_gt (by assumption) | omega)), qu3.extBut r2.extBut (by (show (_ : Nat) ≠ _); (first | exact na9 (by decide) | exact nb9 | exact nc9 | exact nt9 (by assumption) | exact Nat.ne_of_lt (by assumption) | exact (nt9 (by assumption)).symm | exact Nat.ne_of_gt (by assumption) | omega))⟩ fun c o hc e => r2.extBut _ _ (fun q => hc (by simp [q])) (qk c o hc e)
  done := fun s Q E hst hQ => by
    obtain ⟨hz, hTI, ⟨a1, a2, a3, hTO⟩, i1, u1, i2, u2, i3, u3⟩ := hst
    have hT : s.TypeIs (.ref (b + 5)) "zip" := ⟨_, hz, rfl⟩
    unfold pyNext
    refine wpAny_bind (wpAny_attempt (wpAny_callSpecial?_slot (name := Str.ofString "__next__") hT F.slot_zip_next
      (wpAny_call_entry F.slot_zip_next hT F.entry_zip_next (zip3_end hh hz hTI hTO l1 i1 u1 l2 i2 u2 l3 i3 u3 (by simp [y1]) fun h' e hk he => ?_) (F.args_zip_next_1 _))))
    obtain ⟨o, ho, hc⟩ := he
    refine wpAny_bind (wpAny_isInstance (T := "StopIteration") (b := true) ⟨o, ho, hc⟩ isSubtype_stop ?_)
    exact wpAny_pure (hQ _ s.toks hk)
  self := fun i s Q E hst hQ => by
    obtain ⟨hz, _⟩ := hst
    have hT : s.TypeIs (.ref (b + 5)) "zip" := ⟨_, hz, rfl⟩
    refine wpAny_pyIter_slot hT F.slot_zip_iter (wpAny_call_entry F.slot_zip_iter hT F.entry_zip_iter ?_ (F.args_zip_iter_1 _))
    show wpAny _ _ (ret (.ref (b + 5))) _ _ s
    exact wpAny_pure ⟨_, rfl, "zip", _, hT, F.slot_zip_next.lookup, hQ⟩
noncomputable abbrev zh3_1 (h : Heap) (t1 t2 t3 : Nat) : Heap := h.push { cls := .type "tuple_iterator", data := .fields #[.ref t1, .int 0 0] }
noncomputable abbrev zh3_2 (h : Heap) (t1 t2 t3 : Nat) : Heap := (zh3_1 h t1 t2 t3).push { cls := .type "tuple_iterator", data := .fields #[.ref t2, .int 0 0] }
noncomputable abbrev zh3_3 (h : Heap) (t1 t2 t3 : Nat) : Heap := (zh3_2 h t1 t2 t3).push { cls := .type "tuple_iterator", data := .fields #[.ref t3, .int 0 0] }
noncomputable abbrev zh3_4 (h : Heap) (t1 t2 t3 : Nat) : Heap := (zh3_3 h t1 t2 t3).push { cls := .type "tuple", data := .seq #[.ref h.objs.size, .ref (zh3_1 h t1 t2 t3).objs.size, .ref (zh3_2 h t1 t2 t3).objs.size] }
noncomputable abbrev zh3_5 (h : Heap) (t1 t2 t3 : Nat) : Heap := (zh3_4 h t1 t2 t3).push { cls := .type "tuple", data := .seq #[.none, .none, .none] }
noncomputable abbrev zh3_6 (h : Heap) (t1 t2 t3 : Nat) : Heap := (zh3_5 h t1 t2 t3).push { cls := .type "zip", data := .fields #[.none, .bool false, .bool false, .ref (zh3_3 h t1 t2 t3).objs.size, .ref (zh3_4 h t1 t2 t3).objs.size] }
set_option maxHeartbeats 4000000 in
theorem meets_zip3 (t1 t2 t3 : Nat) (xs1 xs2 xs3 : Array Value) :
    Meets (Builtin.«zip.__new__» ⟨[.type "zip", .ref t1, .ref t2, .ref t3], []⟩) (fun _ R s => IsTup s.heap t1 xs1 ∧ IsTup s.heap t2 xs2 ∧ IsTup s.heap t3 xs3 ∧
      R (.ok (.ret (.ref (zh3_5 s.heap t1 t2 t3).objs.size))) { s with heap := zh3_6 s.heap t1 t2 t3 }) :=
  .of_wp fun prog w A R s h => by
    obtain ⟨hp, g, d, tk, os⟩ := s; obtain ⟨u1, u2, u3, h⟩ := h
    have hsub := sub_zip
    have T1 : IsTup (Shared.heap ⟨hp, g, d, tk, os⟩) t1 xs1 := u1
    have T2 : IsTup (Shared.heap ⟨(hp.push { cls := .type "tuple_iterator", data := .fields #[.ref t1, .int 0 0] }), g, d, tk, os⟩) t2 xs2 := IsTup.push (u2) _
    have T3 : IsTup (Shared.heap ⟨((hp.push { cls := .type "tuple_iterator", data := .fields #[.ref t1, .int 0 0] }).push { cls := .type "tuple_iterator", data := .fields #[.ref t2, .int 0 0] }), g, d, tk, os⟩) t3 xs3 := IsTup.push (IsTup.push (u3) _) _
    wp_walk using iter_tuple T1, iter_tuple T2, iter_tuple T3
    exact ⟨_, rfl, h⟩
theorem call_zip3 {t1 t2 t3 : Nat} {xs1 xs2 xs3 : Array Value} {Q : Value → Shared → Prop} (u1 : IsTup s.heap t1 xs1) (u2 : IsTup s.heap t2 xs2) (u3 : IsTup s.heap t3 xs3)
    (h : ∀ h' (b : Nat), b = s.heap.objs.size → t1 < b → t2 < b → t3 < b → h'.get? (b + 5) = some (oZip 3 b .none) → h'.get? (b + 3) = some (tupA #[.ref b, .ref (b + 1), .ref (b + 2)]) → h'.get? (b + 4) = some (tupA #[.none, .none, .none]) → h'.get? b = some (oTIt t1 0) → h'.get? (b + 1) = some (oTIt t2 0) → h'.get? (b + 2) = some (oTIt t3 0) → (∀ c o, s.heap.get? c = some o → h'.get? c = some o) →
      Q (.ref (b + 5)) { s with heap := h' }) : wpAny (model prog w) A (call (.type "zip") [.ref t1, .ref t2, .ref t3]) Q E s := by
  refine callType_new F.called_zip (by decide) (by kernel_rfl) (by kernel_rfl) (fun obj => by unfold argsOk; rw [signature?_of (id := "object.__init__") (n := ['_', '_', 't', 'i', 'n', 'i', '_', '_']) (o := ['t', 'c', 'e', 'j', 'b', 'o']) (by kernel_rfl) F.owner_object]; kernel_rfl) F.entry_zip_new
    (meets_zip3 t1 t2 t3 xs1 xs2 xs3) ⟨u1, u2, u3, ?_⟩
  have z1 : (zh3_1 s.heap t1 t2 t3).objs.size = s.heap.objs.size + 1 := Heap.size_push ..
  have z2 : (zh3_2 s.heap t1 t2 t3).objs.size = s.heap.objs.size + 2 := by rw [Heap.size_push, z1]
  have z3 : (zh3_3 s.heap t1 t2 t3).objs.size = s.heap.objs.size + 3 := by rw [Heap.size_push, z2]
  have z4 : (zh3_4 s.heap t1 t2 t3).objs.size = s.heap.objs.size + 4 := by rw [Heap.size_push, z3]
  have z5 : (zh3_5 s.heap t1 t2 t3).objs.size = s.heap.objs.size + 5 := by rw [Heap.size_push, z4]
  have z6 : (zh3_6 s.heap t1 t2 t3).objs.size = s.heap.objs.size + 6 := by rw [Heap.size_push, z5]
  have g1 : (zh3_6 s.heap t1 t2 t3).get? s.heap.objs.size = some _ := Heap.get?_push_of_some _ (Heap.get?_push_of_some _ (Heap.get?_push_of_some _ (Heap.get?_push_of_some _ (Heap.get?_push_of_some _ (Heap.get?_push_size _ rfl)))))
  have g2 : (zh3_6 s.heap t1 t2 t3).get? (zh3_1 s.heap t1 t2 t3).objs.size = some _ := Heap.get?_push_of_some _ (Heap.get?_push_of_some _ (Heap.get?_push_of_some _ (Heap.get?_push_of_some _ (Heap.get?_push_size _ rfl))))
  have g3 : (zh3_6 s.heap t1 t2 t3).get? (zh3_2 s.heap t1 t2 t3).objs.size = some _ := Heap.get?_push_of_some _ (Heap.get?_push_of_some _ (Heap.get?_push_of_some _ (Heap.get?_push_size _ rfl)))
  have g4 : (zh3_6 s.heap t1 t2 t3).get? (zh3_3 s.heap t1 t2 t3).objs.size = some _ := Heap.get?_push_of_some _ (Heap.get?_push_of_some _ (Heap.get?_push_size _ rfl))
  have g5 : (zh3_6 s.heap t1 t2 t3).get? (zh3_4 s.heap t1 t2 t3).objs.size = some _ := Heap.get?_push_of_some _ (Heap.get?_push_size _ rfl)
  have g6 : (zh3_6 s.heap t1 t2 t3).get? (zh3_5 s.heap t1 t2 t3).objs.size = some _ := Heap.get?_push_size _ rfl
  rw [z1] at g2
  rw [z2] at g3
  rw [z3, z1, z2] at g4
  rw [z4] at g5
  rw [z5, z3, z4] at g6
  show _ ∧ _
  rw [z5]
  exact ⟨⟨_, g6, rfl⟩, h _ _ rfl (Heap.lt_size u1.choose_spec.1) (Heap.lt_size u2.choose_spec.1) (Heap.lt_size u3.choose_spec.1) g6 g4 g5 g1 g2 g3 fun c o x => (Heap.get?_push_of_some _ (Heap.get?_push_of_some _ (Heap.get?_push_of_some _ (Heap.get?_push_of_some _ (Heap.get?_push_of_some _ (Heap.get?_push_of_some _ x))))))⟩
end
end
section
open PySem PySem.W PyProof.Rows PySem.Flt PySem.Spec PySem.Calls
section
variable {prog : Program} {w : World} {A : Around} {E : Value → Shared → Prop} {s : Shared} {env : Env} {h₀ : Heap} {x : Str} {body : List Stmt} {Q : Flow → Shared → Prop}
theorem for_range {r : Addr} {a₀ b₀ : Int} {t₀ u₀ v₀ : Tok} {n : Nat} {m₀ : Str → Option Value} {news : Led9} (J : Nat → (Str → Option Value) → Led9 → Prop)
    (hh : A.handled = none) (hr : IsRange s.heap r a₀ b₀ 1 t₀ u₀ v₀) (hsmall : Builtin.Range.small a₀ b₀ 1 = true) (hn : Builtin.Range.rangeSize a₀ b₀ 1 = (n : Int)) (F : Fr h₀ env.locals s.heap m₀) (N : News h₀ env.locals s.heap news) (hJ : J 0 m₀ news)
    (turn : ∀ i m₁ nw t h tk I o, i < n → J i m₁ nw → (∀ p ∈ news, p.1 < I) → Fr h₀ env.locals h (fun y => if y = x then some (.int (a₀ + (i : Int)) t) else m₁ y) → News h₀ env.locals h ((I, o) :: nw) → o.cls = .type "range_iterator" →
      wpAny (model prog w) A (execs body env) (LPost h₀ env.locals { s with heap := h, toks := tk } I o (J (i + 1)) Q) E { s with heap := h, toks := tk })
    (done : ∀ m₁ nw h tk, J n m₁ nw → Fr h₀ env.locals h m₁ → News h₀ env.locals h nw → Q .next { s with heap := h, toks := tk }) :
    wpAny (model prog w) A (pyIter (.ref r)) (fun it s₂ => LoopAtV prog w A h₀ env x body Q E it s₂) E s := by
  refine iter_rangeUnr hh hr hsmall hn F N fun I hI => ?_
  have all : ∀ k i m nw, i + k = n → J i m nw → RangeRest prog w A E h₀ env x body Q s I a₀ n k i m nw := by
    intro k
    induction k with
    | zero =>
      intro i m nw hi hJ
      obtain rfl : i = n := by (first | lia | omega)
      exact RangeRest.zero fun h tk F' N' => done m nw h tk hJ F' N'
    | succ k ih =>
      intro i m nw hi hJ
      refine RangeRest.succ fun t h tk F' N' => ?_
      refine wpAny_mono (turn i m nw t h tk I _ (by (first | lia | omega)) hJ hI F' N' rfl) (fun f s₃ p => ?_) fun _ _ e => e
      have fin : (∃ h' tk' m' nw', s₃ = { s with heap := h', toks := tk' } ∧ Fr h₀ env.locals h' m' ∧ News h₀ env.locals h' ((I, itR (a₀ + ((i + 1 : Nat) : Int)) ((n : Int) - ((i + 1 : Nat) : Int))) :: nw') ∧ (∀ p ∈ nw', p.1 ≠ I) ∧ J (i + 1) m' nw') →
          UnrEnd h₀ env.locals { s with heap := h, toks := tk } I (itR (a₀ + ((i + 1 : Nat) : Int)) ((n : Int) - ((i + 1 : Nat) : Int))) (RangeRest prog w A E h₀ env x body Q s I a₀ n k (i + 1)) s₃ := by
        rintro ⟨h', tk', m', nw', rfl, F₂, N₂, off, hJ₂⟩
        exact ⟨h', tk', m', nw', rfl, F₂, N₂, off, ih (i + 1) m' nw' (by (first | lia | omega)) hJ₂⟩
      cases f with
      | ret v => exact p
      | brk => exact p
      | next => exact fin p
      | cont => exact fin p
  exact all n 0 m₀ news (by (first | lia | omega)) hJ
end
section
variable {prog : Program} {w : World} {A : Around} {E : Value → Shared → Prop} {s : Shared} {h₀ : Heap} {L : Addr} {m : Str → Option Value} {env : Env}
/-- a list of tuples -/
noncomputable def LSt (I ax : Addr) (ts : Nat → Addr) (vals : Nat → List Value) (n : Nat) (k : Nat) (h : Heap) : Prop :=
  h.IsListIter I ax k ∧ h.IsList ax ((List.range n).map fun j => Value.ref (ts j)).toArray ∧ ∀ j, j < n → IsTup h (ts j) (vals j).toArray
theorem list_src (hh : A.handled = none) {I ax : Addr} {ts : Nat → Addr} {vals : Nat → List Value} {n : Nat} (h1 : ax ≠ I) (h2 : ∀ j, j < n → ts j ≠ I) :
    TSrc prog w A I ([I, ax] ++ (List.range n).map ts) [I] n vals (LSt I ax ts vals n) where
  sub := fun b hb => by rw [List.mem_singleton.mp hb]; simp
  here := fun i h hst b hb => by
    obtain ⟨q1, q2, q3⟩ := hst
    simp only [List.mem_append, List.mem_cons, List.not_mem_nil, or_false, List.mem_map, List.mem_range] at hb
    rcases hb with (rfl | rfl) | ⟨j, hj, rfl⟩
    · exact ⟨_, q1.choose_spec.1⟩
    · exact ⟨_, q2.choose_spec.1⟩
    · exact ⟨_, (q3 j hj).choose_spec.1⟩
  frame := fun i h h' hst hk => by
    obtain ⟨q1, q2, q3⟩ := hst
    exact ⟨q1.at fun o e => hk _ (by simp) o e, q2.at fun o e => hk _ (by simp) o e, fun j hj => IsTup.at' (q3 j hj) fun o e => hk _ (by simp; exact .inr (.inr ⟨j, hj, rfl⟩)) o e⟩
  turn := fun i s elts k tp Q E hi hst hQ => by
    obtain ⟨q1, q2, q3⟩ := hst
    refine wpAny_pyNext_list_item q1 q2 (x := .ref (ts i)) (by simp [hi]) fun h' hit' hs' => ?_
    refine ⟨_, rfl, wpAny_letOwnedTupleGo_listiter hit' ?_⟩
    have q3' : ∀ j, j < n → IsTup h' (ts j) (vals j).toArray := fun j hj => (q3 j hj).extBut hs'.extBut (h2 j hj)
    exact hQ (ts i) h' s.toks (q3' i hi) ⟨hit', q2.extBut hs'.extBut h1, q3'⟩ fun b o hb e => hs'.extBut b o (fun h => hb (by simp [h])) e
  done := fun s Q E hst hQ => by
    obtain ⟨q1, q2, q3⟩ := hst
    exact wpAny_pyNext_list_end hh q1 q2 (by simp) fun h' he' => hQ h' s.toks fun b o hb e => he' b o (fun h => hb (by simp [h])) e
  self := fun _ _ _ _ hst hQ => wpAny_pyIter_listiter hst.1 hQ
theorem list_iterA {ax : Addr} {ts : Nat → Addr} {vals : Nat → List Value} {n k : Nat} {news : Led9} {elt : Expr} {nms : List (Str × Pos)} {scope : Scope} {cl : List (Str × Addr)} {y : Str} {Q : Flow → Shared → Prop} (J : Nat → List Value → Led9 → Prop)
    (hh : A.handled = none) (F : Fr h₀ L s.heap m) (N : News h₀ L s.heap news) (hm : (ax, lst ((List.range n).map fun j => Value.ref (ts j)) k) ∈ news) (hts : ∀ j, j < n → (ts j, tup (vals j)) ∈ news) (hn : n ≤ 1000) (hlen : ∀ i, i < n → (vals i).length = nms.length) (hJ : J 0 [] news)
    (step : TStep prog w A h₀ L m env elt nms scope cl s n vals J)
    (fin : ∀ D h tk ys nw, Fr h₀ L h (fun z => if z = y then some (.ref D) else m z) → News h₀ L h ((D, LCg.lst ys) :: nw) → (∀ p ∈ nw, p.1 ≠ D) → (∀ p ∈ news, p.1 < D) → J n ys nw → Q .next { s with heap := h, toks := tk }) :
    wpAny (model prog w) A (pyIter (.ref ax)) (fun it s₂ => SrcNA prog w A h₀ L m env elt nms scope cl y Q it s₂) E s := by
  have hl : s.heap.IsList ax ((List.range n).map fun j => Value.ref (ts j)).toArray := ⟨_, (N _ hm).1, rfl, k, rfl⟩
  have lt : ∀ p ∈ news, p.1 < s.heap.objs.size := fun p hp => Heap.lt_size (N p hp).1
  refine wpAny_pyIter_list hl ?_
  refine ⟨_, _, _, n, vals, LSt s.heap.objs.size ax ts vals n, J, news, rfl, hh, list_src hh (Nat.ne_of_lt (lt _ hm)) (fun j hj => Nat.ne_of_lt (lt _ (hts j hj))), hn, hlen, ⟨⟨_, Heap.get?_push_size _ rfl, rfl, rfl⟩, hl.push _, fun j hj => IsTup.push ⟨_, (N _ (hts j hj)).1, rfl, _, rfl⟩ _⟩, ?_, F.push _,
    (fun p hp => ⟨Heap.get?_push_of_some _ (N p hp).1, (N p hp).2⟩), (fun p hp h => absurd (lt p hp) (by rw [List.mem_singleton.mp h]; exact Nat.lt_irrefl _)), hJ, step, fin⟩
  intro b hb
  simp only [List.mem_append, List.mem_cons, List.not_mem_nil, or_false, List.mem_map, List.mem_range] at hb
  rcases hb with (rfl | rfl) | ⟨j, hj, rfl⟩
  · exact ⟨Nat.ne_of_gt F.ns.lt, next_is_new F⟩
  · exact (N _ hm).2
  · exact (N _ (hts j hj)).2
/-- what a call of zip leaves -/
structure ZB (h₀ : Heap) (L : Addr) (m : Str → Option Value) (news : Led9) (h : Heap) (b : Nat) : Prop where
  F : Fr h₀ L h m
  N : News h₀ L h news
  lt : ∀ p ∈ news, p.1 < b
  Llt : L < b
  new : ∀ c, b ≤ c → h₀.get? c = none
theorem my_zip2 {ta tb : Addr} {xa xb : List Value} {news : Led9} {Q : Value → Shared → Prop} (F : Fr h₀ L s.heap m) (N : News h₀ L s.heap news) (m1 : (ta, tup xa) ∈ news) (m2 : (tb, tup xb) ∈ news)
    (h : ∀ h' b, ZB h₀ L m news h' b → ZSt2 b ta tb xa xb 0 h' → Q (.ref (b + 4 : Nat)) { s with heap := h' }) : wpAny (model prog w) A (call (.type "zip") [.ref ta, .ref tb]) Q E s := by
  refine call_zip2 (xs1 := xa.toArray) (xs2 := xb.toArray) ⟨_, (N _ m1).1, rfl, _, rfl⟩ ⟨_, (N _ m2).1, rfl, _, rfl⟩ fun h' b hb l1 l2 gz gi go g1 g2 gk => ?_
  subst hb
  refine h h' _ ⟨F.keeps gk, fun p hp => ⟨gk _ _ (N p hp).1, (N p hp).2⟩, fun p hp => Heap.lt_size (N p hp).1, F.ns.lt, fun c hc => ?_⟩ ⟨gz, gi, ⟨_, _, go⟩, ⟨_, g1, rfl, rfl⟩, ⟨_, gk _ _ (N _ m1).1, rfl, _, rfl⟩, ⟨_, g2, rfl, rfl⟩, ⟨_, gk _ _ (N _ m2).1, rfl, _, rfl⟩⟩
  cases e : h₀.get? c with
  | none => rfl
  | some o' => exact absurd (Heap.lt_size (F.keep c o' e)) (Nat.not_lt.mpr hc)
theorem my_zip3 {ta tb tc : Addr} {xa xb xc : List Value} {news : Led9} {Q : Value → Shared → Prop} (F : Fr h₀ L s.heap m) (N : News h₀ L s.heap news) (m1 : (ta, tup xa) ∈ news) (m2 : (tb, tup xb) ∈ news) (m3 : (tc, tup xc) ∈ news)
    (h : ∀ h' b, ZB h₀ L m news h' b → ZSt3 b ta tb tc xa xb xc 0 h' → Q (.ref (b + 5 : Nat)) { s with heap := h' }) : wpAny (model prog w) A (call (.type "zip") [.ref ta, .ref tb, .ref tc]) Q E s := by
  refine call_zip3 (xs1 := xa.toArray) (xs2 := xb.toArray) (xs3 := xc.toArray) ⟨_, (N _ m1).1, rfl, _, rfl⟩ ⟨_, (N _ m2).1, rfl, _, rfl⟩ ⟨_, (N _ m3).1, rfl, _, rfl⟩ fun h' b hb l1 l2 l3 gz gi go g1 g2 g3 gk => ?_
  subst hb
  refine h h' _ ⟨F.keeps gk, fun p hp => ⟨gk _ _ (N p hp).1, (N p hp).2⟩, fun p hp => Heap.lt_size (N p hp).1, F.ns.lt, fun c hc => ?_⟩ ⟨gz, gi, ⟨_, _, _, go⟩, ⟨_, g1, rfl, rfl⟩, ⟨_, gk _ _ (N _ m1).1, rfl, _, rfl⟩, ⟨_, g2, rfl, rfl⟩, ⟨_, gk _ _ (N _ m2).1, rfl, _, rfl⟩, ⟨_, g3, rfl, rfl⟩, ⟨_, gk _ _ (N _ m3).1, rfl, _, rfl⟩⟩
  cases e : h₀.get? c with
  | none => rfl
  | some o' => exact absurd (Heap.lt_size (F.keep c o' e)) (Nat.not_lt.mpr hc)
/-- three floats -/
noncomputable abbrev f3 (a : Nat → UInt64) (t : Nat → Tok) : List Value := [.float (a 0) (t 0), .float (a 1) (t 1), .float (a 2) (t 2)]
theorem f3_at {a : Nat → UInt64} {t : Nat → Tok} {i : Nat} (hi : i < 3) : (f3 a t).getD i .none = .float (a i) (t i) := by
  rcases cs3 hi with rfl | rfl | rfl
  · rfl
  · rfl
  · rfl
noncomputable def FJ (news : Led9) (g : Nat → UInt64) (i : Nat) (ys : List Value) (nw : Led9) : Prop := nw = news ∧ ∃ t : Nat → Tok, (∀ c, t c ≠ 0) ∧ ys = (List.range i).map fun c => .float (g c) (t c)
theorem FJ.step {news : Led9} {g : Nat → UInt64} {i : Nat} {ys : List Value} {t : Tok} {y : Value} {own : Led9} (h : FJ news g i ys news) (ho : own = []) (hy : t ≠ 0 ∧ y = .float (g i) t) : FJ news g (i + 1) (ys ++ [y]) (own ++ news) := by
  obtain ⟨ht, hy⟩ := hy
  subst ho; subst hy
  obtain ⟨_, t', ht', rfl⟩ := h
  refine ⟨rfl, fun c => if c = i then t else t' c, fun c => ?_, ?_⟩
  · dsimp only
    split
    · exact ht
    · exact ht' c
  rw [List.range_succ, List.map_append]
  congr 1
  · refine List.map_congr_left fun c hc => ?_
    dsimp only
    rw [if_neg (Nat.ne_of_lt (List.mem_range.mp hc))]
  · simp
theorem zip2_iter {b : Nat} {ta tb : Addr} {fa fb g : Nat → UInt64} {ka kb : Nat → Tok} {news : Led9} {elt : Expr} {x₁ x₂ : Str × Pos} {scope : Scope} {cl : List (Str × Addr)} {Q : Value → Shared → Prop}
    (Z : ZB h₀ L m news s.heap b) (hz : ZSt2 b ta tb (f3 fa ka) (f3 fb kb) 0 s.heap) (hh : A.handled = none) (m1 : (ta, tup (f3 fa ka)) ∈ news) (m2 : (tb, tup (f3 fb kb)) ∈ news)
    (step : ∀ i rest C oC m₂ h tk (E' : Value → Shared → Prop), i < 3 → LCg.NsObj oC m₂ → m₂ x₁.1 = some (.float (fa i) (ka i)) → m₂ x₂.1 = some (.float (fb i) (kb i)) → Fr h₀ L h m → News h₀ L h ((C, oC) :: (news ++ rest)) →
      wpAny (model prog w) A (eval elt (compEnvC scope cl C env)) (TEnd h₀ L m { s with heap := h, toks := tk } ((C, oC) :: (news ++ rest)) (fun y own => own = [] ∧ ∃ t, t ≠ 0 ∧ y = .float (g i) t)) E' { s with heap := h, toks := tk })
    (fin : ∀ D h tk (t : Nat → Tok), (∀ c, t c ≠ 0) → Fr h₀ L h m → News h₀ L h ((D, LCg.lst (f3 g t)) :: news) → (∀ p ∈ news, p.1 < D) → Q (.ref D) { s with heap := h, toks := tk }) :
    wpAny (model prog w) A (pyIter (.ref (b + 4 : Nat))) (fun it s₂ => SrcN prog w A h₀ L m env elt [x₁, x₂] scope cl Q it s₂) E s := by
  have l1 := Z.lt _ m1
  have l2 := Z.lt _ m2
  have W := zip2_src (prog := prog) (w := w) hh (xs1 := f3 fa ka) (xs2 := f3 fb kb) l1 rfl l2 rfl
  refine W.self 0 _ _ _ hz ?_
  refine ⟨_, _, _, 3, _, _, FJ news g, news, rfl, hh, W, by (first | lia | omega), fun _ _ => rfl, hz, ?_, Z.F, Z.N, ?_, ⟨rfl, fun _ => 1, fun _ => Nat.one_ne_zero, rfl⟩, ?_, ?_⟩
  · have hL : @LT.lt Nat instLTNat L b := Z.Llt
    exact amem (⟨by show (_ : Nat) ≠ _; (first | exact (nt9 hL).symm | exact Nat.ne_of_gt hL | lia), Z.new _ (by (first | exact Nat.le_add_right _ _ | exact Nat.le_refl _ | lia))⟩) (amem (⟨by show (_ : Nat) ≠ _; (first | exact (nt9 hL).symm | exact Nat.ne_of_gt hL | lia), Z.new _ (by (first | exact Nat.le_add_right _ _ | exact Nat.le_refl _ | lia))⟩) (amem (⟨by show (_ : Nat) ≠ _; (first | exact (nt9 hL).symm | exact Nat.ne_of_gt hL | lia), Z.new _ (by (first | exact Nat.le_add_right _ _ | exact Nat.le_refl _ | lia))⟩) (amem (⟨by show (_ : Nat) ≠ _; (first | exact (nt9 hL).symm | exact Nat.ne_of_gt hL | lia), Z.new _ (by (first | exact Nat.le_add_right _ _ | exact Nat.le_refl _ | lia))⟩) (amem (⟨by show (_ : Nat) ≠ _; (first | exact (nt9 hL).symm | exact Nat.ne_of_gt hL | lia), Z.new _ (by (first | exact Nat.le_add_right _ _ | exact Nat.le_refl _ | lia))⟩) (amem ((Z.N _ m1).2) (amem ((Z.N _ m2).2) (amem0)))))))
  · intro p hp hc
    have hlt : @LT.lt Nat instLTNat p.1 b := Z.lt p hp
    exact (amem (P := fun x => @Ne Nat p.1 x) (nt9 hlt) (amem (P := fun x => @Ne Nat p.1 x) (nt9 hlt) (amem (P := fun x => @Ne Nat p.1 x) (Nat.ne_of_lt hlt) (amem (P := fun x => @Ne Nat p.1 x) (nt9 hlt) (amem0))))) p.1 hc rfl
  · rintro i ys nw rest C oC m₂ h tk E' hi ⟨rfl, hJ⟩ hC hv F' N'
    refine wpAny_mono (step i rest C oC m₂ h tk E' hi hC (hv 0 _ _ rfl (congrArg some (f3_at hi))) (hv 1 _ _ rfl (congrArg some (f3_at hi))) F' N') (fun y s₄ h₄ => ?_) fun _ _ e => e
    obtain ⟨h', tk', own, rfl, F₂, N₂, l, ho, t, hy⟩ := h₄
    exact ⟨h', tk', own, rfl, F₂, N₂, l, FJ.step ⟨rfl, hJ⟩ ho hy⟩
  · rintro D h tk ys nw F' N' o l ⟨rfl, t, ht, rfl⟩
    exact fin D h tk t ht F' N' l
theorem zip3_iter {b : Nat} {ta tb tc : Addr} {fa fb fc g : Nat → UInt64} {ka kb kc : Nat → Tok} {news : Led9} {elt : Expr} {x₁ x₂ x₃ : Str × Pos} {scope : Scope} {cl : List (Str × Addr)} {Q : Value → Shared → Prop}
    (Z : ZB h₀ L m news s.heap b) (hz : ZSt3 b ta tb tc (f3 fa ka) (f3 fb kb) (f3 fc kc) 0 s.heap) (hh : A.handled = none) (m1 : (ta, tup (f3 fa ka)) ∈ news) (m2 : (tb, tup (f3 fb kb)) ∈ news) (m3 : (tc, tup (f3 fc kc)) ∈ news)
    (step : ∀ i rest C oC m₂ h tk (E' : Value → Shared → Prop), i < 3 → LCg.NsObj oC m₂ → m₂ x₁.1 = some (.float (fa i) (ka i)) → m₂ x₂.1 = some (.float (fb i) (kb i)) → m₂ x₃.1 = some (.float (fc i) (kc i)) → Fr h₀ L h m → News h₀ L h ((C, oC) :: (news ++ rest)) →
      wpAny (model prog w) A (eval elt (compEnvC scope cl C env)) (TEnd h₀ L m { s with heap := h, toks := tk } ((C, oC) :: (news ++ rest)) (fun y own => own = [] ∧ ∃ t, t ≠ 0 ∧ y = .float (g i) t)) E' { s with heap := h, toks := tk })
    (fin : ∀ D h tk (t : Nat → Tok), (∀ c, t c ≠ 0) → Fr h₀ L h m → News h₀ L h ((D, LCg.lst (f3 g t)) :: news) → (∀ p ∈ news, p.1 < D) → Q (.ref D) { s with heap := h, toks := tk }) :
    wpAny (model prog w) A (pyIter (.ref (b + 5 : Nat))) (fun it s₂ => SrcN prog w A h₀ L m env elt [x₁, x₂, x₃] scope cl Q it s₂) E s := by
  have l1 := Z.lt _ m1
  have l2 := Z.lt _ m2
  have l3 := Z.lt _ m3
  have W := zip3_src (prog := prog) (w := w) hh (xs1 := f3 fa ka) (xs2 := f3 fb kb) (xs3 := f3 fc kc) l1 rfl l2 rfl l3 rfl
  refine W.self 0 _ _ _ hz ?_
  refine ⟨_, _, _, 3, _, _, FJ news g, news, rfl, hh, W, by (first | lia | omega), fun _ _ => rfl, hz, ?_, Z.F, Z.N, ?_, ⟨rfl, fun _ => 1, fun _ => Nat.one_ne_zero, rfl⟩, ?_, ?_⟩
  · have hL : @LT.lt Nat instLTNat L b := Z.Llt
    exact amem (⟨by show (_ : Nat) ≠ _; (first | exact (nt9 hL).symm | exact Nat.ne_of_gt hL | lia), Z.new _ (by (first | exact Nat.le_add_right _ _ | exact Nat.le_refl _ | lia))⟩) (amem (⟨by show (_ : Nat) ≠ _; (first | exact (nt9 hL).symm | exact Nat.ne_of_gt hL | lia), Z.new _ (by (first | exact Nat.le_add_right _ _ | exact Nat.le_refl _ | lia))⟩) (amem (⟨by show (_ : Nat) ≠ _; (first | exact (nt9 hL).symm | exact Nat.ne_of_gt hL | lia), Z.new _ (by (first | exact Nat.le_add_right _ _ | exact Nat.le_refl _ | lia))⟩) (amem (⟨by show (_ : Nat) ≠ _; (first | exact (nt9 hL).symm | exact Nat.ne_of_gt hL | lia), Z.new _ (by (first | exact Nat.le_add_right _ _ | exact Nat.le_refl _ | lia))⟩) (amem (⟨by show (_ : Nat) ≠ _; (first | exact (nt9 hL).symm | exact Nat.ne_of_gt hL | lia), Z.new _ (by (first | exact Nat.le_add_right _ _ | exact Nat.le_refl _ | lia))⟩) (amem (⟨by show (_ : Nat) ≠ _; (first | exact (nt9 hL).symm | exact Nat.ne_of_gt hL | lia), Z.new _ (by (first | exact Nat.le_add_right _ _ | exact Nat.le_refl _ | lia))⟩) (amem ((Z.N _ m1).2) (amem ((Z.N _ m2).2) (amem ((Z.N _ m3).2) (amem0)))))))))
  · intro p hp hc
    have hlt : @LT.lt Nat instLTNat p.1 b := Z.lt p hp
    exact (amem (P := fun x => @Ne Nat p.1 x) (nt9 hlt) (amem (P := fun x => @Ne Nat p.1 x) (nt9 hlt) (amem (P := fun x => @Ne Nat p.1 x) (Nat.ne_of_lt hlt) (amem (P := fun x => @Ne Nat p.1 x) (nt9 hlt) (amem (P := fun x => @Ne Nat p.1 x) (nt9 hlt) (amem0)))))) p.1 hc rfl
  · rintro i ys nw rest C oC m₂ h tk E' hi ⟨rfl, hJ⟩ hC hv F' N'
    refine wpAny_mono (step i rest C oC m₂ h tk E' hi hC (hv 0 _ _ rfl (congrArg some (f3_at hi))) (hv 1 _ _ rfl (congrArg some (f3_at hi))) (hv 2 _ _ rfl (congrArg some (f3_at hi))) F' N') (fun y s₄ h₄ => ?_) fun _ _ e => e
    obtain ⟨h', tk', own, rfl, F₂, N₂, l, ho, t, hy⟩ := h₄
    exact ⟨h', tk', own, rfl, F₂, N₂, l, FJ.step ⟨rfl, hJ⟩ ho hy⟩
  · rintro D h tk ys nw F' N' o l ⟨rfl, t, ht, rfl⟩
    exact fin D h tk t ht F' N' l
end
end
section
open PySem PySem.W PyProof.Rows PySem.Flt PySem.Spec PySem.Calls
theorem fillC11 (w : World) (h : Heap) : PySem.Challenge.rw_pm0065_01.Holds → (hd.heap_39 w.params).In h → True := by
  k_fill
  intros; trivial

noncomputable abbrev p3 (a : Nat → UInt64) (t : Nat → Tok) : Obj := tup (f3 a t)
noncomputable def pu (a : Nat → UInt64) : UInt64 := Float64.sub (Float64.sub (Float64.mul (Float64.ofInt 2) (a 0)) (a 1)) (a 2)
noncomputable def pv (a : Nat → UInt64) : UInt64 := Float64.sub (a 1) (a 2)
noncomputable abbrev ptT (a : Nat → UInt64) (t t' : Tok) : Obj := tup [.float (pu a) t, .float (pv a) t']
noncomputable def AJ (cf : Nat → Nat → UInt64) (news : Led9) (i : Nat) (ys : List Value) (nw : Led9) : Prop :=
  ∃ (ps : Nat → Addr) (t t' : Nat → Tok), ys = (List.range i).map (fun j => .ref (ps j)) ∧ nw = ((List.range i).map fun j => (ps j, ptT (cf j) (t j) (t' j))).reverse ++ news ∧ ∀ j, j < i → ∀ p ∈ news, p.1 < ps j
theorem AJ.step {cf : Nat → Nat → UInt64} {news nw own : Led9} {i : Nat} {ys : List Value} {y : Value} {T : Addr} {u u' : Tok} (h : AJ cf news i ys nw) (hy : y = .ref T) (ho : own = [(T, ptT (cf i) u u')]) (hT : ∀ p ∈ nw, p.1 < T) : AJ cf news (i + 1) (ys ++ [y]) (own ++ nw) := by
  subst hy; subst ho
  obtain ⟨ps, t, t', rfl, rfl, hl⟩ := h
  refine ⟨fun j => if j = i then T else ps j, fun j => if j = i then u else t j, fun j => if j = i then u' else t' j, ?_, ?_, ?_⟩
  · rw [List.range_succ, List.map_append]
    congr 1
    · refine List.map_congr_left fun c hc => ?_
      dsimp only
      rw [if_neg (Nat.ne_of_lt (List.mem_range.mp hc))]
    · simp
  · rw [List.range_succ, List.map_append, List.reverse_append]
    simp only [List.map_cons, List.map_nil, List.reverse_cons, List.reverse_nil, List.nil_append, if_true, List.cons_append]
    congr 1
    congr 2
    refine List.map_congr_left fun c hc => ?_
    rw [if_neg (Nat.ne_of_lt (List.mem_range.mp hc)), if_neg (Nat.ne_of_lt (List.mem_range.mp hc)), if_neg (Nat.ne_of_lt (List.mem_range.mp hc))]
  · intro j hj p hp
    by_cases e : j = i
    · simp only [e, if_true]
      exact hT p (List.mem_append_right _ hp)
    · simp only [e, if_false]
      exact hl j (by (first | lia | omega)) p hp
section
variable {prog : Program} {w : World} {A : Around} {E : Value → Shared → Prop} {s : Shared} {h₀ : Heap} {L : Addr} {m : Str → Option Value} {env : Env}
theorem mix_iterA {ax : Addr} {ts : Nat → Addr} {cf : Nat → Nat → UInt64} {kf : Nat → Nat → Tok} {k : Nat} {a1 a2 a3 a4 a5 : Addr} {o1 o2 o3 o4 o5 : Obj} {news : Led9} {elt : Expr} {x₁ x₂ x₃ : Str × Pos} {scope : Scope} {cl : List (Str × Addr)} {y : Str} {Q : Flow → Shared → Prop}
    (hm : (ax, lst [.ref (ts 0), .ref (ts 1), .ref (ts 2), .ref (ts 3)] k) ∈ news) (hts : ∀ j, j < 4 → (ts j, p3 (cf j) (kf j)) ∈ news)
    (hh : A.handled = none) (F : Fr h₀ L s.heap m) (N : News h₀ L s.heap ((a5, o5) :: (a4, o4) :: (a3, o3) :: (a2, o2) :: (a1, o1) :: news)) 
    (step : ∀ (a : Nat → UInt64) (t : Nat → Tok) nw rest C oC m₂ h tk (E' : Value → Shared → Prop), LCg.NsObj oC m₂ → m₂ x₁.1 = some (.float (a 0) (t 0)) → m₂ x₂.1 = some (.float (a 1) (t 1)) → m₂ x₃.1 = some (.float (a 2) (t 2)) → Fr h₀ L h m → News h₀ L h ((C, oC) :: (nw ++ rest)) →
      wpAny (model prog w) A (eval elt (compEnvC scope cl C env)) (TEnd h₀ L m { s with heap := h, toks := tk } ((C, oC) :: (nw ++ rest)) (fun y own => ∃ T u u', y = .ref T ∧ own = [(T, ptT a u u')])) E' { s with heap := h, toks := tk })
    (hoff : ∀ p ∈ news, p.1 < a1) (h12 : @LT.lt Nat _ a1 a2) (h23 : @LT.lt Nat _ a2 a3) (h34 : @LT.lt Nat _ a3 a4) (h45 : @LT.lt Nat _ a4 a5)
    (fin : ∀ D h tk (ps : Nat → Addr) (t t' : Nat → Tok) rest, Fr h₀ L h (fun z => if z = y then some (.ref D) else m z) → News h₀ L h ((a5, o5) :: (a4, o4) :: (a3, o3) :: (a2, o2) :: (a1, o1) :: (D, lst [.ref (ps 0), .ref (ps 1), .ref (ps 2), .ref (ps 3)] 4) :: rest) →
      (∀ j, j < 4 → (ps j, ptT (cf j) (t j) (t' j)) ∈ rest) → (ax, lst [.ref (ts 0), .ref (ts 1), .ref (ts 2), .ref (ts 3)] k) ∈ rest → (∀ j, j < 4 → (ts j, p3 (cf j) (kf j)) ∈ rest) → (∀ p ∈ news, p ∈ rest) →
      @LT.lt Nat _ a5 D → (∀ p ∈ rest, @Ne Nat p.1 a1) → (∀ p ∈ rest, @Ne Nat p.1 a2) → (∀ p ∈ rest, @Ne Nat p.1 a3) → (∀ p ∈ rest, @Ne Nat p.1 a4) → (∀ p ∈ rest, @Ne Nat p.1 a5) → Q .next { s with heap := h, toks := tk }) :
    wpAny (model prog w) A (pyIter (.ref ax)) (fun it s₂ => SrcNA prog w A h₀ L m env elt [x₁, x₂, x₃] scope cl y Q it s₂) E s := by
  have up : ∀ p ∈ news, p ∈ (a5, o5) :: (a4, o4) :: (a3, o3) :: (a2, o2) :: (a1, o1) :: news := fun p hp => .tail _ (.tail _ (.tail _ (.tail _ (.tail _ hp))))
  refine list_iterA (J := AJ cf ((a5, o5) :: (a4, o4) :: (a3, o3) :: (a2, o2) :: (a1, o1) :: news)) (vals := fun j => f3 (cf j) (kf j)) (n := 4) (ts := ts) hh F N (up _ hm) (fun j hj => up _ (hts j hj)) (by omega) (fun _ _ => rfl) ⟨fun _ => 0, fun _ => 0, fun _ => 0, rfl, rfl, fun j hj => absurd hj (Nat.not_lt_zero _)⟩ ?_ ?_
  · intro i ys nw rest C oC m₂ h tk E' hi hJ hC hv F' N'
    refine wpAny_mono (step (cf i) (kf i) nw rest C oC m₂ h tk E' hC (hv 0 _ _ rfl rfl) (hv 1 _ _ rfl rfl) (hv 2 _ _ rfl rfl) F' N') (fun y s₄ h₄ => ?_) fun _ _ e => e
    obtain ⟨h', tk', own, rfl, F₂, N₂, l, T, u, u', hy, ho⟩ := h₄
    exact ⟨h', tk', own, rfl, F₂, N₂, l, AJ.step hJ hy ho fun p hp => l (T, ptT (cf i) u u') (by rw [ho]; exact .head _) p (.tail _ (List.mem_append_left _ hp))⟩
  · rintro D h tk ys nw F' N' o lD ⟨ps, t, t', rfl, rfl, hl⟩
    have l5 := lD _ (.head _)
    have rr : ∀ p, p ∈ (ps 3, ptT (cf 3) (t 3) (t' 3)) :: (ps 2, ptT (cf 2) (t 2) (t' 2)) :: (ps 1, ptT (cf 1) (t 1) (t' 1)) :: (ps 0, ptT (cf 0) (t 0) (t' 0)) :: news → (@LT.lt Nat _ a5 p.1) ∨ (@LT.lt Nat _ p.1 a1) := by
      intro p hp
      rcases List.mem_cons.mp hp with rfl | hp
      · exact .inl (hl 3 (by omega) _ (.head _))
      rcases List.mem_cons.mp hp with rfl | hp
      · exact .inl (hl 2 (by omega) _ (.head _))
      rcases List.mem_cons.mp hp with rfl | hp
      · exact .inl (hl 1 (by omega) _ (.head _))
      rcases List.mem_cons.mp hp with rfl | hp
      · exact .inl (hl 0 (by omega) _ (.head _))
      · exact .inr (hoff p hp)
    refine fin D h tk ps t t' ((ps 3, ptT (cf 3) (t 3) (t' 3)) :: (ps 2, ptT (cf 2) (t 2) (t' 2)) :: (ps 1, ptT (cf 1) (t 1) (t' 1)) :: (ps 0, ptT (cf 0) (t 0) (t' 0)) :: news) F' (fun p hp => N' p ?_) ?_ (.tail _ (.tail _ (.tail _ (.tail _ hm)))) (fun j hj => .tail _ (.tail _ (.tail _ (.tail _ (hts j hj))))) (fun p hp => .tail _ (.tail _ (.tail _ (.tail _ hp)))) l5
      (fun p hp => by have := rr p hp; omega) (fun p hp => by have := rr p hp; omega) (fun p hp => by have := rr p hp; omega) (fun p hp => by have := rr p hp; omega) (fun p hp => by have := rr p hp; omega)
    · show p ∈ (D, LCg.lst [.ref (ps 0), .ref (ps 1), .ref (ps 2), .ref (ps 3)]) :: (ps 3, ptT (cf 3) (t 3) (t' 3)) :: (ps 2, ptT (cf 2) (t 2) (t' 2)) :: (ps 1, ptT (cf 1) (t 1) (t' 1)) :: (ps 0, ptT (cf 0) (t 0) (t' 0)) :: (a5, o5) :: (a4, o4) :: (a3, o3) :: (a2, o2) :: (a1, o1) :: news
      exact mem_swap [_, _, _, _, _] [_, _, _, _, _] hp
    · intro j hj
      rcases cs4 hj with rfl | rfl | rfl | rfl
      · exact .tail _ (.tail _ (.tail _ (.head _)))
      · exact .tail _ (.tail _ (.head _))
      · exact .tail _ (.head _)
      · exact .head _
end
/-- m but for the names of W, which f gives -/
noncomputable def ovr : List Str → (Str → Option Value) → (Str → Option Value) → Str → Option Value
  | [], _, m => m
  | x :: r, f, m => fun y => if y = x then f y else ovr r f m y
theorem ovr_of {m' m : Str → Option Value} : ∀ {W : List Str}, (∀ z, z ∉ W → m' z = m z) → m' = ovr W m' m := by
  intro W h
  funext y
  have : ∀ V : List Str, (∀ z, z ∉ V → m' z = m z) → m' y = ovr V m' m y := by
    intro V
    induction V with
    | nil => intro h; exact h y (by simp)
    | cons x r ih =>
      intro hV
      unfold ovr
      by_cases e : y = x
      · rw [if_pos e]
      · rw [if_neg e]
        by_cases hr : y ∈ r
        · have aux : ∀ R : List Str, y ∈ R → ovr R m' m y = m' y := by
            intro R
            induction R with
            | nil => intro h; cases h
            | cons a b ih' =>
              intro h
              unfold ovr
              by_cases ea : y = a
              · rw [if_pos ea]
              · rw [if_neg ea]
                exact ih' (by rcases List.mem_cons.mp h with h | h; exact absurd h ea; exact h)
          exact (aux r hr).symm
        · have hy := hV y (by simp [e, hr])
          have aux : ∀ R : List Str, y ∉ R → ovr R m' m y = m y := by
            intro R
            induction R with
            | nil => intro h; rfl
            | cons a b ih' =>
              intro h
              unfold ovr
              rw [if_neg (fun q => h (by simp [q]))]
              exact ih' fun q => h (.tail _ q)
          rw [hy, aux r hr]
  exact this W h
/-- the end of a turn of a loop of the mix -/
noncomputable def MPost (h₀ : Heap) (L : Addr) (s : Shared) (I : Addr) (oI : Obj) (a1 a2 a3 a4 a5 : Addr) (rest : Led9) (W : List Str) (m₀ : Str → Option Value) (C1 : Option Value → Prop) (P : Prop) (Q : Flow → Shared → Prop) (f : Flow) (s₃ : Shared) : Prop :=
  match f with
  | .ret v => Q (.ret v) s₃
  | .brk => Q .next s₃
  | _ => ∃ h' tk m' o1 o2 o3 o4 o5 v1 v2 v3 v4 v5, s₃ = { s with heap := h', toks := tk } ∧ Fr h₀ L h' m' ∧ News h₀ L h' ((I, oI) :: (a5, o5) :: (a4, o4) :: (a3, o3) :: (a2, o2) :: (a1, o1) :: rest) ∧
    o1.data = .cell v1 ∧ o2.data = .cell v2 ∧ o3.data = .cell v3 ∧ o4.data = .cell v4 ∧ o5.data = .cell v5 ∧ C1 v1 ∧ (∀ z, z ∉ W → m' z = m₀ z) ∧ P
theorem mpost_ret {h₀ : Heap} {L : Addr} {s : Shared} {I : Addr} {oI : Obj} {a1 a2 a3 a4 a5 : Addr} {rest : Led9} {W : List Str} {m₀ : Str → Option Value} {C1 : Option Value → Prop} {P : Prop} {Q : Flow → Shared → Prop} {v : Value} {s₃ : Shared} (h : Q (.ret v) s₃) : MPost h₀ L s I oI a1 a2 a3 a4 a5 rest W m₀ C1 P Q (.ret v) s₃ := h
theorem mpost_next {h₀ : Heap} {L : Addr} {s : Shared} {I : Addr} {oI : Obj} {a1 a2 a3 a4 a5 : Addr} {rest : Led9} {W : List Str} {m₀ : Str → Option Value} {C1 : Option Value → Prop} {P : Prop} {Q : Flow → Shared → Prop} {h' : Heap} {tk : Nat} {m' : Str → Option Value} {o1 o2 o3 o4 o5 : Obj} {v1 v2 v3 v4 v5 : Option Value} {all : Led9}
    (F : Fr h₀ L h' m') (N : News h₀ L h' all) (hI : (I, oI) ∈ all) (h5 : (a5, o5) ∈ all) (h4 : (a4, o4) ∈ all) (h3 : (a3, o3) ∈ all) (h2 : (a2, o2) ∈ all) (h1 : (a1, o1) ∈ all) (hr : ∀ p ∈ rest, p ∈ all)
    (d1 : o1.data = .cell v1) (d2 : o2.data = .cell v2) (d3 : o3.data = .cell v3) (d4 : o4.data = .cell v4) (d5 : o5.data = .cell v5) (hc : C1 v1) (hm : ∀ z, z ∉ W → m' z = m₀ z) (hP : P) :
    MPost h₀ L s I oI a1 a2 a3 a4 a5 rest W m₀ C1 P Q .next { s with heap := h', toks := tk } := by
  refine ⟨h', tk, m', o1, o2, o3, o4, o5, v1, v2, v3, v4, v5, rfl, F, fun p hp => N p (amem hI (amem h5 (amem h4 (amem h3 (amem h2 (amem h1 hr))))) p hp), d1, d2, d3, d4, d5, hc, hm, hP⟩
section
variable {prog : Program} {w : World} {A : Around} {E : Value → Shared → Prop} {s : Shared} {env : Env} {h₀ : Heap} {x : Str} {body : List Stmt} {Q : Flow → Shared → Prop}
theorem mix_range {r : Addr} {b₀ : Int} {t₀ u₀ v₀ : Tok} {n : Nat} {m₀ : Str → Option Value} {a1 a2 a3 a4 a5 : Addr} {o1 o2 o3 o4 o5 : Obj} {v1 v2 v3 v4 v5 : Option Value} {rest all : Led9} (W : List Str) (P : Nat → Prop) (C1 : Option Value → Prop) (_hx : x = W.headD x) 
    (hh : A.handled = none) (hr : IsRange s.heap r 0 b₀ 1 t₀ u₀ v₀) (hb : b₀ = (n : Int)) (hn : n ≤ 4) (F : Fr h₀ env.locals s.heap m₀) (N : News h₀ env.locals s.heap all)
    (h5 : (a5, o5) ∈ all) (h4 : (a4, o4) ∈ all) (h3 : (a3, o3) ∈ all) (h2 : (a2, o2) ∈ all) (h1 : (a1, o1) ∈ all) (hre : ∀ p ∈ rest, p ∈ all)
    (d1 : o1.data = .cell v1) (d2 : o2.data = .cell v2) (d3 : o3.data = .cell v3) (d4 : o4.data = .cell v4) (d5 : o5.data = .cell v5) (hc1 : C1 v1) (hP : P 0)
    (turn : ∀ (i : Nat) f t h tk I oI o1 o2 o3 o4 o5 v1 v2 v3 v4 v5, i < n → P i → oI.cls = .type "range_iterator" → o1.data = .cell v1 → o2.data = .cell v2 → o3.data = .cell v3 → o4.data = .cell v4 → o5.data = .cell v5 → C1 v1 →
      @LT.lt Nat _ a1 I → @LT.lt Nat _ a2 I → @LT.lt Nat _ a3 I → @LT.lt Nat _ a4 I → @LT.lt Nat _ a5 I → (∀ p ∈ rest, @Ne Nat p.1 I) → 
      Fr h₀ env.locals h (fun y => if y = x then some (.int (0 + (i : Int)) t) else ovr W f m₀ y) → News h₀ env.locals h ((I, oI) :: (a5, o5) :: (a4, o4) :: (a3, o3) :: (a2, o2) :: (a1, o1) :: rest) →
      wpAny (model prog w) A (execs body env) (MPost h₀ env.locals { s with heap := h, toks := tk } I oI a1 a2 a3 a4 a5 rest W m₀ C1 (P (i + 1)) Q) E { s with heap := h, toks := tk })
    (done : ∀ f h tk o1 o2 o3 o4 o5 v1 v2 v3 v4 v5, P n → o1.data = .cell v1 → o2.data = .cell v2 → o3.data = .cell v3 → o4.data = .cell v4 → o5.data = .cell v5 → Fr h₀ env.locals h (ovr W f m₀) → News h₀ env.locals h ((a5, o5) :: (a4, o4) :: (a3, o3) :: (a2, o2) :: (a1, o1) :: rest) → Q .next { s with heap := h, toks := tk }) :
    wpAny (model prog w) A (pyIter (.ref r)) (fun it s₂ => LoopAtV prog w A h₀ env x body Q E it s₂) E s := by
  subst hb
  have N' : News h₀ env.locals s.heap ((a5, o5) :: (a4, o4) :: (a3, o3) :: (a2, o2) :: (a1, o1) :: rest) := fun p hp => N p (amem h5 (amem h4 (amem h3 (amem h2 (amem h1 hre)))) p hp)
  refine for_range (n := n) (J := fun i m nw => P i ∧ (∀ z, z ∉ W → m z = m₀ z) ∧ ∃ o1 o2 o3 o4 o5 v1 v2 v3 v4 v5, nw = (a5, o5) :: (a4, o4) :: (a3, o3) :: (a2, o2) :: (a1, o1) :: rest ∧ C1 v1 ∧ o1.data = .cell v1 ∧ o2.data = .cell v2 ∧ o3.data = .cell v3 ∧ o4.data = .cell v4 ∧ o5.data = .cell v5)
    hh hr ?_ ?_ F N' ⟨hP, fun _ _ => rfl, _, _, _, _, _, _, _, _, _, _, rfl, hc1, d1, d2, d3, d4, d5⟩ ?_ ?_
  · have : n = 0 ∨ n = 1 ∨ n = 2 ∨ n = 3 ∨ n = 4 := by (first | lia | omega)
    rcases this with rfl | rfl | rfl | rfl | rfl <;> rfl
  · have : n = 0 ∨ n = 1 ∨ n = 2 ∨ n = 3 ∨ n = 4 := by (first | lia | omega)
    rcases this with rfl | rfl | rfl | rfl | rfl <;> rfl
  · intro i m₁ nw t h tk I oI hi hh9 hI F' N₁ hc
    refine Classical.byContradiction fun hn9 => ?_
    obtain ⟨hPi, hm, o1, o2, o3, o4, o5, v1, v2, v3, v4, v5, rfl, hc1, d1, d2, d3, d4, d5⟩ := hh9
    refine hn9 ?_
    clear hn9
    rw [ovr_of hm] at F'
    have l5 := hI _ (.head _)
    have l4 := hI _ (.tail _ (.head _))
    have l3 := hI _ (.tail _ (.tail _ (.head _)))
    have l2 := hI _ (.tail _ (.tail _ (.tail _ (.head _))))
    have l1 := hI _ (.tail _ (.tail _ (.tail _ (.tail _ (.head _)))))
    have lr : ∀ p ∈ rest, p.1 ≠ I := fun p hp => Nat.ne_of_lt (hI p (.tail _ (.tail _ (.tail _ (.tail _ (.tail _ hp))))))
    refine wpAny_mono (turn i _ t h tk I oI o1 o2 o3 o4 o5 v1 v2 v3 v4 v5 hi hPi hc d1 d2 d3 d4 d5 hc1 l1 l2 l3 l4 l5 lr F' N₁) (fun f s₃ p => ?_) fun _ _ e => e
    have fin : (∃ h' tk' m' o1 o2 o3 o4 o5 v1 v2 v3 v4 v5, s₃ = { s with heap := h', toks := tk' } ∧ Fr h₀ env.locals h' m' ∧ News h₀ env.locals h' ((I, oI) :: (a5, o5) :: (a4, o4) :: (a3, o3) :: (a2, o2) :: (a1, o1) :: rest) ∧ o1.data = .cell v1 ∧ o2.data = .cell v2 ∧ o3.data = .cell v3 ∧ o4.data = .cell v4 ∧ o5.data = .cell v5 ∧ C1 v1 ∧ (∀ z, z ∉ W → m' z = m₀ z) ∧ P (i + 1)) →
        LPost h₀ env.locals { s with heap := h, toks := tk } I oI (fun m nw => P (i + 1) ∧ (∀ z, z ∉ W → m z = m₀ z) ∧ ∃ o1 o2 o3 o4 o5 v1 v2 v3 v4 v5, nw = (a5, o5) :: (a4, o4) :: (a3, o3) :: (a2, o2) :: (a1, o1) :: rest ∧ C1 v1 ∧ o1.data = .cell v1 ∧ o2.data = .cell v2 ∧ o3.data = .cell v3 ∧ o4.data = .cell v4 ∧ o5.data = .cell v5) Q .next s₃ := by
      intro hh9
      refine Classical.byContradiction fun hn9 => ?_
      obtain ⟨h', tk', m', o1, o2, o3, o4, o5, v1, v2, v3, v4, v5, rfl, F₂, N₂, d1, d2, d3, d4, d5, hc1', hm', hP'⟩ := hh9
      refine hn9 ?_
      clear hn9
      refine ⟨h', tk', m', _, rfl, F₂, N₂, ?_, hP', hm', _, _, _, _, _, _, _, _, _, _, rfl, hc1', d1, d2, d3, d4, d5⟩
      exact amem (Nat.ne_of_lt l5) (amem (Nat.ne_of_lt l4) (amem (Nat.ne_of_lt l3) (amem (Nat.ne_of_lt l2) (amem (Nat.ne_of_lt l1) lr))))
    cases f with
    | ret v => exact p
    | brk => exact p
    | next => exact fin p
    | cont => exact fin p
  · intro m₁ nw h tk hh9 F' N₁
    refine Classical.byContradiction fun hn9 => ?_
    obtain ⟨hPi, hm, o1, o2, o3, o4, o5, v1, v2, v3, v4, v5, rfl, hc1, d1, d2, d3, d4, d5⟩ := hh9
    refine hn9 ?_
    clear hn9
    rw [ovr_of hm] at F'
    exact done _ h tk o1 o2 o3 o4 o5 v1 v2 v3 v4 v5 hPi d1 d2 d3 d4 d5 F' N₁
end
end
section
open PySem PySem.W PyProof.Rows PySem.Flt PySem.Spec PySem.Calls
theorem fillC12 (w : World) (h : Heap) : PySem.Challenge.rw_pm0065_01.Holds → (hd.heap_39 w.params).In h → True := by
  k_fill
  intros; trivial

structure Anchor (U V : Nat → UInt64) (cf : Nat → Nat → UInt64) (kf : Nat → Nat → Tok) (ps ts : Nat → Addr) (La : Addr) (k : Nat) (a1 a2 a3 a4 a5 D : Nat) (rest : Led9) : Prop where
  hU : ∀ j, U j = pu (cf j)
  hV : ∀ j, V j = pv (cf j)
  hps : ∀ j, j < 4 → ∃ t t', (ps j, tup [.float (U j) t, .float (V j) t']) ∈ rest
  hts : ∀ j, j < 4 → (ts j, p3 (cf j) (kf j)) ∈ rest
  hLa : (La, lst [.ref (ts 0), .ref (ts 1), .ref (ts 2), .ref (ts 3)] k) ∈ rest
section
variable {prog : Program} {w : World} {A : Around} {E : Value → Shared → Prop} {s : Shared} {h₀ : Heap} {L : Addr} {news : Led9}
theorem four_at {ts : Nat → Addr} {j : Nat} (hj : j < 4) : [Value.ref (ts 0), .ref (ts 1), .ref (ts 2), .ref (ts 3)][j]? = some (.ref (ts j)) := by
  rcases cs4 hj with rfl | rfl | rfl | rfl
  · rfl
  · rfl
  · rfl
  · rfl
theorem my_four {value slice : PySem.Expr} {l : Addr} {ts : Nat → Addr} {n j : Nat} {u : Tok} {Q : Value → Shared → Prop} (N : News h₀ L s.heap news) (hm : (l, lst [.ref (ts 0), .ref (ts 1), .ref (ts 2), .ref (ts 3)] n) ∈ news) (hj : j < 4) (h : Q (.ref (ts j)) s)
    (hs : subscripted slice false (.ref l) (.int (0 + (j : Int)) u) = operate [.ref l, .int (0 + (j : Int)) u] (getItem (.ref l) (.int (0 + (j : Int)) u))) :
    wpAny (model prog w) A (subscriptTail value slice (.ref l) (.int (0 + (j : Int)) u)) Q E s := by
  have hL : s.heap.IsList l [Value.ref (ts 0), .ref (ts 1), .ref (ts 2), .ref (ts 3)].toArray := ⟨_, (N _ hm).1, rfl, n, rfl⟩
  refine tail_any hL.typeIs slot_list_getitem.lookup (wpAny_getItem_list hL (by omega) (by simp; omega) (x := .ref (ts j)) ?_ h) hs
  have : (0 + (j : Int)).toNat = j := by omega
  rw [this]
  simpa using four_at hj
theorem my_point {cf : Nat → Nat → UInt64} {kf : Nat → Nat → Tok} {ps ts : Nat → Addr} {La : Addr} {k : Nat} {a1 a2 a3 a4 a5 D : Nat} {rest : Led9} {value slice : PySem.Expr} {j : Nat} {u : Tok} {Q : Value → Shared → Prop}
    {U V : Nat → UInt64} (An : Anchor U V cf kf ps ts La k a1 a2 a3 a4 a5 D rest) (N : News h₀ L s.heap news) (hm : (D, lst [.ref (ps 0), .ref (ps 1), .ref (ps 2), .ref (ps 3)] 4) ∈ news) (hj : j < 4) (h : ∀ t t', (ps j, tup [.float (U j) t, .float (V j) t']) ∈ rest → Q (.ref (ps j)) s)
    (hs : subscripted slice false (.ref D) (.int (0 + (j : Int)) u) = operate [.ref D, .int (0 + (j : Int)) u] (getItem (.ref D) (.int (0 + (j : Int)) u))) :
    wpAny (model prog w) A (subscriptTail value slice (.ref D) (.int (0 + (j : Int)) u)) Q E s := by
  obtain ⟨t, t', hp⟩ := An.hps j hj
  exact my_four N hm hj (h t t' hp) hs
theorem my_colour {cf : Nat → Nat → UInt64} {kf : Nat → Nat → Tok} {ps ts : Nat → Addr} {La : Addr} {k : Nat} {a1 a2 a3 a4 a5 D : Nat} {rest : Led9} {value slice : PySem.Expr} {j : Nat} {u : Tok} {Q : Value → Shared → Prop}
    {U V : Nat → UInt64} (An : Anchor U V cf kf ps ts La k a1 a2 a3 a4 a5 D rest) (N : News h₀ L s.heap news) (hr : ∀ p ∈ rest, p ∈ news) (hj : j < 4) (h : (ts j, p3 (cf j) (kf j)) ∈ rest → Q (.ref (ts j)) s)
    (hs : subscripted slice false (.ref La) (.int (0 + (j : Int)) u) = operate [.ref La, .int (0 + (j : Int)) u] (getItem (.ref La) (.int (0 + (j : Int)) u))) :
    wpAny (model prog w) A (subscriptTail value slice (.ref La) (.int (0 + (j : Int)) u)) Q E s :=
  my_four N (hr _ An.hLa) hj (h (An.hts j hj)) hs
end
section
variable {prog : Program} {w : World} {A : Around} {E : Value → Shared → Prop} {s : Shared} {h₀ : Heap} {L : Addr} {m : Str → Option Value} {env : Env}
theorem mix_iterB {ax : Addr} {ts : Nat → Addr} {cf : Nat → Nat → UInt64} {kf : Nat → Nat → Tok} {k : Nat} {a1 a2 a3 a4 a5 : Nat} {o1 o2 o3 o4 o5 : Obj} {news : Led9} {elt : Expr} {x₁ x₂ x₃ : Str × Pos} {scope : Scope} {cl : List (Str × Addr)} {y : Str} {Q : Flow → Shared → Prop}
    (hm : (ax, lst [.ref (ts 0), .ref (ts 1), .ref (ts 2), .ref (ts 3)] k) ∈ news) (hts : ∀ j, j < 4 → (ts j, p3 (cf j) (kf j)) ∈ news)
    (hh : A.handled = none) (F : Fr h₀ L s.heap m) (N : News h₀ L s.heap ((a5, o5) :: (a4, o4) :: (a3, o3) :: (a2, o2) :: (a1, o1) :: news)) 
    (step : ∀ (a : Nat → UInt64) (t : Nat → Tok) nw rest C oC m₂ h tk (E' : Value → Shared → Prop), LCg.NsObj oC m₂ → m₂ x₁.1 = some (.float (a 0) (t 0)) → m₂ x₂.1 = some (.float (a 1) (t 1)) → m₂ x₃.1 = some (.float (a 2) (t 2)) → Fr h₀ L h m → News h₀ L h ((C, oC) :: (nw ++ rest)) →
      wpAny (model prog w) A (eval elt (compEnvC scope cl C env)) (TEnd h₀ L m { s with heap := h, toks := tk } ((C, oC) :: (nw ++ rest)) (fun y own => ∃ T u u', y = .ref T ∧ own = [(T, ptT a u u')])) E' { s with heap := h, toks := tk })
    (hoff : ∀ p ∈ news, p.1 < a1) (h12 : @LT.lt Nat _ a1 a2) (h23 : @LT.lt Nat _ a2 a3) (h34 : @LT.lt Nat _ a3 a4) (h45 : @LT.lt Nat _ a4 a5)
    (fin : ∀ (D : Nat) h tk (ps : Nat → Addr) U V rest, Fr h₀ L h (fun z => if z = y then some (.ref D) else m z) → News h₀ L h ((a5, o5) :: (a4, o4) :: (a3, o3) :: (a2, o2) :: (a1, o1) :: (D, lst [.ref (ps 0), .ref (ps 1), .ref (ps 2), .ref (ps 3)] 4) :: rest) →
      Anchor U V cf kf ps ts ax k a1 a2 a3 a4 a5 D rest → (∀ p ∈ news, p ∈ rest) →
      @LT.lt Nat _ a5 D → (∀ p ∈ rest, @Ne Nat p.1 a1) → (∀ p ∈ rest, @Ne Nat p.1 a2) → (∀ p ∈ rest, @Ne Nat p.1 a3) → (∀ p ∈ rest, @Ne Nat p.1 a4) → (∀ p ∈ rest, @Ne Nat p.1 a5) → Q .next { s with heap := h, toks := tk }) :
    wpAny (model prog w) A (pyIter (.ref ax)) (fun it s₂ => SrcNA prog w A h₀ L m env elt [x₁, x₂, x₃] scope cl y Q it s₂) E s :=
  mix_iterA hm hts hh F N step hoff h12 h23 h34 h45 fun D h tk ps t t' rest F' N' h1 h2 h3 h4 lD e1 e2 e3 e4 e5 => fin D h tk ps (fun j => pu (cf j)) (fun j => pv (cf j)) rest F' N' ⟨fun _ => rfl, fun _ => rfl, fun j hj => ⟨_, _, h1 j hj⟩, h3, h2⟩ h4 lD e1 e2 e3 e4 e5
end
theorem lt_up {news : Led9} {L : Nat} (h : ∀ p ∈ news, p.1 < L) : ∀ p ∈ news, p.1 < L + 1 := fun p hp => Nat.lt_succ_of_lt (h p hp)
section
variable {prog : Program} {w : World} {A : Around} {E : Value → Shared → Prop} {s : Shared} {env : Env} {h₀ : Heap} {x : Str} {body : List Stmt} {Q : Flow → Shared → Prop}
noncomputable abbrev tF (U V : Nat → UInt64) (j i : Nat) : UInt64 := Float64.sub (Float64.mul (U i) (V j)) (Float64.mul (U j) (V i))
noncomputable def TC (U V : Nat → UInt64) (j i : Nat) (v : Option Value) : Prop := ∃ t, v = some (.float (tF U V j i) t)
noncomputable def MUse (P Qm : Flow → Shared → Prop) : Prop := ∀ f s, P f s → Qm f s
theorem muse {P Qm : Flow → Shared → Prop} {f : Flow} {s : Shared} (h : MUse P Qm) (x : P f s) : Qm f s := h _ _ x
noncomputable abbrev MTurn (prog : Program) (w : World) (A : Around) (E : Value → Shared → Prop) (s : Shared) (env : Env) (h₀ : Heap) (x : Str) (body : List Stmt) (Q : Flow → Shared → Prop) (ps : Nat → Addr) (a1 a2 a3 a4 a5 D : Nat) (rest : Led9) (m₀ : Str → Option Value) (W : List Str) (C1 : Option Value → Prop) (P : Nat → Prop) (n : Nat) : Prop :=
  ∀ (i : Nat) f t h tk I oI o1 o2 o3 o4 o5 v1 v2 v3 v4 v5, i < n → P i → oI.cls = .type "range_iterator" → o1.data = .cell v1 → o2.data = .cell v2 → o3.data = .cell v3 → o4.data = .cell v4 → o5.data = .cell v5 → C1 v1 →
      @LT.lt Nat _ a1 I → @LT.lt Nat _ a2 I → @LT.lt Nat _ a3 I → @LT.lt Nat _ a4 I → @LT.lt Nat _ a5 I → @Ne Nat D I → (∀ p ∈ rest, @Ne Nat p.1 I) → 
      Fr h₀ env.locals h (fun y => if y = x then some (.int (0 + (i : Int)) t) else ovr W f m₀ y) → News h₀ env.locals h ((I, oI) :: (a5, o5) :: (a4, o4) :: (a3, o3) :: (a2, o2) :: (a1, o1) :: (D, lst [.ref (ps 0), .ref (ps 1), .ref (ps 2), .ref (ps 3)] 4) :: rest) →
      ∀ Qm : Flow → Shared → Prop, MUse (MPost h₀ env.locals { s with heap := h, toks := tk } I oI a1 a2 a3 a4 a5 ((D, lst [.ref (ps 0), .ref (ps 1), .ref (ps 2), .ref (ps 3)] 4) :: rest) W m₀ C1 (P (i + 1)) Q) Qm → wpAny (model prog w) A (execs body env) Qm E { s with heap := h, toks := tk }
noncomputable abbrev MDone (s : Shared) (env : Env) (h₀ : Heap) (Q : Flow → Shared → Prop) (ps : Nat → Addr) (a1 a2 a3 a4 a5 D : Nat) (rest : Led9) (m₀ : Str → Option Value) (W : List Str) (P : Nat → Prop) (n : Nat) : Prop :=
  ∀ f h tk o1 o2 o3 o4 o5 v1 v2 v3 v4 v5, P n → o1.data = .cell v1 → o2.data = .cell v2 → o3.data = .cell v3 → o4.data = .cell v4 → o5.data = .cell v5 → Fr h₀ env.locals h (ovr W f m₀) → News h₀ env.locals h ((a5, o5) :: (a4, o4) :: (a3, o3) :: (a2, o2) :: (a1, o1) :: (D, lst [.ref (ps 0), .ref (ps 1), .ref (ps 2), .ref (ps 3)] 4) :: rest) → Q .next { s with heap := h, toks := tk }
theorem mix_loop {ps : Nat → Addr} {a1 a2 a3 a4 a5 D : Nat} {rest : Led9}
    {r : Addr} {b₀ : Int} {t₀ u₀ v₀ : Tok} {n : Nat} {m₀ : Str → Option Value} {o1 o2 o3 o4 o5 : Obj} {v1 v2 v3 v4 v5 : Option Value} {all : Led9} (W : List Str) (C1 : Option Value → Prop) (P : Nat → Prop) (hx : x = W.headD x)
    (hh : A.handled = none) (hr : IsRange s.heap r 0 b₀ 1 t₀ u₀ v₀) (hb : b₀ = ((n : Nat) : Int)) (hn : n ≤ 4) (F : Fr h₀ env.locals s.heap m₀) (N : News h₀ env.locals s.heap all)
    (h5 : (a5, o5) ∈ all) (h4 : (a4, o4) ∈ all) (h3 : (a3, o3) ∈ all) (h2 : (a2, o2) ∈ all) (h1 : (a1, o1) ∈ all) (hD : (D, lst [.ref (ps 0), .ref (ps 1), .ref (ps 2), .ref (ps 3)] 4) ∈ all) (hre : ∀ p ∈ rest, p ∈ all)
    (d1 : o1.data = .cell v1) (d2 : o2.data = .cell v2) (d3 : o3.data = .cell v3) (d4 : o4.data = .cell v4) (d5 : o5.data = .cell v5) (hc1 : C1 v1) (hP : P 0)
    (turn : MTurn prog w A E s env h₀ x body Q ps a1 a2 a3 a4 a5 D rest m₀ W C1 P n)
    (done : MDone s env h₀ Q ps a1 a2 a3 a4 a5 D rest m₀ W P n) :
    wpAny (model prog w) A (pyIter (.ref r)) (fun it s₂ => LoopAtV prog w A h₀ env x body Q E it s₂) E s := by
  refine mix_range (rest := (D, lst [.ref (ps 0), .ref (ps 1), .ref (ps 2), .ref (ps 3)] 4) :: rest) W P C1 hx hh hr hb hn F N h5 h4 h3 h2 h1 (fun p hp => by
    rcases List.mem_cons.mp hp with rfl | hp
    · exact hD
    · exact hre p hp) d1 d2 d3 d4 d5 hc1 hP ?_ done
  intro i f t h tk I oI o1 o2 o3 o4 o5 v1 v2 v3 v4 v5 hi hPi hc d1 d2 d3 d4 d5 hc1 l1 l2 l3 l4 l5 lr F' N'
  exact turn i f t h tk I oI o1 o2 o3 o4 o5 v1 v2 v3 v4 v5 hi hPi hc d1 d2 d3 d4 d5 hc1 l1 l2 l3 l4 l5 (lr _ (.head _)) (fun p hp => lr p (.tail _ hp)) F' N' _ (fun _ _ x => x)
end
theorem sub_cons {rest all : Led9} {p : Addr × Obj} (h : p ∈ all) (h' : ∀ q ∈ rest, q ∈ all) : ∀ q ∈ p :: rest, q ∈ all := fun q hq => by
  rcases List.mem_cons.mp hq with rfl | hq
  · exact h
  · exact h' q hq
noncomputable abbrev WJ : List Str := [Str.ofString "j", Str.ofString "u", Str.ofString "v", Str.ofString "i", Str.ofString "x", Str.ofString "y", Str.ofString "k", Str.ofString "s", Str.ofString "t"]
noncomputable abbrev WI : List Str := [Str.ofString "i", Str.ofString "x", Str.ofString "y", Str.ofString "k", Str.ofString "s", Str.ofString "t"]
noncomputable abbrev WK : List Str := [Str.ofString "k", Str.ofString "s", Str.ofString "t"]
noncomputable abbrev dF (U V : Nat → UInt64) (j i : Nat) : UInt64 := Float64.add (Float64.mul (U i) (U j)) (Float64.mul (V i) (V j))
noncomputable abbrev aF (U V : Nat → UInt64) (j k : Nat) : UInt64 := Float64.sub (Float64.mul (U j) (V k)) (Float64.mul (U k) (V j))
noncomputable abbrev bF (U V : Nat → UInt64) (i k : Nat) : UInt64 := Float64.sub (Float64.mul (U k) (V i)) (Float64.mul (U i) (V k))
noncomputable abbrev isE (x : UInt64) : Bool := Float64.cmpInt x 0 == some .eq
noncomputable abbrev isL (x : UInt64) : Bool := Float64.cmpInt x 0 == some .lt
noncomputable abbrev isG (x : UInt64) : Bool := Float64.cmpInt x 0 == some .gt
/-- two colours that mix to a grey -/
noncomputable def Two (U V : Nat → UInt64) (j i : Nat) : Prop := isE (tF U V j i) = true ∧ isL (dF U V j i) = true
/-- three colours that mix to a grey -/
noncomputable def Three (U V : Nat → UInt64) (j i k : Nat) : Prop := isG (Float64.mul (tF U V j i) (aF U V j k)) = true ∧ isG (Float64.mul (tF U V j i) (bF U V i k)) = true
noncomputable def PK (U V : Nat → UInt64) (j i k : Nat) : Prop := ∀ k', k' < k → ¬ Three U V j i k'
noncomputable def PI (U V : Nat → UInt64) (j i : Nat) : Prop := ∀ i', i' < i → ¬ Two U V j i' ∧ PK U V j i' i'
noncomputable def PJ (U V : Nat → UInt64) (j : Nat) : Prop := ∀ j', j' < j → PI U V j' j'
theorem PJ0 {U V : Nat → UInt64} : PJ U V 0 := fun _ h => absurd h (Nat.not_lt_zero _)
theorem PI0 {U V : Nat → UInt64} {j : Nat} : PI U V j 0 := fun _ h => absurd h (Nat.not_lt_zero _)
theorem PK0 {U V : Nat → UInt64} {j i : Nat} : PK U V j i 0 := fun _ h => absurd h (Nat.not_lt_zero _)
theorem lt_s {a b : Nat} (h : a < b + 1) : a < b ∨ a = b := by omega
theorem PKs {U V : Nat → UInt64} {j i k : Nat} (h : PK U V j i k) (h' : ¬ Three U V j i k) : PK U V j i (k + 1) := fun k' hk => by
  rcases lt_s hk with l | rfl
  · exact h k' l
  · exact h'
theorem PIs {U V : Nat → UInt64} {j i : Nat} (h : PI U V j i) (h' : ¬ Two U V j i) (h2 : PK U V j i i) : PI U V j (i + 1) := fun k' hk => by
  rcases lt_s hk with l | rfl
  · exact h k' l
  · exact ⟨h', h2⟩
theorem PJs {U V : Nat → UInt64} {j : Nat} (h : PJ U V j) (h2 : PI U V j j) : PJ U V (j + 1) := fun k' hk => by
  rcases lt_s hk with l | rfl
  · exact h k' l
  · exact h2
theorem PKs1 {U V : Nat → UInt64} {j i k : Nat} (h : PK U V j i k) (h' : isG (Float64.mul (tF U V j i) (aF U V j k)) = false) : PK U V j i (k + 1) := PKs h fun q => by rw [Three, h'] at q; exact Bool.noConfusion q.1
theorem PKs2 {U V : Nat → UInt64} {j i k : Nat} (h : PK U V j i k) (h' : isG (Float64.mul (tF U V j i) (bF U V i k)) = false) : PK U V j i (k + 1) := PKs h fun q => by rw [Three, h'] at q; exact Bool.noConfusion q.2
theorem PIs1 {U V : Nat → UInt64} {j i : Nat} (h : PI U V j i) (h' : isE (tF U V j i) = false) (h2 : PK U V j i i) : PI U V j (i + 1) := PIs h (fun q => by rw [Two, h'] at q; exact Bool.noConfusion q.1) h2
theorem PIs2 {U V : Nat → UInt64} {j i : Nat} (h : PI U V j i) (h' : isL (dF U V j i) = false) (h2 : PK U V j i i) : PI U V j (i + 1) := PIs h (fun q => by rw [Two, h'] at q; exact Bool.noConfusion q.2) h2
noncomputable def mixTwo (cf : Nat → Nat → UInt64) (U V : Nat → UInt64) (j i : Nat) (c : Nat) : UInt64 :=
  Float64.add (Float64.mul (Float64.add (Float64.abs (U j)) (Float64.abs (V j))) (cf i c)) (Float64.mul (Float64.add (Float64.abs (U i)) (Float64.abs (V i))) (cf j c))
noncomputable def mixThree (cf : Nat → Nat → UInt64) (U V : Nat → UInt64) (j i k : Nat) (c : Nat) : UInt64 :=
  Float64.add (Float64.add (Float64.mul (Float64.abs (aF U V j k)) (cf i c)) (Float64.mul (Float64.abs (bF U V i k)) (cf j c))) (Float64.mul (Float64.abs (tF U V j i)) (cf k c))
/-- what the mix hands back -/
noncomputable def MixOutU (cf : Nat → Nat → UInt64) (U V : Nat → UInt64) (res : Value) (own : Led9) : Prop :=
  (∃ T n, res = .ref T ∧ own = [(T, lst [] n)] ∧ PJ U V 4) ∨
  (∃ T i j t, (∀ c, t c ≠ 0) ∧ i < j ∧ j < 4 ∧ Two U V j i ∧ res = .ref T ∧ own = [(T, LCg.lst (f3 (mixTwo cf U V j i) t))]) ∨
  (∃ T i j k t, (∀ c, t c ≠ 0) ∧ k < i ∧ i < j ∧ j < 4 ∧ Three U V j i k ∧ res = .ref T ∧ own = [(T, LCg.lst (f3 (mixThree cf U V j i k) t))])
noncomputable abbrev MixOut (cf : Nat → Nat → UInt64) (res : Value) (own : Led9) : Prop := MixOutU cf (fun j => pu (cf j)) (fun j => pv (cf j)) res own
theorem mixout0 {cf : Nat → Nat → UInt64} {U V : Nat → UInt64} {T : Addr} {n : Nat} (h : PJ U V 4) : MixOutU cf U V (.ref T) [(T, lst [] n)] := .inl ⟨T, n, rfl, rfl, h⟩
theorem mixout2 {cf : Nat → Nat → UInt64} {U V : Nat → UInt64} {T : Addr} {i j : Nat} {t : Nat → Tok} (ht : ∀ c, t c ≠ 0) (h1 : i < j) (h2 : j < 4) (h3 : isE (tF U V j i) = true) (h4 : isL (dF U V j i) = true) : MixOutU cf U V (.ref T) [(T, LCg.lst (f3 (mixTwo cf U V j i) t))] := .inr (.inl ⟨T, i, j, t, ht, h1, h2, ⟨h3, h4⟩, rfl, rfl⟩)
theorem mixout3 {cf : Nat → Nat → UInt64} {U V : Nat → UInt64} {T : Addr} {i j k : Nat} {t : Nat → Tok} (ht : ∀ c, t c ≠ 0) (h0 : k < i) (h1 : i < j) (h2 : j < 4) (h3 : isG (Float64.mul (tF U V j i) (aF U V j k)) = true) (h4 : isG (Float64.mul (tF U V j i) (bF U V i k)) = true) : MixOutU cf U V (.ref T) [(T, LCg.lst (f3 (mixThree cf U V j i k) t))] := .inr (.inr ⟨T, i, j, k, t, ht, h0, h1, h2, ⟨h3, h4⟩, rfl, rfl⟩)
section
variable {prog : Program} {w : World} {A : Around} {E : Value → Shared → Prop} {s : Shared} {env : Env} {h₀ : Heap} {x : Str} {body : List Stmt} {Q : Flow → Shared → Prop}
noncomputable abbrev MTurnK (prog : Program) (w : World) (A : Around) (E : Value → Shared → Prop) (s : Shared) (env : Env) (h₀ : Heap) (x : Str) (body : List Stmt) (Q : Flow → Shared → Prop) (ps : Nat → Addr) (a1 a2 a3 a4 a5 D : Nat) (rest : Led9) (m₀ : Str → Option Value) (U V : Nat → UInt64) (j i : Nat) : Prop :=
  ∀ (k : Nat) f t h tk I oI o1 o2 o3 o4 o5 t1 v2 v3 v4 v5, k < i → PK U V j i k → oI.cls = .type "range_iterator" → o1.data = .cell (some (.float (tF U V j i) t1)) → o2.data = .cell v2 → o3.data = .cell v3 → o4.data = .cell v4 → o5.data = .cell v5 →
      @LT.lt Nat _ a1 I → @LT.lt Nat _ a2 I → @LT.lt Nat _ a3 I → @LT.lt Nat _ a4 I → @LT.lt Nat _ a5 I → @Ne Nat D I → (∀ p ∈ rest, @Ne Nat p.1 I) → 
      Fr h₀ env.locals h (fun y => if y = x then some (.int (0 + (k : Int)) t) else ovr WK f m₀ y) → News h₀ env.locals h ((I, oI) :: (a5, o5) :: (a4, o4) :: (a3, o3) :: (a2, o2) :: (a1, o1) :: (D, lst [.ref (ps 0), .ref (ps 1), .ref (ps 2), .ref (ps 3)] 4) :: rest) →
      ∀ Qm : Flow → Shared → Prop, MUse (MPost h₀ env.locals { s with heap := h, toks := tk } I oI a1 a2 a3 a4 a5 ((D, lst [.ref (ps 0), .ref (ps 1), .ref (ps 2), .ref (ps 3)] 4) :: rest) WK m₀ (TC U V j i) (PK U V j i (k + 1)) Q) Qm → wpAny (model prog w) A (execs body env) Qm E { s with heap := h, toks := tk }
theorem mix_loopJ {cf : Nat → Nat → UInt64} {kf : Nat → Nat → Tok} {ps ts : Nat → Addr} {La : Addr} {k : Nat} {a1 a2 a3 a4 a5 D : Nat} {rest : Led9} {U V : Nat → UInt64} (_An : Anchor U V cf kf ps ts La k a1 a2 a3 a4 a5 D rest)
    {r : Addr} {b₀ : Int} {t₀ u₀ v₀ : Tok}  {m₀ : Str → Option Value} {o1 o2 o3 o4 o5 : Obj} {v1 v2 v3 v4 v5 : Option Value} {all : Led9} (hx : x = WJ.headD x)
    (hh : A.handled = none) (hr : IsRange s.heap r 0 b₀ 1 t₀ u₀ v₀) (hb : b₀ = ((4 : Nat) : Int)) (hn : 4 ≤ 4) (F : Fr h₀ env.locals s.heap m₀) (N : News h₀ env.locals s.heap all)
    (h5 : (a5, o5) ∈ all) (h4 : (a4, o4) ∈ all) (h3 : (a3, o3) ∈ all) (h2 : (a2, o2) ∈ all) (h1 : (a1, o1) ∈ all) (hD : (D, lst [.ref (ps 0), .ref (ps 1), .ref (ps 2), .ref (ps 3)] 4) ∈ all) (hre : ∀ p ∈ rest, p ∈ all)
    (d1 : o1.data = .cell v1) (d2 : o2.data = .cell v2) (d3 : o3.data = .cell v3) (d4 : o4.data = .cell v4) (d5 : o5.data = .cell v5) 
    (turn : MTurn prog w A E s env h₀ x body Q ps a1 a2 a3 a4 a5 D rest m₀ WJ (fun _ => True) (PJ U V) 4)
    (done : MDone s env h₀ Q ps a1 a2 a3 a4 a5 D rest m₀ WJ (PJ U V) 4) :
    wpAny (model prog w) A (pyIter (.ref r)) (fun it s₂ => LoopAtV prog w A h₀ env x body Q E it s₂) E s := mix_loop WJ (fun _ => True) (PJ U V) hx hh hr hb hn F N h5 h4 h3 h2 h1 hD hre d1 d2 d3 d4 d5 trivial PJ0 turn done
theorem mix_loopI {cf : Nat → Nat → UInt64} {kf : Nat → Nat → Tok} {ps ts : Nat → Addr} {La : Addr} {k : Nat} {a1 a2 a3 a4 a5 D : Nat} {rest : Led9} {U V : Nat → UInt64} (_An : Anchor U V cf kf ps ts La k a1 a2 a3 a4 a5 D rest)
    {r : Addr} {b₀ : Int} {t₀ u₀ v₀ : Tok} {j : Nat} {m₀ : Str → Option Value} {o1 o2 o3 o4 o5 : Obj} {v1 v2 v3 v4 v5 : Option Value} {all : Led9} (hx : x = WI.headD x)
    (hh : A.handled = none) (hr : IsRange s.heap r 0 b₀ 1 t₀ u₀ v₀) (hb : b₀ = ((j : Nat) : Int)) (hn : j ≤ 4) (F : Fr h₀ env.locals s.heap m₀) (N : News h₀ env.locals s.heap all)
    (h5 : (a5, o5) ∈ all) (h4 : (a4, o4) ∈ all) (h3 : (a3, o3) ∈ all) (h2 : (a2, o2) ∈ all) (h1 : (a1, o1) ∈ all) (hD : (D, lst [.ref (ps 0), .ref (ps 1), .ref (ps 2), .ref (ps 3)] 4) ∈ all) {J1 : Nat} {oJ1 : Obj} (hJ1 : (J1, oJ1) ∈ all) (hre : ∀ p ∈ rest, p ∈ all)
    (d1 : o1.data = .cell v1) (d2 : o2.data = .cell v2) (d3 : o3.data = .cell v3) (d4 : o4.data = .cell v4) (d5 : o5.data = .cell v5) 
    (turn : MTurn prog w A E s env h₀ x body Q ps a1 a2 a3 a4 a5 D ((J1, oJ1) :: rest) m₀ WI (fun _ => True) (PI U V j) j)
    (done : MDone s env h₀ Q ps a1 a2 a3 a4 a5 D ((J1, oJ1) :: rest) m₀ WI (PI U V j) j) :
    wpAny (model prog w) A (pyIter (.ref r)) (fun it s₂ => LoopAtV prog w A h₀ env x body Q E it s₂) E s := mix_loop (rest := (J1, oJ1) :: rest) WI (fun _ => True) (PI U V j) hx hh hr hb hn F N h5 h4 h3 h2 h1 hD (sub_cons hJ1 hre) d1 d2 d3 d4 d5 trivial PI0 turn done
theorem mix_loopK {cf : Nat → Nat → UInt64} {kf : Nat → Nat → Tok} {ps ts : Nat → Addr} {La : Addr} {k : Nat} {a1 a2 a3 a4 a5 D : Nat} {rest : Led9} {U V : Nat → UInt64} (_An : Anchor U V cf kf ps ts La k a1 a2 a3 a4 a5 D rest)
    {r : Addr} {b₀ : Int} {t₀ u₀ v₀ : Tok} {j i : Nat} {tj : Tok} {m₀ : Str → Option Value} {o1 o2 o3 o4 o5 : Obj} {v1 v2 v3 v4 v5 : Option Value} {all : Led9} (hx : x = WK.headD x)
    (hh : A.handled = none) (hr : IsRange s.heap r 0 b₀ 1 t₀ u₀ v₀) (hb : b₀ = ((i : Nat) : Int)) (hn : i ≤ 4) (F : Fr h₀ env.locals s.heap m₀) (N : News h₀ env.locals s.heap all)
    (h5 : (a5, o5) ∈ all) (h4 : (a4, o4) ∈ all) (h3 : (a3, o3) ∈ all) (h2 : (a2, o2) ∈ all) (h1 : (a1, o1) ∈ all) (hD : (D, lst [.ref (ps 0), .ref (ps 1), .ref (ps 2), .ref (ps 3)] 4) ∈ all) {J1 J2 : Nat} {oJ1 oJ2 : Obj} (hJ1 : (J1, oJ1) ∈ all) (hJ2 : (J2, oJ2) ∈ all) (hre : ∀ p ∈ rest, p ∈ all)
    (d1 : o1.data = .cell v1) (d2 : o2.data = .cell v2) (d3 : o3.data = .cell v3) (d4 : o4.data = .cell v4) (d5 : o5.data = .cell v5) (_hj : m₀ (Str.ofString "j") = some (.int (0 + (j : Int)) tj)) (hc1 : TC U V j i v1)
    (turn : MTurnK prog w A E s env h₀ x body Q ps a1 a2 a3 a4 a5 D ((J1, oJ1) :: (J2, oJ2) :: rest) m₀ U V j i)
    (done : MDone s env h₀ Q ps a1 a2 a3 a4 a5 D ((J1, oJ1) :: (J2, oJ2) :: rest) m₀ WK (PK U V j i) i) :
    wpAny (model prog w) A (pyIter (.ref r)) (fun it s₂ => LoopAtV prog w A h₀ env x body Q E it s₂) E s := mix_loop (rest := (J1, oJ1) :: (J2, oJ2) :: rest) WK (TC U V j i) (PK U V j i) hx hh hr hb hn F N h5 h4 h3 h2 h1 hD (sub_cons hJ1 (sub_cons hJ2 hre)) d1 d2 d3 d4 d5 hc1 PK0 (fun k f t h tk I oI o1 o2 o3 o4 o5 v1 v2 v3 v4 v5 hi hPi hc d1 d2 d3 d4 d5 hc1 => by obtain ⟨t1, rfl⟩ := hc1; exact turn k f t h tk I oI o1 o2 o3 o4 o5 t1 v2 v3 v4 v5 hi hPi hc d1 d2 d3 d4 d5) done
end
theorem sub_mem {rest all : Led9} {p : Addr × Obj} (h : ∀ q ∈ rest, q ∈ all) : ∀ q ∈ rest, q ∈ p :: all := fun q hq => .tail _ (h q hq)
theorem sub_self {rest : Led9} : ∀ q ∈ rest, q ∈ rest := fun _ h => h
theorem le4 {j : Nat} (h : j < 4) : j ≤ 4 := Nat.le_of_lt h
theorem z_add (j : Nat) : 0 + (j : Int) = (j : Int) := Int.zero_add _
theorem my_isTup {h₀ h : Heap} {L b : Addr} {all : Led9} {vs : List Value} (N : News h₀ L h all) (hm : (b, tup vs) ∈ all) : IsTup h b vs.toArray := ⟨_, (N _ hm).1, rfl, _, rfl⟩
section
variable {M : Model} {A : Around} {E : Value → Shared → Prop} {s : Shared} {h₀ : Heap} {m : Str → Option Value} {env : Env} {x : Str} {v : Value} {news : Led9}
theorem my_storeL {Q : Unit → Shared → Prop} (F : Fr h₀ env.locals s.heap m) (N : News h₀ env.locals s.heap news) (hk : env.kindOf x = some .local) (hp : (env.scope.kind == .class || (env.scope.kind == .module && env.locals != env.globals)) = false)
    (h : ∀ h' tk, Fr h₀ env.locals h' (fun y => if y = x then some v else m y) → News h₀ env.locals h' news → Q () { s with heap := h', toks := tk }) : wpAny M A (storeName env x v) Q E s := by
  refine wpAny_storeName_local hk F.ns (fun h' hn hs => ?_) hp
  have hL₀ : h₀.get? env.locals = none := Heap.get?_none_of_le F.above
  exact h h' _ ⟨hn, fun b o e => hs.extBut b o (fun q => by rw [q, hL₀] at e; cases e) (F.keep b o e), F.above⟩ fun p hp => ⟨hs.extBut _ _ (N p hp).2.1 (N p hp).1, (N p hp).2⟩
theorem my_storeC {Q : Unit → Shared → Prop} {c : Addr} {o : Obj} {g : Obj → Led9} {v₀ : Option Value} (F : Fr h₀ env.locals s.heap m) (N : News h₀ env.locals s.heap news) (hk : env.scope.kind = .function) (hx : env.kindOf x = some .cell) (hc : env.cells.lookup x = some c) (U : UpdF c o news g) (hd : o.data = .cell v₀)
    (h : ∀ h' o', Fr h₀ env.locals h' m → News h₀ env.locals h' (g o') → o'.data = .cell (some v) → Q () { s with heap := h' }) : wpAny M A (storeName env x v) Q E s := by
  obtain ⟨own, rest, rfl, hg, h1, h2⟩ := U.split
  have hmem := N (c, o) (List.mem_append_right _ (.head _))
  refine wpAny_storeName_cell hk hx hc ⟨o, hmem.1, hd⟩ fun h' hv hs => ?_
  obtain ⟨o', ho', hd'⟩ := hv
  refine h h' o' ⟨F.ns.sameBut hs (Ne.symm hmem.2.1), fun b ob e => (hs.2 b (fun q => ?_)).trans (F.keep b ob e), F.above⟩ (hg o' ▸ N.setAt h1 h2 hs ho') hd'
  rw [q, hmem.2.2] at e; cases e
end
local macro_rules | `(tactic| k_mem) => `(tactic| first | exact List.Mem.head _ | (with_reducible assumption) | (refine List.mem_cons_of_mem _ ?_; k_mem))
local macro_rules | `(tactic| k_all) => `(tactic| with_reducible assumption)
section
variable {prog : Program} {w : World} {A : Around} {E : Value → Shared → Prop} {s : Shared} {h₀ : Heap} {L : Addr} {m : Str → Option Value} {env : Env}
theorem mix_zip2 {cf : Nat → Nat → UInt64} {kf : Nat → Nat → Tok} {ps ts : Nat → Addr} {La : Addr} {k : Nat} {a1 a2 a3 a4 a5 D : Nat} {rest : Led9} {U V : Nat → UInt64} (_An : Anchor U V cf kf ps ts La k a1 a2 a3 a4 a5 D rest)
    {b i j : Nat} {news : Led9} {elt : Expr} {x₁ x₂ : Str × Pos} {scope : Scope} {cl : List (Str × Addr)} {Q : Value → Shared → Prop} {o2 o3 : Obj} {one two : UInt64} {t2 t3 : Tok}
    (Z : ZB h₀ L m news s.heap b) (hz : ZSt2 b (ts i) (ts j) (f3 (cf i) (kf i)) (f3 (cf j) (kf j)) 0 s.heap) (hh : A.handled = none) (m1 : (ts i, p3 (cf i) (kf i)) ∈ news) (m2 : (ts j, p3 (cf j) (kf j)) ∈ news)
    (_h2 : (a2, o2) ∈ news) (_h3 : (a3, o3) ∈ news) (_d2 : o2.data = .cell (some (.float one t2))) (_d3 : o3.data = .cell (some (.float two t3)))
    (step : ∀ c rest C oC m₂ h tk (E' : Value → Shared → Prop), c < 3 → LCg.NsObj oC m₂ → m₂ x₁.1 = some (.float (cf i c) (kf i c)) → m₂ x₂.1 = some (.float (cf j c) (kf j c)) → Fr h₀ L h m → News h₀ L h ((C, oC) :: (news ++ rest)) →
      wpAny (model prog w) A (eval elt (compEnvC scope cl C env)) (TEnd h₀ L m { s with heap := h, toks := tk } ((C, oC) :: (news ++ rest)) (fun y own => own = [] ∧ ∃ t, t ≠ 0 ∧ y = .float (Float64.add (Float64.mul one (cf i c)) (Float64.mul two (cf j c))) t)) E' { s with heap := h, toks := tk })
    (fin : ∀ D h tk (t : Nat → Tok), (∀ c, t c ≠ 0) → Fr h₀ L h m → News h₀ L h ((D, LCg.lst (f3 (fun c => Float64.add (Float64.mul one (cf i c)) (Float64.mul two (cf j c))) t)) :: news) → (∀ p ∈ news, p.1 < D) → Q (.ref D) { s with heap := h, toks := tk }) :
    wpAny (model prog w) A (pyIter (.ref (b + 4 : Nat))) (fun it s₂ => SrcN prog w A h₀ L m env elt [x₁, x₂] scope cl Q it s₂) E s :=
  zip2_iter (g := fun c => Float64.add (Float64.mul one (cf i c)) (Float64.mul two (cf j c))) Z hz hh m1 m2 step fin
theorem mix_zip3 {cf : Nat → Nat → UInt64} {kf : Nat → Nat → Tok} {ps ts : Nat → Addr} {La : Addr} {k : Nat} {a1 a2 a3 a4 a5 D : Nat} {rest : Led9} {U V : Nat → UInt64} (_An : Anchor U V cf kf ps ts La k a1 a2 a3 a4 a5 D rest)
    {b i j k : Nat} {news : Led9} {elt : Expr} {x₁ x₂ x₃ : Str × Pos} {scope : Scope} {cl : List (Str × Addr)} {Q : Value → Shared → Prop} {o1 o4 o5 : Obj} {turn ahead back : UInt64} {t1 t4 t5 : Tok}
    (Z : ZB h₀ L m news s.heap b) (hz : ZSt3 b (ts i) (ts j) (ts k) (f3 (cf i) (kf i)) (f3 (cf j) (kf j)) (f3 (cf k) (kf k)) 0 s.heap) (hh : A.handled = none) (m1 : (ts i, p3 (cf i) (kf i)) ∈ news) (m2 : (ts j, p3 (cf j) (kf j)) ∈ news) (m3 : (ts k, p3 (cf k) (kf k)) ∈ news)
    (_h1 : (a1, o1) ∈ news) (_h4 : (a4, o4) ∈ news) (_h5 : (a5, o5) ∈ news) (_d1 : o1.data = .cell (some (.float turn t1))) (_d4 : o4.data = .cell (some (.float ahead t4))) (_d5 : o5.data = .cell (some (.float back t5)))
    (step : ∀ c rest C oC m₂ h tk (E' : Value → Shared → Prop), c < 3 → LCg.NsObj oC m₂ → m₂ x₁.1 = some (.float (cf i c) (kf i c)) → m₂ x₂.1 = some (.float (cf j c) (kf j c)) → m₂ x₃.1 = some (.float (cf k c) (kf k c)) → Fr h₀ L h m → News h₀ L h ((C, oC) :: (news ++ rest)) →
      wpAny (model prog w) A (eval elt (compEnvC scope cl C env)) (TEnd h₀ L m { s with heap := h, toks := tk } ((C, oC) :: (news ++ rest)) (fun y own => own = [] ∧ ∃ t, t ≠ 0 ∧ y = .float (Float64.add (Float64.add (Float64.mul (Float64.abs ahead) (cf i c)) (Float64.mul (Float64.abs back) (cf j c))) (Float64.mul (Float64.abs turn) (cf k c))) t)) E' { s with heap := h, toks := tk })
    (fin : ∀ D h tk (t : Nat → Tok), (∀ c, t c ≠ 0) → Fr h₀ L h m → News h₀ L h ((D, LCg.lst (f3 (fun c => Float64.add (Float64.add (Float64.mul (Float64.abs ahead) (cf i c)) (Float64.mul (Float64.abs back) (cf j c))) (Float64.mul (Float64.abs turn) (cf k c))) t)) :: news) → (∀ p ∈ news, p.1 < D) → Q (.ref D) { s with heap := h, toks := tk }) :
    wpAny (model prog w) A (pyIter (.ref (b + 5 : Nat))) (fun it s₂ => SrcN prog w A h₀ L m env elt [x₁, x₂, x₃] scope cl Q it s₂) E s :=
  zip3_iter (g := fun c => Float64.add (Float64.add (Float64.mul (Float64.abs ahead) (cf i c)) (Float64.mul (Float64.abs back) (cf j c))) (Float64.mul (Float64.abs turn) (cf k c))) Z hz hh m1 m2 m3 step fin
end
theorem muse_ret {h₀ : Heap} {L : Addr} {s : Shared} {I : Addr} {oI : Obj} {a1 a2 a3 a4 a5 : Addr} {rest : Led9} {W : List Str} {m₀ : Str → Option Value} {C1 : Option Value → Prop} {P : Prop} {Q Qm : Flow → Shared → Prop} {v : Value} {s₃ : Shared} (h : MUse (MPost h₀ L s I oI a1 a2 a3 a4 a5 rest W m₀ C1 P Q) Qm) (x : Q (.ret v) s₃) : Qm (.ret v) s₃ := h _ _ (mpost_ret x)
theorem nin_ne {W : List Str} {z x : Str} (hz : z ∉ W) (hx : x ∈ W) : ¬ z = x := fun e => hz (e ▸ hx)
theorem mpost_up {h₀ : Heap} {L : Addr} {s : Shared} {I : Addr} {oI : Obj} {a1 a2 a3 a4 a5 : Addr} {dl : Addr × Obj} {rest : Led9} {W : List Str} {m₀ : Str → Option Value} {C1 : Option Value → Prop} {P : Prop} {Q : Flow → Shared → Prop} {h' : Heap} {tk : Nat} {m' : Str → Option Value} {o1 o2 o3 o4 o5 : Obj} {v1 v2 v3 v4 v5 : Option Value}
    (F : Fr h₀ L h' m') (N : News h₀ L h' ((a5, o5) :: (a4, o4) :: (a3, o3) :: (a2, o2) :: (a1, o1) :: dl :: (I, oI) :: rest))
    (d1 : o1.data = .cell v1) (d2 : o2.data = .cell v2) (d3 : o3.data = .cell v3) (d4 : o4.data = .cell v4) (d5 : o5.data = .cell v5) (hc : C1 v1) (hm : ∀ z, z ∉ W → m' z = m₀ z) (hP : P) :
    MPost h₀ L s I oI a1 a2 a3 a4 a5 (dl :: rest) W m₀ C1 P Q .next { s with heap := h', toks := tk } := by
  refine ⟨h', tk, m', o1, o2, o3, o4, o5, v1, v2, v3, v4, v5, rfl, F, fun p hp => N p (mem_swap [_] [_, _, _, _, _, _] hp), d1, d2, d3, d4, d5, hc, hm, hP⟩
theorem mpost_upK {h₀ : Heap} {L : Addr} {s : Shared} {I : Addr} {oI : Obj} {a1 a2 a3 a4 a5 : Addr} {x dl : Addr × Obj} {rest : Led9} {W : List Str} {m₀ : Str → Option Value} {C1 : Option Value → Prop} {P : Prop} {Q : Flow → Shared → Prop} {h' : Heap} {tk : Nat} {m' : Str → Option Value} {o1 o2 o3 o4 o5 : Obj} {v1 v2 v3 v4 v5 : Option Value}
    (F : Fr h₀ L h' m') (N : News h₀ L h' (x :: (I, oI) :: (a5, o5) :: (a4, o4) :: (a3, o3) :: (a2, o2) :: (a1, o1) :: dl :: rest))
    (d1 : o1.data = .cell v1) (d2 : o2.data = .cell v2) (d3 : o3.data = .cell v3) (d4 : o4.data = .cell v4) (d5 : o5.data = .cell v5) (hc : C1 v1) (hm : ∀ z, z ∉ W → m' z = m₀ z) (hP : P) :
    MPost h₀ L s I oI a1 a2 a3 a4 a5 (dl :: rest) W m₀ C1 P Q .next { s with heap := h', toks := tk } :=
  ⟨h', tk, m', o1, o2, o3, o4, o5, v1, v2, v3, v4, v5, rfl, F, fun p hp => N p (.tail _ hp), d1, d2, d3, d4, d5, hc, hm, hP⟩
theorem allLt_to {d : Addr} {l : Led9} : AllLt d l → ∀ p ∈ l, p.1 < d := by
  induction l with
  | nil => intro _ p hp; cases hp
  | cons q r ih =>
    intro h p hp
    rcases List.mem_cons.mp hp with rfl | hp
    · exact h.1
    · exact ih h.2 p hp
theorem mix_ret {cf : Nat → Nat → UInt64} {kf : Nat → Nat → Tok} {ps ts : Nat → Addr} {La : Addr} {k : Nat} {a1 a2 a3 a4 a5 D : Nat} {rest : Led9} {U V : Nat → UInt64} (An : Anchor U V cf kf ps ts La k a1 a2 a3 a4 a5 D rest)
    {news : Led9} {h₀ : Heap} {L : Addr} {m : Str → Option Value} {s : Shared} {Q : Value → Shared → Prop} 
    (hret : ∀ r own h' tk', MixOut cf r own → Fr h₀ L h' m → News h₀ L h' (own ++ news) → (∀ q ∈ own, ∀ p ∈ news, p.1 < q.1) → Q r { s with heap := h', toks := tk' })
    {T : Addr} {o : Obj} {h' : Heap} {tk : Nat} {all : Led9} (F : Fr h₀ L h' m) (N : News h₀ L h' ((T, o) :: all)) (hs : ∀ p ∈ news, p ∈ all) (l : AllLt T all) (ho : MixOutU cf U V (.ref T) [(T, o)]) : Q (.ref T) { s with heap := h', toks := tk } := by
  obtain ⟨hU, hV, _, _, _⟩ := An
  obtain rfl : U = fun j => pu (cf j) := funext hU
  obtain rfl : V = fun j => pv (cf j) := funext hV
  refine hret _ [(T, o)] _ _ ho F (fun p hp => N p ?_) (ord1 fun p hp => allLt_to l p (hs p hp))
  rcases List.mem_cons.mp hp with rfl | hp
  · exact .head _
  · exact .tail _ (hs p hp)
theorem tend1 {h₀ : Heap} {L : Addr} {m : Str → Option Value} {s : Shared} {all : Led9} {K : Value → Led9 → Prop} {y : Value} {h' : Heap} {tk : Nat} {D : Addr} {o : Obj} (F : Fr h₀ L h' m) (N : News h₀ L h' ((D, o) :: all)) (l : AllLt D all) (k : K y [(D, o)]) :
    TEnd h₀ L m s all K y { s with heap := h', toks := tk } := tend [(D, o)] F N (ord1 (allLt_to l)) k
theorem tend0 {h₀ : Heap} {L : Addr} {m : Str → Option Value} {s : Shared} {all : Led9} {K : Value → Led9 → Prop} {y : Value} {h' : Heap} {tk : Nat} (F : Fr h₀ L h' m) (N : News h₀ L h' all) (k : K y []) :
    TEnd h₀ L m s all K y { s with heap := h', toks := tk } := tend [] F N (fun _ h => nomatch h) k
set_option maxHeartbeats 8000000 in
theorem c_mix {prog : Program} {w : World} {p : Program} {loose : List Str} {mean : ExcName → Option Value} {mg mb : Str → Option Value} (news : Led9) (La : Addr) (ts : Nat → Addr) (n : Nat) (cf : Nat → Nat → UInt64) (kf : Nat → Nat → Tok)
  (hm : (La, lst [.ref (ts 0), .ref (ts 1), .ref (ts 2), .ref (ts 3)] n) ∈ news) (hts : ∀ j, j < 4 → (ts j, p3 (cf j) (kf j)) ∈ news) :
  PureC prog w (hd.heap_39 w.params) p loose mean mg mb 6 219 news [.ref La] (MixOut cf) := by
  unfold PureC
  intro dp un gd cn cs a ccd cl outer A₀ base h₀ L m s Q E B F X N T hk hd9 hu hret
  refine wpAny_call ?_
  k_dflt (first | (refine' code_def ?ce_k1 ?ce_k2 ?ce_k3 ?ce_k4 ?ce_k5 ?ce_kA ?ce_kF ?ce_kK ?ce_k6 ?ce_k7 ?ce_k8 ?ce_k9 ?ce_kB ?_ ?ce_c2 ?ce_c3 ?ce_c4 ?ce_c5; (case ce_kA => exact rfl); (case ce_kF => exact rfl); (case ce_kK => assumption); (case ce_k1 => k_asm); (case ce_k2 => k_asm); (case ce_k3 => k_asm); (case ce_k4 => k_asm); (case ce_k5 => k_asm); (case ce_k6 => k_is); (case ce_k7 => k_is); (case ce_k8 => ktr_room); (case ce_k9 => first | exact BindsTo.of_eq rfl | exact binds_K (by k_in) rfl (by k_is) rfl rfl rfl | (refine' kp_binds ?ce_kx ?ce_ke; (case ce_kx => k_in); (case ce_ke => exact fun _ => rfl))); (case ce_c5 => decide); (case ce_kB => exact locs rfl); (case ce_c2 => exact rfl); (case ce_c3 => exact rfl); (case ce_c4 => exact rfl); k_whole; intro g' L' h' FG' F' N' B' X' T'; (try dsimp only); (try k_fold)) | (refine' code_defC ?ce_k1 ?ce_k2 ?ce_k3 ?ce_k4 ?ce_k5 ?ce_kA ?ce_kF ?ce_kK ?ce_k6 ?ce_k7 ?ce_k8 ?ce_k9 ?ce_kB ?ce_kD ?_ ?ce_c2 ?ce_c3 ?ce_c4; (case ce_kA => exact rfl); (case ce_kF => exact rfl); (case ce_kK => assumption); (case ce_k1 => k_asm); (case ce_k2 => k_asm); (case ce_k3 => k_asm); (case ce_k4 => k_asm); (case ce_k5 => k_asm); (case ce_k6 => k_is); (case ce_k7 => k_is); (case ce_k8 => ktr_room); (case ce_k9 => first | exact BindsTo.of_eq rfl | exact binds_K (by k_in) rfl (by k_is) rfl rfl rfl | (refine' kp_binds ?ce_kx ?ce_ke; (case ce_kx => k_in); (case ce_ke => exact fun _ => rfl))); (case ce_kB => exact rfl); (case ce_kD => decide +kernel); (case ce_c2 => exact rfl); (case ce_c3 => exact rfl); (case ce_c4 => exact rfl); k_whole; intro g' L' h' tk' cells' FG' F' N' Y' B' X' T' l1; (try k_lt l1); k_cells Y'; (try simp only [List.cons_append, List.nil_append] at N'); (try dsimp only); (try k_fold)))
  (repeat' (first
    | (k_unfold; (try dsimp only))
    | (k_end; wrow_close)
    | (k_here; (with_reducible show wpAny _ _ (subscriptTail (PySem.Expr.Name _ _) (PySem.Expr.Name _ _) (Value.ref _) (Value.int _ _)) _ _ _); k_dflt (first | (refine' my_point (by with_reducible assumption) (by k_asm) (by k_mem) (by (first | with_reducible assumption | omega)) ?_ (by with_unfolding_all rfl); (intro t9 t9' hm9; try dsimp only)) | (refine' my_colour (by with_reducible assumption) (by k_asm) (by repeat (first | exact sub_self | refine sub_mem ?_)) (by (first | with_reducible assumption | omega)) ?_ (by with_unfolding_all rfl); (intro hm9; try dsimp only))))
    | (k_here; (with_reducible show wpAny _ _ (exec (PySem.Stmt.Assign [_] (PySem.Expr.ListComp _ _ _ _) _) _) _ _ _); (with_unfolding_all refine' tcompA [(_, _), (_, _), (_, _)] (by k_asm) (by exact rfl) (by with_unfolding_all rfl) (by with_unfolding_all rfl) (by decide) (by rfl) (by decide) (by decide) (by decide) (by rfl) (by rfl) ?_))
    | (k_here; (with_reducible show wpAny _ _ (execs [] _) _ _ _); (with_reducible refine gen_toks ?_); intro tk9 hp9)
    | (k_here; (with_reducible show wpAny _ _ (execs (_ :: _) _) _ _ _); (with_reducible refine gen_toks ?_); intro tk9 hp9; (with_reducible refine wpAny_execs_cons ?_); (try dsimp only))
    | (k_here; (with_reducible show wpAny _ _ (pyIter (Value.ref _)) _ _ _); (with_reducible show wpAny _ _ (pyIter (Value.ref _)) (fun it s₂ => SrcN _ _ _ _ _ _ _ _ [_, _, _] _ _ _ it s₂) _ _); (with_unfolding_all refine' mix_zip3 (by with_reducible assumption) (by with_reducible assumption) (by with_reducible assumption) (by exact rfl) (by k_mem) (by k_mem) (by k_mem) (by k_mem) (by k_mem) (by k_mem) (by with_reducible assumption) (by with_reducible assumption) (by with_reducible assumption) ?_ ?_); (intros; (try simp only [List.cons_append] at *); (try dsimp only)))
    | (k_here; (with_reducible show wpAny _ _ (pyIter (Value.ref _)) _ _ _); (with_reducible show wpAny _ _ (pyIter (Value.ref _)) (fun it s₂ => SrcN _ _ _ _ _ _ _ _ [_, _] _ _ _ it s₂) _ _); (with_unfolding_all refine' mix_zip2 (by with_reducible assumption) (by with_reducible assumption) (by with_reducible assumption) (by exact rfl) (by k_mem) (by k_mem) (by k_mem) (by k_mem) (by with_reducible assumption) (by with_reducible assumption) ?_ ?_); (intros; (try simp only [List.cons_append] at *); (try dsimp only)))
    | (k_here; (with_reducible show wpAny _ _ (PySem.call (Value.type "zip") _ _) _ _ _); k_dflt (first | (refine' my_zip2 (by k_asm) (by k_asm) (by k_mem) (by k_mem) ?_; (intro h' b' Z' z'; try dsimp only)) | (refine' my_zip3 (by k_asm) (by k_asm) (by k_mem) (by k_mem) (by k_mem) ?_; (intro h' b' Z' z'; try dsimp only))))
    | (k_here; (with_reducible show wpAny _ _ (assign (PySem.Expr.Tuple _ _ _) _ _) _ _ _); (with_reducible show wpAny _ _ (assign (Expr.Tuple _ _ _) _ (Value.ref _)) _ _ _); k_dflt (refine' unpackN_ (by k_asm) (by k_asm) (by exact my_isTup (by k_asm) (by k_mem)) (by exact rfl) (by exact rfl) (by exact rfl) ?_); intro h' F' N')
    | (k_here; (with_reducible show wpAny _ _ (pyIter (Value.ref _)) _ _ _); (with_reducible show wpAny _ _ (pyIter (Value.ref _)) (fun it s₂ => LoopAtV _ _ _ _ _ _ _ _ _ it s₂) _ _); (with_unfolding_all refine' mix_loopJ (by with_reducible assumption) (by (first | rfl | decide)) (by exact rfl) (by with_reducible assumption) (by rfl) (by omega) (by k_asm) (by k_asm) (by k_mem) (by k_mem) (by k_mem) (by k_mem) (by k_mem) (by k_mem) (by repeat (first | exact sub_self | refine sub_mem ?_)) (by with_reducible assumption) (by with_reducible assumption) (by with_reducible assumption) (by with_reducible assumption) (by with_reducible assumption) ?_ ?_); (intros; (rename Fr _ _ _ _ => lF9); (simp only [ovr, WJ, WI, WK] at lF9); (try dsimp only)))
    | (k_here; (with_reducible show wpAny _ _ (pyIter (Value.ref _)) _ _ _); (with_reducible show wpAny _ _ (pyIter (Value.ref _)) (fun it s₂ => LoopAtV _ _ _ _ _ _ _ _ _ it s₂) _ _); (with_unfolding_all refine' mix_loopI (by with_reducible assumption) (by (first | rfl | decide)) (by exact rfl) (by with_reducible assumption) (by exact z_add _) (by omega) (by k_asm) (by k_asm) (by k_mem) (by k_mem) (by k_mem) (by k_mem) (by k_mem) (by k_mem) (by exact List.Mem.head _) (by repeat (first | exact sub_self | refine sub_mem ?_)) (by with_reducible assumption) (by with_reducible assumption) (by with_reducible assumption) (by with_reducible assumption) (by with_reducible assumption) ?_ ?_); (intros; (rename Fr _ _ _ _ => lF9); (simp only [ovr, WJ, WI, WK] at lF9); (try dsimp only)))
    | (k_here; (with_reducible show wpAny _ _ (pyIter (Value.ref _)) _ _ _); (with_reducible show wpAny _ _ (pyIter (Value.ref _)) (fun it s₂ => LoopAtV _ _ _ _ _ _ _ _ _ it s₂) _ _); (with_unfolding_all refine' mix_loopK (by with_reducible assumption) (by (first | rfl | decide)) (by exact rfl) (by with_reducible assumption) (by exact z_add _) (by omega) (by k_asm) (by k_asm) (by k_mem) (by k_mem) (by k_mem) (by k_mem) (by k_mem) (by k_mem) (by exact List.Mem.head _) (by exact .tail _ (.tail _ (.tail _ (.tail _ (.tail _ (.tail _ (.tail _ (.head _)))))))) (by repeat (first | exact sub_self | refine sub_mem ?_)) (by with_reducible assumption) (by with_reducible assumption) (by with_reducible assumption) (by with_reducible assumption) (by with_reducible assumption) (by exact rfl) (by exact ⟨_, rfl⟩) ?_ ?_); (intros; (rename Fr _ _ _ _ => lF9); (simp only [ovr, WJ, WI, WK] at lF9); (try dsimp only)))
    | (k_here; (with_reducible show wpAny _ _ (pyIter (Value.ref _)) _ _ _); (with_reducible show wpAny _ _ (pyIter (Value.ref _)) (fun it s₂ => SrcNA _ _ _ _ _ _ _ _ _ _ _ _ _ it s₂) _ _); (with_unfolding_all refine' mix_iterB (by with_reducible assumption) (by with_reducible assumption) (by exact rfl) (by k_asm) (by k_asm) ?_ (by exact lt_up (by assumption)) (by exact Nat.lt_succ_self _) (by exact Nat.lt_succ_self _) (by exact Nat.lt_succ_self _) (by exact Nat.lt_succ_self _) ?_); (intros; (try dsimp only)))
    | (k_here; (with_reducible show wpAny _ _ (eval (PySem.Expr.ListComp _ _ _ _) _) _ _ _); (with_reducible show wpAny _ _ (eval (Expr.ListComp _ [⟨Expr.Tuple [_, _, _] _ _, _, _, _⟩] _ _) _) _ _ _); with_unfolding_all (refine' tcomp [(_, _), (_, _), (_, _)] (by k_dflt (k_asm)) (by with_unfolding_all rfl) (by k_dflt (decide)) (by k_dflt (rfl)) (by k_dflt (decide)) (by k_dflt (decide)) (by k_dflt (decide)) ?_))
    | (k_here; (with_reducible show wpAny _ _ (eval (PySem.Expr.ListComp _ _ _ _) _) _ _ _); (with_reducible show wpAny _ _ (eval (Expr.ListComp _ [⟨Expr.Tuple [_, _] _ _, _, _, _⟩] _ _) _) _ _ _); with_unfolding_all (refine' tcomp [(_, _), (_, _)] (by k_dflt (k_asm)) (by with_unfolding_all rfl) (by k_dflt (decide)) (by k_dflt (rfl)) (by k_dflt (decide)) (by k_dflt (decide)) (by k_dflt (decide)) ?_))
    | ((with_reducible show (_ : Flow → Shared → Prop) (Flow.ret _) _); (refine muse_ret (by with_reducible assumption) ?_); try dsimp only)
    | (k_here; (with_reducible show wpAny _ _ (PySem.storeName ..) _ _ _); k_dflt (first | (refine' my_storeL (by k_asm) (by k_asm) (by rfl) (by rfl) ?_; intro h' tk' F' N') | (refine' my_storeC (by k_asm) (by k_asm) (by rfl) (by rfl) (by rfl) (by k_updF) (by with_reducible assumption) ?_; (intro h' o' F' N' d'; (try dsimp only at N')))))
    | walk1
    | (dsimp only; walk1)
    | (leave1; (try dsimp only))))
  all_goals first
    | (refine' tend1 ?F ?N ?l ?k; (case F => k_asm); (case N => k_asm); (case l => with_unfolding_all assumption); (case k => exact ⟨_, _, _, rfl, rfl⟩))
    | (refine' tend0 ?F ?N ?k; (case F => k_asm); (case N => k_asm); (case k => (refine ⟨rfl, _, ?_, rfl⟩; exact Nat.succ_ne_zero _)))
    | skip
  all_goals first
    | (refine' mix_ret ?An hret ?F ?N ?hs ?l ?ho; (case An => with_reducible assumption); (case F => k_asm); (case N => k_asm); (case hs => repeat (first | with_reducible assumption | refine sub_mem ?_)); (case l => first | exact allLt_of (by with_reducible assumption) | with_unfolding_all assumption);
        (case ho => first | (refine' mixout0 ?a; (case a => with_reducible assumption)) | (refine' mixout2 ?t ?a ?b ?c ?d; (case t => with_reducible assumption); (case a => with_reducible assumption); (case b => with_reducible assumption); (case c => with_reducible assumption); (case d => with_reducible assumption)) | (refine' mixout3 ?t ?a ?b ?c ?d ?e; (case t => with_reducible assumption); (case a => with_reducible assumption); (case b => with_reducible assumption); (case c => with_reducible assumption); (case d => with_reducible assumption); (case e => with_reducible assumption))))
    | skip
  all_goals refine muse (by with_reducible assumption) ?_
  all_goals first
    | (refine' mpost_up ?F ?N ?d1 ?d2 ?d3 ?d4 ?d5 ?hc ?hm ?hP; (case F => k_asm); (case N => with_reducible assumption);
        (case d1 => with_reducible assumption); (case d2 => with_reducible assumption); (case d3 => with_reducible assumption); (case d4 => with_reducible assumption); (case d5 => with_reducible assumption);
        (case hc => exact trivial);
        (case hm => (intro z hz; (repeat (first | exact rfl | refine (if_neg (nin_ne hz (by decide))).trans ?_ | refine (if_neg hz).trans ?_))));
        (case hP => first
          | exact PIs1 (by with_reducible assumption) (by with_reducible assumption) (by with_reducible assumption)
          | exact PIs2 (by with_reducible assumption) (by with_reducible assumption) (by with_reducible assumption)
          | exact PJs (by with_reducible assumption) (by with_reducible assumption)))
    | skip
  all_goals
    (refine' mpost_upK ?F ?N ?d1 ?d2 ?d3 ?d4 ?d5 ?hc ?hm ?hP; (case F => k_asm); (case N => with_reducible assumption);
        (case d1 => with_reducible assumption); (case d2 => with_reducible assumption); (case d3 => with_reducible assumption); (case d4 => with_reducible assumption); (case d5 => with_reducible assumption);
        (case hc => exact ⟨_, rfl⟩);
        (case hm => (intro z hz; (repeat (first | exact rfl | refine (if_neg (nin_ne hz (by decide))).trans ?_ | refine (if_neg hz).trans ?_))));
        (case hP => first
          | exact PKs1 (by with_reducible assumption) (by with_reducible assumption)
          | exact PKs2 (by with_reducible assumption) (by with_reducible assumption)))
end
section
open PySem PySem.W PyProof.Rows PySem.Flt PySem.Spec PySem.Calls
theorem dflt_ints {t1 t2 t3 t4 : Tok} : IntsAre [.int 709 t1, .int 1876 t2, .int 2469 t3, .int 50 t4] [709, 1876, 2469, 50] := .cons _ _ (.cons _ _ (.cons _ _ (.cons _ _ .nil)))
/-- four ints -/
noncomputable abbrev i4 (y : Nat → Int) (t : Nat → Tok) : List Value := [.int (y 0) (t 0), .int (y 1) (t 1), .int (y 2) (t 2), .int (y 3) (t 3)]
theorem four_ints {vs : List Value} {ns : List Int} (h : IntsAre vs ns) (hl : ns.length = 4) : ∃ y t, vs = i4 y t := by
  cases h with
  | nil => cases hl
  | cons a ta h =>
  cases h with
  | nil => cases hl
  | cons b tb h =>
  cases h with
  | nil => cases hl
  | cons c tc h =>
  cases h with
  | nil => cases hl
  | cons d td h =>
  cases h with
  | nil => exact ⟨fun | 0 => a | 1 => b | 2 => c | _ => d, fun | 0 => ta | 1 => tb | 2 => tc | _ => td, rfl⟩
  | cons e te h => simp at hl
section
variable {prog : Program} {w : World} {A : Around} {E : Value → Shared → Prop} {s : Shared} {h₀ : Heap} {L : Addr} {m : Str → Option Value} {news : Led9}
theorem law_cat {a b : Addr} {vs ws : List Value} {n k : Nat} {ns : List Int} {Q : Value → Shared → Prop} (F : Fr h₀ L s.heap m) (N : News h₀ L s.heap news) (ha : (a, lst vs n) ∈ news) (hb : (b, lst ws k) ∈ news)
    (h1 : IntsAre vs (ns.take 4)) (h2 : IntsAre ws (List.drop (ns.length : Int).toNat [709, 1876, 2469, 50]))
    (h : ∀ Z h' y t, Fr h₀ L h' m → News h₀ L h' ((Z, lst (i4 y t) 0) :: news) → (∀ p ∈ news, p.1 < Z) → Q (.ref Z) { s with heap := h' }) :
    wpAny (model prog w) A (binaryOp .Add (.ref a) (.ref b)) Q E s := by
  have hlen : (ns.take 4 ++ List.drop (ns.length : Int).toNat [709, 1876, 2469, 50]).length = 4 := by
    rw [List.length_append, List.length_take, List.length_drop, Int.toNat_natCast]
    simp only [List.length_cons, List.length_nil]
    omega
  refine add_arrays_ints (hsz := by rw [List.length_append] at hlen; simp only [Int.toNat_natCast] at hlen ⊢; rw [hlen, sizeLine_eq]; decide) F N ⟨_, (N _ ha).1, rfl, n, rfl⟩ ⟨_, (N _ hb).1, rfl, k, rfl⟩ (by simpa using h1) (by simpa using h2) fun h' F' N' hI => ?_
  obtain ⟨y, t, e⟩ := four_ints hI hlen
  refine h _ h' y t F' ?_ fun p hp => Heap.lt_size (N p hp).1
  rw [e] at N'
  exact N'
end
end
section
open PySem PySem.W PyProof.Rows PySem.Flt PySem.Spec PySem.Calls
/-- all of it lies behind r -/
noncomputable def Above (r : Nat) (rest : Led9) : Prop := ∀ p ∈ rest, @LT.lt Nat _ r p.1
theorem above_ne {r x : Nat} {rest : Led9} (h : Above r rest) (hx : x ≤ r) : ∀ p ∈ rest, @Ne Nat p.1 x := fun p hp => by have := h p hp; (first | lia | omega)
theorem updF_upd {d : Addr} {o : Obj} {l : Led9} {g : Obj → Led9} (h : UpdF d o l g) (o' : Obj) : Upd d o o' l (g o') := by
  induction h with
  | head h => exact .head h
  | tail h _ ih => exact .tail h ih
/-- the name of an axis' end -/
noncomputable def nm : Nat → Bool → Str
  | 0, false => Str.ofString "a"
  | 1, false => Str.ofString "b"
  | 2, false => Str.ofString "c"
  | _, false => Str.ofString "d"
  | 0, true => Str.ofString "A"
  | 1, true => Str.ofString "B"
  | 2, true => Str.ofString "C"
  | _, true => Str.ofString "D"
theorem nm_inj {j k : Nat} {e f : Bool} (hj : j < 4) (hk : k < 4) (h : nm j e = nm k f) : j = k ∧ e = f := by
  have : ∀ j : Fin 4, ∀ k : Fin 4, ∀ e f : Bool, nm j.1 e = nm k.1 f → j = k ∧ e = f := by decide +kernel
  have := this ⟨j, hj⟩ ⟨k, hk⟩ e f h
  exact ⟨by simpa using this.1, this.2⟩
theorem nm_Nm {j : Nat} {e : Bool} (hj : j < 4) : Nm (nm j e) (nm j false) := by
  have : ∀ j : Fin 4, ∀ e : Bool, Txt.lower (nm j.1 e) = nm j.1 false ∧ (nm j.1 e).length ≤ 100 := by decide +kernel
  exact this ⟨j, hj⟩ e
theorem low_inj {j k : Nat} (hj : j < 4) (hk : k < 4) (h : nm j false = nm k false) : j = k := (nm_inj hj hk h).1
/-- the 64ths of a choice of an end -/
noncomputable def plc (x : Int) (e : Bool) : Int := if e then (x.fmod 64 + 32).fmod 64 else x.fmod 64
theorem fm64 (x : Int) : 0 ≤ x.fmod 64 ∧ x.fmod 64 < 64 := ⟨Int.fmod_nonneg_of_pos _ (by decide), Int.fmod_lt_of_pos _ (by decide)⟩
theorem plc_b (x : Int) (e : Bool) : 0 ≤ plc x e ∧ plc x e < 64 := by
  unfold plc
  cases e
  · exact fm64 x
  · exact fm64 _
section
variable {prog : Program} {w : World} {A : Around} {E : Value → Shared → Prop} {s : Shared} {env : Env} {h₀ : Heap} {target : Expr} {body : List Stmt} {Q : Flow → Shared → Prop}
theorem for_list2 {ax : Addr} {vs : List Value} {n : Nat} {m₀ : Str → Option Value} {news : Led9} (J : Nat → (Str → Option Value) → Led9 → Prop)
    (hh : A.handled = none) (F : Fr h₀ env.locals s.heap m₀) (N : News h₀ env.locals s.heap news) (hm : ∀ i m nw, J i m nw → (ax, lst vs n) ∈ nw) (hJ : J 0 m₀ news)
    (turn : ∀ i v m₁ nw h tk I o, vs[i]? = some v → J i m₁ nw → (∀ p ∈ nw, p.1 ≠ I) → (∀ p ∈ news, p.1 < I) → Fr h₀ env.locals h m₁ → News h₀ env.locals h ((I, o) :: nw) →
      wpAny (model prog w) A (assign target env v) (fun _ s₂ => wpAny (model prog w) A (execs body env) (LPost h₀ env.locals { s with heap := h, toks := tk } I o (J (i + 1)) Q) E s₂) E { s with heap := h, toks := tk })
    (done : ∀ m₁ nw h tk, J vs.length m₁ nw → Fr h₀ env.locals h m₁ → News h₀ env.locals h nw → Q .next { s with heap := h, toks := tk }) :
    wpAny (model prog w) A (pyIter (.ref ax)) (fun it s₂ => TurnsAt prog w A h₀ env target body Q E it s₂) E s := by
  refine iter_listTurns hh F N (hm _ _ _ hJ) rfl rfl fun I hI => ?_
  have all : ∀ k i m nw, i + k = vs.length → J i m nw → (∀ p ∈ nw, p.1 ≠ I) → ItemsRest prog w A E h₀ env target body Q s [(I, "list_iterator")] [(ax, lst vs n)] ((vs.drop i).map .val) m nw := by
    intro k
    induction k with
    | zero =>
      intro i m nw hi hJ hne
      have : vs.drop i = [] := List.drop_eq_nil_of_le (by (first | lia | omega))
      rw [this]
      have e : i = vs.length := by (first | lia | omega)
      subst e
      exact ItemsRest.zero fun h tk F' N' => done m nw h tk hJ F' N'
    | succ k ih =>
      intro i m nw hi hJ hne
      have hlt : i < vs.length := by (first | lia | omega)
      rw [List.drop_eq_getElem_cons hlt]
      refine ItemsRest.val fun h tk F' => AllObj.cons fun o _ => AllObj.nil fun N' => ?_
      refine wpAny_mono (turn i vs[i] m nw h tk I o (by simp [hlt]) hJ hne hI F' N') (fun _ s₂ h₂ => wpAny_mono h₂ (fun f s₃ p => ?_) fun _ _ e => e) fun _ _ e => e
      have fin : (∃ h' tk' m' nw', s₃ = { s with heap := h', toks := tk' } ∧ Fr h₀ env.locals h' m' ∧ News h₀ env.locals h' ((I, o) :: nw') ∧ (∀ p ∈ nw', p.1 ≠ I) ∧ J (i + 1) m' nw') →
          UnrEndW h₀ env.locals { s with heap := h, toks := tk } [(I, o)] (fun m' n' => SubL [(ax, lst vs n)] n' ∧ ItemsRest prog w A E h₀ env target body Q s [(I, "list_iterator")] [(ax, lst vs n)] ((vs.drop (i + 1)).map .val) m' n') s₃ := by
        rintro ⟨h', tk', m', nw', rfl, F₂, N₂, off, hJ₂⟩
        exact ⟨h', tk', m', nw', rfl, F₂, N₂, fun p hp q hq => by rw [List.mem_singleton.mp hq]; exact off p hp, ⟨hm _ _ _ hJ₂, trivial⟩, ih (i + 1) m' nw' (by (first | lia | omega)) hJ₂ off⟩
      cases f with
      | ret v => exact p
      | brk => exact p
      | next => exact fin p
      | cont => exact fin p
  have := all vs.length 0 m₀ news (by (first | lia | omega)) hJ (fun p hp => Nat.ne_of_lt (hI p hp))
  simpa using this
end
end
section
open PySem PySem.W PyProof.Rows PySem.Flt PySem.Spec PySem.Calls
/-- the parts of pure red, green, blue in a hue of P 64ths, in 32nds -/
noncomputable def rho (P : Int) (c : Nat) : Int :=
  let k := 3 * P / 32
  let f := 3 * P % 32
  match c with
  | 0 => if k = 0 then 32 else if k = 1 then 32 - f else if k = 4 then f else if k = 5 then 32 else 0
  | 1 => if k = 0 then f else if k = 1 then 32 else if k = 2 then 32 else if k = 3 then 32 - f else 0
  | _ => if k = 2 then f else if k = 3 then 32 else if k = 4 then 32 else if k = 5 then 32 - f else 0
noncomputable def plA (x : Int) : Int := x.fmod 64
noncomputable def cA (x : Int) : Int := 1 + (x.fdiv 64).fmod 4
noncomputable def bA (x : Int) : Int := 1 + (x.fdiv 256).fmod 4
noncomputable def tA (x : Int) : Int := (x.fdiv 1024).fmod 4
/-- a part of a colour, in 512ths -/
noncomputable def colI (P C B : Int) (c : Nat) : Int := B * (128 - C * (32 - rho P c))
/-- the colour at an end of the axis of x -/
noncomputable def ColE (x : Int) (e : Bool) (a : Nat → UInt64) : Prop := ∀ c, c < 3 → Ex 9 (a c) (if e then 512 - colI (plA x) (cA x) (bA x) c else colI (plA x) (cA x) (bA x) c)
/-- the text of an int -/
noncomputable abbrev itx (n : Int) : Str := Str.ofString (toString n)
/-- what the two tables hold of the first i axes -/
structure Tab1 (y : Nat → Int) (i : Nat) (kT kE : List (Str × Value)) (rest : Led9) : Prop where
  dT : ∀ j, j < i → ∀ e, ∃ t, valueAt kT (nm j e) = some (.str (itx (plc (y j) e)) t)
  dE : ∀ j, j < i → ∀ e, ∃ a fl t, valueAt kE (nm j e) = some (.ref a) ∧ (a, p3 fl t) ∈ rest ∧ ColE (y j) e fl
  zT : kT.length ≤ 2 * i
  zE : kE.length ≤ 2 * i
structure Hd1 (y : Nat → Int) (i : Nat) (its : List HI) (rest : Led9) : Prop where
  len : its.length = i
  at' : ∀ j, j < i → ∃ it, its[j]? = some it ∧ it.nm = nm j false ∧ it.low = nm j false ∧ it.tx = itx (plc (y j) false) ∧ it.ent ∈ rest
noncomputable def Sorted (ns : List Int) : Prop := ∀ i j : Nat, i ≤ j → j < ns.length → ns.getD i 0 ≤ ns.getD j 0
structure Row1 (y : Nat → Int) (i : Nat) (rv : List Value) (ns : List Int) : Prop where
  isI : IntsAre rv ns
  sorted : Sorted ns
  perm : ns.Perm ((List.range i).map fun j => plc (y j) false)
structure Plc1 (y : Nat → Int) (i : Nat) (pv : List Value) : Prop where
  isI : IntsAre pv ((List.range i).map fun j => plc (y j) false)
/-- the things that turn -/
noncomputable abbrev mut1 (P : Params) (cT cE cP cR cW tD eD pL hx dx hL rL : Nat) (oT oE oP oR oW oD oF : Obj) (pv : List Value) (pn : Nat) (its : List HI) (hn : Nat) (tkh : Tok) (rv : List Value) (rn : Nat) (rest : Led9) : Led9 :=
  (cW, oW) :: (cR, oR) :: (cP, oP) :: (cE, oE) :: (cT, oT) :: (tD, oD) :: (eD, oF) :: (pL, lst pv pn) :: (hx, instObj 210 dx) :: (dx, hdD P tkh hL) :: (hL, lst (its.map HI.val) hn) :: (rL, lst rv rn) :: rest
structure Adr (cT cE cP cR cW tD eD pL hx dx hL rL : Nat) : Prop where
  l : cT < cE ∧ cE < cP ∧ cP < cR ∧ cR < cW ∧ cW < tD ∧ tD < eD ∧ eD < pL ∧ pL < dx ∧ dx < hx ∧ hx < hL ∧ hL < rL
noncomputable abbrev W1 : List Str := [Str.ofString "x", Str.ofString "place", Str.ofString "c", Str.ofString "b", Str.ofString "red", Str.ofString "green", Str.ofString "blue", Str.ofString "near", Str.ofString "far", Str.ofString "light", Str.ofString "small", Str.ofString "great"]
noncomputable abbrev sChosen : Str := Str.ofString "chosen"
/-- the frame between the turns of the first loop -/
noncomputable abbrev fr1 (hx : Addr) (m₁ m₀ : Str → Option Value) : Str → Option Value := fun z => if z = sChosen then some (.ref hx) else if z = Str.ofString "x" then m₁ z else if z = Str.ofString "place" then m₁ z else if z = Str.ofString "c" then m₁ z else if z = Str.ofString "b" then m₁ z else if z = Str.ofString "red" then m₁ z else if z = Str.ofString "green" then m₁ z else if z = Str.ofString "blue" then m₁ z else if z = Str.ofString "near" then m₁ z else if z = Str.ofString "far" then m₁ z else if z = Str.ofString "light" then m₁ z else if z = Str.ofString "small" then m₁ z else if z = Str.ofString "great" then m₁ z else m₀ z
theorem w1_ne {W : List Str} {z x : Str} (hz : z ∉ W) (hx : x ∈ W) : ¬ z = x := fun e => hz (e ▸ hx)
theorem ite_same {c : Prop} [Decidable c] {α : Type} {a b x : α} (h : a = x) (h2 : b = x) : (if c then a else b) = x := by
  split
  · exact h
  · exact h2
theorem ite_ch {m₀ : Str → Option Value} {v : Value} {X : Option Value} {z : Str} (h : m₀ sChosen = some v) (h2 : X = m₀ z) : (if z = sChosen then some v else X) = m₀ z := by
  by_cases e : z = sChosen
  · rw [if_pos e, e, h]
  · rw [if_neg e, h2]
theorem fr1_of {hx : Addr} {m₁ m₀ : Str → Option Value} (h : ∀ z, z ∉ W1 → m₁ z = m₀ z) (hx' : m₀ sChosen = some (.ref hx)) : m₁ = fr1 hx m₁ m₀ := by
  funext z
  unfold fr1
  by_cases e2 : z = sChosen
  · rw [if_pos e2, e2, ← hx']
    exact h _ (by decide)
  rw [if_neg e2]
  by_cases w : z ∈ W1
  · refine Eq.symm ?_
    have last : ∀ {x : Str} {a b : Option Value}, (z = x → a = m₁ z) → (¬ z = x → b = m₁ z) → (if z = x then a else b) = m₁ z := fun p q => by
      split
      · exact p ‹_›
      · exact q ‹_›
    have stop : ∀ {W : List Str}, z ∈ W → (∀ x ∈ W, ¬ z = x) → False := fun p q => q z p rfl
    refine last (fun _ => rfl) fun n1 => last (fun _ => rfl) fun n2 => last (fun _ => rfl) fun n3 => last (fun _ => rfl) fun n4 => last (fun _ => rfl) fun n5 => last (fun _ => rfl) fun n6 => last (fun _ => rfl) fun n7 => last (fun _ => rfl) fun n8 => last (fun _ => rfl) fun n9 => last (fun _ => rfl) fun n10 => last (fun _ => rfl) fun n11 => last (fun _ => rfl) fun n12 => (stop w ?_).elim
    simp only [List.mem_cons, List.not_mem_nil, or_false, forall_eq_or_imp, forall_eq]
    exact ⟨n1, n2, n3, n4, n5, n6, n7, n8, n9, n10, n11, n12⟩
  · have q : ∀ {x}, x ∈ W1 → ¬ z = x := fun hx => w1_ne w hx
    exact (h z w).trans ((if_neg (q (by decide))).trans ((if_neg (q (by decide))).trans ((if_neg (q (by decide))).trans ((if_neg (q (by decide))).trans ((if_neg (q (by decide))).trans ((if_neg (q (by decide))).trans ((if_neg (q (by decide))).trans ((if_neg (q (by decide))).trans ((if_neg (q (by decide))).trans ((if_neg (q (by decide))).trans ((if_neg (q (by decide))).trans (if_neg (q (by decide)))))))))))))).symm
section
variable (prog : Program) (w : World) (cT cE cP cR cW tD eD pL hx dx hL rL : Nat) (tkh : Tok) (y : Nat → Int) (ty : Nat → Tok) (Z : Nat) (m₀ : Str → Option Value)
/-- what holds of the things of the first loop's first i turns -/
structure S1 (i : Nat) (oT oE oP oR oW oD oF : Obj) (pv : List Value) (its : List HI) (rv : List Value) (rest : Led9) (kT kE : List (Str × Value)) (ns : List Int) : Prop where
  dT : oT.data = .cell (some (.ref tD))
  dE : oE.data = .cell (some (.ref eD))
  dP : oP.data = .cell (some (.ref pL))
  dR : oR.data = .cell (some (.ref rL))
  dW : oW.data = .cell none
  kD : oD.IsDictOf (strKind prog w) kT
  kF : oF.IsDictOf (strKind prog w) kE
  hR : Above rL rest
  hZ : (Z, lst (i4 y ty) 0) ∈ rest
  T : Tab1 y i kT kE rest
  H : Hd1 y i its rest
  R : Row1 y i rv ns
  L : Plc1 y i pv
inductive J1 (i : Nat) (m : Str → Option Value) (nw : Led9) : Prop
  | mk (oT oE oP oR oW oD oF : Obj) (pv : List Value) (pn : Nat) (its : List HI) (hn : Nat) (rv : List Value) (rn : Nat) (rest : Led9) (kT kE : List (Str × Value)) (ns : List Int)
      (e : nw = mut1 w.params cT cE cP cR cW tD eD pL hx dx hL rL oT oE oP oR oW oD oF pv pn its hn tkh rv rn rest) (hm : ∀ z, z ∉ W1 → m z = m₀ z) (S : S1 prog w tD eD pL rL y ty Z i oT oE oP oR oW oD oF pv its rv rest kT kE ns) : J1 i m nw
/-- the end of a turn of the first loop -/
inductive E1 (h₀ : Heap) (L : Addr) (s : Shared) (I : Nat) (oI : Obj) (i : Nat) : Flow → Shared → Prop
  | mk (h' : Heap) (tk : Nat) (m' : Str → Option Value) (oT oE oP oR oW oD oF : Obj) (pv : List Value) (pn : Nat) (its : List HI) (hn : Nat) (rv : List Value) (rn : Nat) (rest : Led9) (kT kE : List (Str × Value)) (ns : List Int)
      (F : Fr h₀ L h' m') (N : News h₀ L h' ((I, oI) :: mut1 w.params cT cE cP cR cW tD eD pL hx dx hL rL oT oE oP oR oW oD oF pv pn its hn tkh rv rn rest)) (off : ∀ p ∈ rest, @Ne Nat p.1 I)
      (hm : ∀ z, z ∉ W1 → m' z = m₀ z) (S : S1 prog w tD eD pL rL y ty Z (i + 1) oT oE oP oR oW oD oF pv its rv rest kT kE ns) : E1 h₀ L s I oI i .next { s with heap := h', toks := tk }
end
theorem mut1_off {P : Params} {cT cE cP cR cW tD eD pL hx dx hL rL : Nat} {oT oE oP oR oW oD oF : Obj} {pv : List Value} {pn : Nat} {tkh : Tok} {its : List HI} {hn : Nat} {rv : List Value} {rn : Nat} {rest : Led9} {I : Nat} (hA : Adr cT cE cP cR cW tD eD pL hx dx hL rL) (hI : @LT.lt Nat _ rL I) (h : ∀ p ∈ rest, @Ne Nat p.1 I) :
    ∀ p ∈ mut1 P cT cE cP cR cW tD eD pL hx dx hL rL oT oE oP oR oW oD oF pv pn its hn tkh rv rn rest, p.1 ≠ I := by
  have hA' := hA.l
  have one : ∀ {a : Nat} {o : Obj} {l : Led9}, @LE.le Nat _ a rL → (∀ p ∈ l, @Ne Nat p.1 I) → ∀ p ∈ (a, o) :: l, @Ne Nat p.1 I := fun {a o l} ha hl p hp => by
    rcases List.mem_cons.mp hp with rfl | hp
    · exact Nat.ne_of_lt (Nat.lt_of_le_of_lt ha hI)
    · exact hl p hp
  obtain ⟨b1, b2, b3, b4, b5, b6, b7, b8, b9, b10, b11⟩ := hA'
  have c11 := Nat.le_of_lt b11
  have c10 := Nat.le_trans (Nat.le_of_lt b10) c11
  have c9 := Nat.le_trans (Nat.le_of_lt b9) c10
  have c8 := Nat.le_trans (Nat.le_of_lt b8) c9
  have c7 := Nat.le_trans (Nat.le_of_lt b7) c8
  have c6 := Nat.le_trans (Nat.le_of_lt b6) c7
  have c5 := Nat.le_trans (Nat.le_of_lt b5) c6
  have c4 := Nat.le_trans (Nat.le_of_lt b4) c5
  have c3 := Nat.le_trans (Nat.le_of_lt b3) c4
  have c2 := Nat.le_trans (Nat.le_of_lt b2) c3
  have c1 := Nat.le_trans (Nat.le_of_lt b1) c2
  exact one c5 (one c4 (one c3 (one c2 (one c1 (one c6 (one c7 (one c8 (one c10 (one c9 (one c11 (one (Nat.le_refl _) h)))))))))))
theorem mut1_up {P : Params} {cT cE cP cR cW tD eD pL hx dx hL rL : Nat} {oT oE oP oR oW oD oF : Obj} {pv : List Value} {pn : Nat} {tkh : Tok} {its : List HI} {hn : Nat} {rv : List Value} {rn : Nat} {rest : Led9} {x : Addr × Obj} (hp : x ∈ rest) : x ∈ mut1 P cT cE cP cR cW tD eD pL hx dx hL rL oT oE oP oR oW oD oF pv pn its hn tkh rv rn rest := .tail _ (.tail _ (.tail _ (.tail _ (.tail _ (.tail _ (.tail _ (.tail _ (.tail _ (.tail _ (.tail _ (.tail _ hp)))))))))))
theorem i4_at {y : Nat → Int} {t : Nat → Tok} {i : Nat} {v : Value} (h : (i4 y t)[i]? = some v) : i < 4 ∧ v = .int (y i) (t i) := by
  match i, h with
  | 0, h => exact ⟨by decide, (Option.some.inj h).symm⟩
  | 1, h => exact ⟨by decide, (Option.some.inj h).symm⟩
  | 2, h => exact ⟨by decide, (Option.some.inj h).symm⟩
  | 3, h => exact ⟨by decide, (Option.some.inj h).symm⟩
section
variable {prog : Program} {w : World} {A : Around} {E : Value → Shared → Prop} {s : Shared} {env : Env} {h₀ : Heap} {target : Expr} {body : List Stmt} {Q : Flow → Shared → Prop}
noncomputable abbrev Turn1 (prog : Program) (w : World) (A : Around) (E : Value → Shared → Prop) (env : Env) (h₀ : Heap) (target : Expr) (body : List Stmt) (cT cE cP cR cW tD eD pL hx dx hL rL Z : Nat) (tkh : Tok) (y : Nat → Int) (ty : Nat → Tok) : Prop :=
  ∀ (s : Shared) (m₀ : Str → Option Value) (i : Nat) (m₁ : Str → Option Value) (h : Heap) (tk : Nat) (I : Nat) (oI oT oE oP oR oW oD oF : Obj) (pv : List Value) (pn : Nat) (its : List HI) (hn : Nat) (rv : List Value) (rn : Nat) (rest : Led9) (kT kE : List (Str × Value)) (ns : List Int) (Qv : Flow → Shared → Prop),
    m₀ sChosen = some (.ref hx) → i < 4 → @LT.lt Nat _ rL I → (∀ p ∈ rest, @Ne Nat p.1 I) → Above rL rest → (Z, lst (i4 y ty) 0) ∈ rest →
    oT.data = .cell (some (.ref tD)) → oE.data = .cell (some (.ref eD)) → oP.data = .cell (some (.ref pL)) → oR.data = .cell (some (.ref rL)) → oW.data = .cell none → oD.IsDictOf (strKind prog w) kT → oF.IsDictOf (strKind prog w) kE →
    Tab1 y i kT kE rest → Hd1 y i its rest → Row1 y i rv ns → Plc1 y i pv →
    (∀ f s₃, E1 prog w cT cE cP cR cW tD eD pL hx dx hL rL tkh y ty Z m₀ h₀ env.locals { s with heap := h, toks := tk } I oI i f s₃ → Qv f s₃) →
    Fr h₀ env.locals h (fr1 hx m₁ m₀) → News h₀ env.locals h ((I, oI) :: (cW, oW) :: (cR, oR) :: (cP, oP) :: (cE, oE) :: (cT, oT) :: (tD, oD) :: (eD, oF) :: (pL, lst pv pn) :: (hx, instObj 210 dx) :: (dx, hdD w.params tkh hL) :: (hL, lst (its.map HI.val) hn) :: (rL, lst rv rn) :: rest) →
    wpAny (model prog w) A (assign target env (.int (y i) (ty i))) (fun _ s₂ => wpAny (model prog w) A (execs body env) Qv E s₂) E { s with heap := h, toks := tk }
noncomputable abbrev Done1 (prog : Program) (w : World) (s : Shared) (env : Env) (h₀ : Heap) (Q : Flow → Shared → Prop) (cT cE cP cR cW tD eD pL hx dx hL rL : Nat) (tkh : Tok) (y : Nat → Int) : Prop :=
  ∀ (m₀ m₁ : Str → Option Value) (h : Heap) (tk : Nat) (oT oE oP oR oW oD oF : Obj) (pv : List Value) (pn : Nat) (its : List HI) (hn : Nat) (rv : List Value) (rn : Nat) (rest : Led9) (kT kE : List (Str × Value)) (ns : List Int),
    m₀ sChosen = some (.ref hx) → Above rL rest → oT.data = .cell (some (.ref tD)) → oE.data = .cell (some (.ref eD)) → oP.data = .cell (some (.ref pL)) → oR.data = .cell (some (.ref rL)) → oW.data = .cell none → oD.IsDictOf (strKind prog w) kT → oF.IsDictOf (strKind prog w) kE →
    Tab1 y 4 kT kE rest → Hd1 y 4 its rest → Row1 y 4 rv ns → Plc1 y 4 pv → Fr h₀ env.locals h (fr1 hx m₁ m₀) → News h₀ env.locals h ((cW, oW) :: (cR, oR) :: (cP, oP) :: (cE, oE) :: (cT, oT) :: (tD, oD) :: (eD, oF) :: (pL, lst pv pn) :: (hx, instObj 210 dx) :: (dx, hdD w.params tkh hL) :: (hL, lst (its.map HI.val) hn) :: (rL, lst rv rn) :: rest) → Q .next { s with heap := h, toks := tk }
theorem law_loop1 {cT cE cP cR cW tD eD pL hx dx hL rL Z : Nat} {oT oE oP oR oW oD oF : Obj} {pn hn : Nat} {tkh : Tok} {rn : Nat} {rest all : Led9} {y : Nat → Int} {ty : Nat → Tok} {m₀ : Str → Option Value}
    (hh : A.handled = none) (F : Fr h₀ env.locals s.heap m₀) (N : News h₀ env.locals s.heap all) (hs : ∀ p ∈ mut1 w.params cT cE cP cR cW tD eD pL hx dx hL rL oT oE oP oR oW oD oF [] pn [] hn tkh [] rn rest, p ∈ all)
    (S : S1 prog w tD eD pL rL y ty Z 0 oT oE oP oR oW oD oF [] [] [] rest [] [] []) (hc : m₀ sChosen = some (.ref hx)) (hA : Adr cT cE cP cR cW tD eD pL hx dx hL rL)
    (turn : Turn1 prog w A E env h₀ target body cT cE cP cR cW tD eD pL hx dx hL rL Z tkh y ty) (done : Done1 prog w s env h₀ Q cT cE cP cR cW tD eD pL hx dx hL rL tkh y) :
    wpAny (model prog w) A (pyIter (.ref Z)) (fun it s₂ => TurnsAt prog w A h₀ env target body Q E it s₂) E s := by
  refine for_list2 (vs := i4 y ty) (n := 0) (news := mut1 w.params cT cE cP cR cW tD eD pL hx dx hL rL oT oE oP oR oW oD oF [] pn [] hn tkh [] rn rest) (J := J1 prog w cT cE cP cR cW tD eD pL hx dx hL rL tkh y ty Z m₀) hh F (fun p hp => N p (hs p hp)) ?_ ?_ ?_ ?_
  · rintro i m nw ⟨oT, oE, oP, oR, oW, oD, oF, pv, pn, its, hn, rv, rn, rest, kT, kE, ns, rfl, hm, S⟩
    exact mut1_up S.hZ
  · exact ⟨oT, oE, oP, oR, oW, oD, oF, [], pn, [], hn, [], rn, rest, [], [], [], rfl, fun _ _ => rfl, S⟩
  · rintro i v m₁ nw h tk I o hv ⟨oT, oE, oP, oR, oW, oD, oF, pv, pn, its, hn, rv, rn, rest, kT, kE, ns, rfl, hm, S⟩ hne hI F' N'
    obtain ⟨hi, rfl⟩ := i4_at hv
    rw [fr1_of hm hc] at F'
    have hIr : @LT.lt Nat _ rL I := hI (rL, lst [] _) (.tail _ (.tail _ (.tail _ (.tail _ (.tail _ (.tail _ (.tail _ (.tail _ (.tail _ (.tail _ (.tail _ (.head _))))))))))))
    refine turn s m₀ i m₁ h tk I o oT oE oP oR oW oD oF pv pn its hn rv rn rest kT kE ns (LPost h₀ env.locals { s with heap := h, toks := tk } I o (J1 prog w cT cE cP cR cW tD eD pL hx dx hL rL tkh y ty Z m₀ (i + 1)) Q) hc hi hIr (fun p hp => hne p (mut1_up hp)) S.hR S.hZ S.dT S.dE S.dP S.dR S.dW S.kD S.kF S.T S.H S.R S.L ?_ F' N'
    rintro f s₃ ⟨h', tk', m', oT, oE, oP, oR, oW, oD, oF, pv, pn, its, hn, rv, rn, rest', kT, kE, ns, F₂, N₂, off, hm₂, S₂⟩
    exact ⟨h', tk', m', _, rfl, F₂, N₂, mut1_off hA hIr off, oT, oE, oP, oR, oW, oD, oF, pv, pn, its, hn, rv, rn, rest', kT, kE, ns, rfl, hm₂, S₂⟩
  · rintro m₁ nw h tk ⟨oT, oE, oP, oR, oW, oD, oF, pv, pn, its, hn, rv, rn, rest, kT, kE, ns, rfl, hm, S⟩ F' N'
    rw [fr1_of hm hc] at F'
    exact done m₀ m₁ h tk oT oE oP oR oW oD oF pv pn its hn rv rn rest kT kE ns hc S.hR S.dT S.dE S.dP S.dR S.dW S.kD S.kF S.T S.H S.R S.L F' N'
end
end
section
open PySem PySem.W PyProof.Rows PySem.Flt PySem.Spec PySem.Calls
section
variable {prog : Program} {w : World} {A : Around} {E : Value → Shared → Prop} {s : Shared} {env : Env} {h₀ : Heap} {target : Expr} {body : List Stmt} {Q : Flow → Shared → Prop}
theorem law_start {cT cE cP cR cW tD eD pL hx dx hL rL Z : Nat} {oT oE oP oR oW oD oF : Obj} {pn hn : Nat} {tkh : Tok} {rn : Nat} {all : Led9} {y : Nat → Int} {ty : Nat → Tok} {m₀ : Str → Option Value}
    (hh : A.handled = none) (F : Fr h₀ env.locals s.heap m₀) (N : News h₀ env.locals s.heap all)
    (e1 : env.cells.lookup (Str.ofString "texts") = some cT) (e2 : env.cells.lookup (Str.ofString "ends") = some cE) (e3 : env.cells.lookup (Str.ofString "places") = some cP) (e4 : env.cells.lookup (Str.ofString "row") = some cR) (e5 : env.cells.lookup (Str.ofString "wheel") = some cW)
    (n1 : (cT, oT) ∈ all) (n2 : (cE, oE) ∈ all) (n3 : (cP, oP) ∈ all) (n4 : (cR, oR) ∈ all) (n5 : (cW, oW) ∈ all)
    (dT : oT.data = .cell (some (.ref tD))) (dE : oE.data = .cell (some (.ref eD))) (dP : oP.data = .cell (some (.ref pL))) (dR : oR.data = .cell (some (.ref rL))) (dW : oW.data = .cell none)
    (n6 : (tD, oD) ∈ all) (n7 : (eD, oF) ∈ all) (kD : oD.IsDictOf (strKind prog w) []) (kF : oF.IsDictOf (strKind prog w) [])
    (n8 : (pL, lst [] pn) ∈ all) (n9 : (rL, lst [] rn) ∈ all) (hc : m₀ (Str.ofString "chosen") = some (.ref hx)) (n10 : (hx, instObj 210 dx) ∈ all) (n11 : (dx, hdD w.params tkh hL) ∈ all) (n12 : (hL, lst [] hn) ∈ all) (n13 : (Z, lst (i4 y ty) 0) ∈ all)
    (hA : cT < cE ∧ cE < cP ∧ cP < cR ∧ cR < cW ∧ cW < tD ∧ tD < eD ∧ eD < pL ∧ pL < dx ∧ dx < hx ∧ hx < hL ∧ hL < rL) (hZ : rL < Z)
    (turn : Adr cT cE cP cR cW tD eD pL hx dx hL rL → Turn1 prog w A E env h₀ target body cT cE cP cR cW tD eD pL hx dx hL rL Z tkh y ty)
    (done : Adr cT cE cP cR cW tD eD pL hx dx hL rL → Done1 prog w s env h₀ Q cT cE cP cR cW tD eD pL hx dx hL rL tkh y) :
    wpAny (model prog w) A (pyIter (.ref Z)) (fun it s₂ => TurnsAt prog w A h₀ env target body Q E it s₂) E s := by
  refine law_loop1 (rest := [(Z, lst (i4 y ty) 0)]) (pn := pn) (hn := hn) (rn := rn) hh F N ?_ ⟨dT, dE, dP, dR, dW, kD, kF, fun p hp => ?_, .head _, ⟨fun j h => absurd h (Nat.not_lt_zero _), fun j h => absurd h (Nat.not_lt_zero _), Nat.zero_le _, Nat.zero_le _⟩,
      ⟨rfl, fun j h => absurd h (Nat.not_lt_zero _)⟩, ⟨.nil, fun i j _ h => absurd h (Nat.not_lt_zero _), .refl _⟩, ⟨.nil⟩⟩ hc ⟨hA⟩ (turn ⟨hA⟩) (done ⟨hA⟩)
  · have one : ∀ {x : Addr × Obj} {l : Led9}, x ∈ all → (∀ p ∈ l, p ∈ all) → ∀ p ∈ x :: l, p ∈ all := fun hx hl p hp => by
      rcases List.mem_cons.mp hp with rfl | hp
      · exact hx
      · exact hl p hp
    exact one n5 (one n4 (one n3 (one n2 (one n1 (one n6 (one n7 (one n8 (one n10 (one n11 (one n12 (one n9 (one n13 fun _ h => nomatch h))))))))))))
  · rw [List.mem_singleton.mp hp]
    exact hZ
end
end
section
open PySem PySem.W PyProof.Rows PySem.Flt PySem.Spec PySem.Calls PySem.Float64 PySem.SeqAt
/-- hue, share, level of the colour -/
noncomputable def NearE (x : Int) (n : Nat → UInt64) : Prop := Ex 6 (n 0) (plA x) ∧ Ex 2 (n 1) (cA x) ∧ Ex 2 (n 2) (bA x)
/-- the share in the negative -/
noncomputable def shareF (C B : Int) : UInt64 := ofFrac false (B * C).natAbs (min (B * (8 - C)) (32 - B * (8 - C))).natAbs
/-- hue, lightness, share of the negative -/
noncomputable def FarE (x : Int) (n : Nat → UInt64) : Prop := Ex 6 (n 0) (plc x true) ∧ Ex 5 (n 1) (32 - bA x * (8 - cA x)) ∧ n 2 = shareF (cA x) (bA x)
theorem PureC.mono {prog : Program} {w : World} {K : Frag} {p : Program} {loose : List Str} {mean : ExcName → Option Value} {mg mb : Str → Option Value} {lev : Nat} {f : Addr} {news : Led9} {vs : List Value} {Out Out' : Value → Led9 → Prop}
    (h : PureC prog w K p loose mean mg mb lev f news vs Out) (hO : ∀ r own, Out r own → Out' r own) : PureC prog w K p loose mean mg mb lev f news vs Out' :=
  fun dp un gd cn cs a ccd cl outer A₀ base h₀ L m s Q E B F X N T hk hd hu hret => h dp un gd cn cs a ccd cl outer A₀ base h₀ L m s Q E B F X N T hk hd hu fun r own h' tk' ho => hret r own h' tk' (hO r own ho)
theorem quot_ex {a b : Int} (k : Nat) (hb : b = 2 ^ k) (hk : k ≤ 1021) (ha : a.natAbs < 2 ^ 53) : Ex k (ofFrac (decide (a < 0) != decide (b < 0)) a.natAbs b.natAbs) a := by
  subst hb
  have hp : (0 : Int) < 2 ^ k := pw_pos k
  have e1 : decide ((2 : Int) ^ k < 0) = false := by simp; (first | lia | omega)
  have e2 : ((2 : Int) ^ k).natAbs = 2 ^ k := by rw [Int.natAbs_pow]; rfl
  rw [e1, e2, Bool.bne_false]
  have r := ex_pack (K := k) (D := 1) hk ha (by decide) (ofFrac_right (neg := decide (a < 0)) (n := a.natAbs) (d := 2 ^ k) (W := a.natAbs * 2 ^ (1074 - k)) (D := 1) (Nat.two_pow_pos _) (by rw [Nat.mul_one, Nat.mul_assoc, ← Nat.pow_add]; congr 2; (first | lia | omega)) (by decide)) (by rw [Nat.one_mul])
  rw [sgn_dec] at r
  exact r
theorem tA_b (x : Int) : 0 ≤ tA x ∧ tA x < 4 := ⟨Int.fmod_nonneg_of_pos _ (by decide), Int.fmod_lt_of_pos _ (by decide)⟩
theorem cA_b (x : Int) : 1 ≤ cA x ∧ cA x ≤ 4 := by
  have h1 : 0 ≤ (x.fdiv 64).fmod 4 := Int.fmod_nonneg_of_pos _ (by decide)
  have h2 : (x.fdiv 64).fmod 4 < 4 := Int.fmod_lt_of_pos _ (by decide)
  unfold cA; omega
theorem bA_b (x : Int) : 1 ≤ bA x ∧ bA x ≤ 4 := by
  have h1 : 0 ≤ (x.fdiv 256).fmod 4 := Int.fmod_nonneg_of_pos _ (by decide)
  have h2 : (x.fdiv 256).fmod 4 < 4 := Int.fmod_lt_of_pos _ (by decide)
  unfold bA; omega
theorem hue_ex (x : Int) : Ex 6 (add (ofFrac (decide (x.fmod 64 < 0) != decide ((64 : Int) < 0)) (x.fmod 64).natAbs (64 : Int).natAbs) (ofInt ((x.fdiv 1024).fmod 4))) (plA x + 64 * tA x) := by
  have h := fm64 x
  have ht := tA_b x
  have e : plA x + 64 * tA x = x.fmod 64 + tA x * 2 ^ 6 := by unfold plA; omega
  rw [e]
  refine add_ex (by decide) (quot_ex 6 (by decide) (by decide) (by omega)) ?_ (by omega)
  exact up_ex (K := 0) (ofInt_ex _ (by unfold tA at ht; omega)) (by decide)
theorem share_ex (x : Int) : Ex 2 (ofFrac (decide (1 + (x.fdiv 64).fmod 4 < 0) != decide ((4 : Int) < 0)) (1 + (x.fdiv 64).fmod 4).natAbs (4 : Int).natAbs) (cA x) :=
  quot_ex 2 (by decide) (by decide) (by have := cA_b x; unfold cA at this; omega)
theorem level_ex (x : Int) : Ex 2 (ofFrac (decide (1 + (x.fdiv 256).fmod 4 < 0) != decide ((4 : Int) < 0)) (1 + (x.fdiv 256).fmod 4).natAbs (4 : Int).natAbs) (bA x) :=
  quot_ex 2 (by decide) (by decide) (by have := bA_b x; unfold bA at this; omega)
section
variable {prog : Program} {w : World} {A : Around} {E : Value → Shared → Prop} {s : Shared} {h₀ : Heap} {L : Addr} {news : Led9}
theorem booked (P : Params) : ∃ o es ep, (hd.heap_39 P).lookup cStatics = some o ∧ o.data = .dict es ep ∧ StrKeys es ∧ nsFind es sharingNotToldKey = none := by
  refine ⟨_, _, _, by with_unfolding_all rfl, by with_unfolding_all rfl, ?_, ?_⟩
  · intro e he
    simp only [List.mem_toArray, List.mem_cons, List.not_mem_nil, or_false] at he
    rcases he with rfl | rfl | rfl | rfl | rfl | rfl | rfl | rfl | rfl <;> exact ⟨_, _, rfl⟩
  · with_unfolding_all rfl
theorem none_booked {m : Str → Option Value} (F : Fr h₀ L s.heap m) (X : (hd.heap_39 w.params).In h₀) : NoneBooked s.heap := by
  obtain ⟨o, es, ep, h1, h2, h3, h4⟩ := booked w.params
  exact ⟨nsFind es, ⟨o, es, ep, F.keep _ _ (X _ _ h1), h2, h3, fun _ => rfl⟩, h4⟩
theorem wpAny_isSame_ff {M : Model} {A : Around} {E : Value → Shared → Prop} {s : Shared} {y z : UInt64} {u v : Tok} {Q : Bool → Shared → Prop}
    (h0 : (u == 0 || v == 0) = false) (hb : NoneBooked s.heap) (hq : ∀ b, Q b s) : wpAny M A (isSame (.float y u) (.float z v)) Q E s := by
  show wpAny M A (isSame.created (y == z && !Float64.isNaN y) u v) Q E s
  unfold isSame.created
  refine wpAny_ite ?_
  split
  · rename_i h; rw [h0] at h; exact absurd h Bool.false_ne_true
  refine wpAny_ite ?_
  split
  · exact wpAny_pure (hq _)
  refine wpAny_ite ?_
  split
  · exact wpAny_pure (hq _)
  refine wpAny_bind (wpAny_sharingNotTold_none hb ?_)
  first | rw [if_neg Bool.false_ne_true] | simp only [Bool.false_eq_true, if_false]
  refine wpAny_bind (wpAny_sharingNotTold_none hb ?_)
  first | rw [if_neg Bool.false_ne_true] | simp only [Bool.false_eq_true, if_false]
  exact wpAny_bind (wpAny_rule (wpAny_bind (wpAny_askSetting (wpAny_pure (hq _)))))
theorem EqAt_ff {A : Around} {a b : UInt64} {t u : Tok} (hb : NoneBooked s.heap) (h1 : t ≠ 0) (h2 : u ≠ 0) (hc : cmp a b = some .eq) : EqAt A s (.float a t) (.float b u) true := fun prog w E Q h => by
  unfold eqBool
  refine wpAny_holding ?_
  refine wpAny_ite_split (fun _ => wpAny_bind (wpAny_rule (wpAny_pure h))) (fun _ => ?_)
  refine wpAny_bind (wpAny_isSame_ff (by simp [h1, h2]) hb fun r => ?_)
  cases r with
  | true => exact wpAny_pure h
  | false =>
    rw [if_neg Bool.false_ne_true]
    refine wpAny_bind ?_
    show wpAny _ _ (compareOp .Eq (.float a t) (.float b u)) _ _ _
    refine AutoFloatOps.eq_0 ?_
    rw [hc]
    exact wpAny_truthy_bool h
theorem tup_ne {a b : Addr} {x y z x' y' z' : UInt64} {t1 t2 t3 u1 u2 u3 : Tok} {Q : Value → Shared → Prop} (N : News h₀ L s.heap news) (ha : (a, tup [.float x t1, .float y t2, .float z t3]) ∈ news) (hb : (b, tup [.float x' u1, .float y' u2, .float z' u3]) ∈ news)
    (hn : NoneBooked s.heap) (k1 : t1 ≠ 0) (k2 : t2 ≠ 0) (k3 : t3 ≠ 0) (k4 : u1 ≠ 0) (k5 : u2 ≠ 0) (k6 : u3 ≠ 0)
    (hu : A.units < cLine) (c1 : cmp x x' = some .eq) (c2 : cmp y y' = some .eq) (c3 : cmp z z' = some .eq) (h : Q (.bool false) s) : wpAny (model prog w) A (compareOp .NotEq (.ref a) (.ref b)) Q E s := by
  refine RcNeAt.tuples (e := fun _ => true) ⟨_, (N _ ha).1, rfl, _, rfl⟩ ⟨_, (N _ hb).1, rfl, _, rfl⟩ hu (fun j h1 h2 => ?_) prog w E Q (by exact h)
  rcases cs3 h1 with rfl | rfl | rfl
  · exact EqAt_ff hn k1 k4 c1
  · exact EqAt_ff hn k2 k5 c2
  · exact EqAt_ff hn k3 k6 c3
end
end
section
open PySem PySem.W PyProof.Rows PySem.Flt PySem.Spec PySem.Calls PySem.Float64
theorem eqb {x y : UInt64} {K : Nat} {a b : Int} (hx : Ex K x a) (hy : Ex K y b) : (cmp x y == some .eq) = decide (a = b) := by
  rw [cmp_ex hx hy]
  rcases Int.lt_trichotomy a b with h | h | h
  · rw [Int.compare_eq_lt.mpr h]; have : a ≠ b := by (first | lia | omega)
    simp [this]
  · subst h; simp
  · rw [Int.compare_eq_gt.mpr h]; have : a ≠ b := by (first | lia | omega)
    simp [this]
theorem ltb {x y : UInt64} {K : Nat} {a b : Int} (hx : Ex K x a) (hy : Ex K y b) : (cmp x y == some .lt) = decide (a < b) := by
  rw [cmp_ex hx hy]
  rcases Int.lt_trichotomy a b with h | h | h
  · rw [Int.compare_eq_lt.mpr h]; simp [h]
  · subst h; simp
  · rw [Int.compare_eq_gt.mpr h]; have : ¬ a < b := by (first | lia | omega)
    simp [this]
theorem mx3_ex {K : Nat} {x y z : UInt64} {a b c : Int} (hx : Ex K x a) (hy : Ex K y b) (hz : Ex K z c) : Ex K (mx3 x y z) (max (max a b) c) := by
  unfold mx3
  simp only [ltb hx hy]
  by_cases h : a < b
  · simp only [h, decide_true, if_true, ltb hy hz]
    by_cases h' : b < c
    · simp only [h', decide_true, if_true]; rw [show max (max a b) c = c by (first | lia | omega)]; exact hz
    · simp only [h', decide_false, Bool.false_eq_true, if_false]; rw [show max (max a b) c = b by (first | lia | omega)]; exact hy
  · simp only [h, decide_false, Bool.false_eq_true, if_false, ltb hx hz]
    by_cases h' : a < c
    · simp only [h', decide_true, if_true]; rw [show max (max a b) c = c by (first | lia | omega)]; exact hz
    · simp only [h', decide_false, Bool.false_eq_true, if_false]; rw [show max (max a b) c = a by (first | lia | omega)]; exact hx
theorem mn3_ex {K : Nat} {x y z : UInt64} {a b c : Int} (hx : Ex K x a) (hy : Ex K y b) (hz : Ex K z c) : Ex K (mn3 x y z) (min (min a b) c) := by
  unfold mn3
  simp only [ltb hy hx]
  by_cases h : b < a
  · simp only [h, decide_true, if_true, ltb hz hy]
    by_cases h' : c < b
    · simp only [h', decide_true, if_true]; rw [show min (min a b) c = c by (first | lia | omega)]; exact hz
    · simp only [h', decide_false, Bool.false_eq_true, if_false]; rw [show min (min a b) c = b by (first | lia | omega)]; exact hy
  · simp only [h, decide_false, Bool.false_eq_true, if_false, ltb hz hx]
    by_cases h' : c < a
    · simp only [h', decide_true, if_true]; rw [show min (min a b) c = c by (first | lia | omega)]; exact hz
    · simp only [h', decide_false, Bool.false_eq_true, if_false]; rw [show min (min a b) c = a by (first | lia | omega)]; exact hx
/-- x % 1.0 -/
noncomputable def lit64 (c : Int) : UInt64 := div (ofInt c) (ofInt 64)
theorem lit64_ex {c : Int} (h : c.natAbs < 2 ^ 53) : Ex 6 (lit64 c) c :=
  div_ex (K := 0) (J := 0) (I := 6) (by decide) (by decide) (by decide) (ofInt_ex c h) (ofInt_ex 64 (by decide)) (by decide) h (by (first | lia | omega))
theorem mod1_all : ∀ i : Fin 127, isFinite (divmod (lit64 ((i.1 : Int) - 63)) f1).2 = true ∧ val (divmod (lit64 ((i.1 : Int) - 63)) f1).2 = ((i.1 : Int) - 63) % 64 * 2 ^ (1074 - 6) := by decide +kernel
theorem mod1_zero : ∀ b : Bool, isFinite (divmod (zero b) f1).2 = true ∧ val (divmod (zero b) f1).2 = 0 := by decide +kernel
theorem mod1_ex {x : UInt64} {c : Int} (h : Ex 6 x c) (h1 : -64 < c) (h2 : c < 64) : Ex 6 (divmod x f1).2 (c % 64) := by
  by_cases h0 : c = 0
  · subst h0
    obtain ⟨b, t, e, ht⟩ := x_of_pack (not_nan_of_finite h.1)
    have hv : val x = 0 := by rw [h.2, Int.zero_mul]
    have t0 : t = 0 := by
      rcases Nat.lt_or_ge t infMag with l | g
      · rw [e, val_pack b l] at hv
        have := congrArg Int.natAbs hv
        rw [sgn_natAbs] at this
        have hz : V t = V 0 := by rw [V_zero]; exact this
        exact V_inj hz
      · exfalso
        have q : t = infMag := by (first | lia | omega)
        have hf := h.1
        rw [e, q] at hf
        have := isInf_pack_inf b
        rw [not_inf_of_finite hf] at this
        cases this
    subst t0
    rw [e]
    have := mod1_zero b
    exact ⟨this.1, by rw [show (pack b 0 : UInt64) = zero b from rfl, this.2]; simp⟩
  · have e := ex_bits h (lit64_ex (c := c) (by (first | lia | omega))) h0
    rw [e]
    have := mod1_all ⟨(c + 63).toNat, by (first | lia | omega)⟩
    have ec : (((c + 63).toNat : Nat) : Int) - 63 = c := by (first | lia | omega)
    simp only [ec] at this
    exact this
theorem hb0 {x y : Int} (hx : 0 ≤ x ∧ x ≤ 32) (hy : 0 ≤ y ∧ y ≤ 32) : (x - y).natAbs < 2 ^ 53 := by omega
theorem hb1 {x c : Int} (hx : 0 ≤ x ∧ x ≤ 32) (hc : 0 ≤ c ∧ c ≤ 128) : (c + x).natAbs < 2 ^ 53 := by omega
theorem hb2 {x y c : Int} (hx : 0 ≤ x ∧ x ≤ 32) (hy : 0 ≤ y ∧ y ≤ 32) (hc : 0 ≤ c ∧ c ≤ 128) : (c + x - y).natAbs < 2 ^ 53 := by omega
theorem hue_gen {r g b M D : UInt64} {K : Nat} {nr ng nM ar ag ab q : Int} (er : Ex K r nr) (eg : Ex K g ng) (eM : Ex K M nM) (hr : nr = nM ↔ ar = 0) (hg : ng = nM ↔ ag = 0)
    (dr : Ex 5 (div (sub M r) D) ar) (dg : Ex 5 (div (sub M g) D) ag) (db : Ex 5 (div (sub M b) D) ab) (br : 0 ≤ ar ∧ ar ≤ 32) (bg : 0 ≤ ag ∧ ag ≤ 32) (bb : 0 ≤ ab ∧ ab ≤ 32)
    (hq : (if ar = 0 then ab - ag else if ag = 0 then 64 + ar - ab else 128 + ag - ar) = 3 * q) (q1 : -64 < q) (q2 : q < 64) : Ex 6 (hueF r g b M D) (q % 64) := by
  have f2' : Ex 5 f2 64 := up_ex (K := 0) (J := 5) f2_ex (by decide)
  have f4' : Ex 5 f4 128 := up_ex (K := 0) (J := 5) f4_ex (by decide)
  have last : ∀ {h : UInt64} {H : Int}, Ex 5 h H → H = 3 * q → Ex 6 (divmod (div h f6) f1).2 (q % 64) := fun {h H} hh e => by
    refine mod1_ex ?_ q1 q2
    exact div_ex (K := 5) (J := 0) (I := 6) (by decide) (by decide) (by decide) hh f6_ex (by decide) (by omega) (by omega)
  by_cases c1 : ar = 0
  · rw [hueF_r (by rw [eqb er eM]; simpa using hr.mpr c1)]
    rw [if_pos c1] at hq
    exact last (sub_ex (by decide) db dg (hb0 bb bg)) hq
  · rw [if_neg c1] at hq
    have e1 : (cmp r M == some .eq) = false := by
      rw [eqb er eM]; simpa using fun h => c1 (hr.mp h)
    by_cases c2 : ag = 0
    · rw [hueF_g e1 (by rw [eqb eg eM]; simpa using hg.mpr c2)]
      rw [if_pos c2] at hq
      exact last (sub_ex (by decide) (add_ex (by decide) f2' dr (hb1 br (by decide))) db (hb2 br bb (by decide))) hq
    · rw [if_neg c2] at hq
      rw [hueF_b e1 (by rw [eqb eg eM]; simpa using fun h => c2 (hg.mp h))]
      exact last (sub_ex (by decide) (add_ex (by decide) f4' dg (hb1 bg (by decide))) dr (hb2 bg br (by decide))) hq
end
section
open PySem PySem.W PyProof.Rows PySem.Flt PySem.Spec PySem.Calls PySem.Float64
noncomputable def tri (r g b : UInt64) : Nat → UInt64
  | 0 => r
  | 1 => g
  | _ => b
noncomputable def triT (r g b : Tok) : Nat → Tok
  | 0 => r
  | 1 => g
  | _ => b
theorem triT_ne {r g b : Tok} (h1 : r ≠ 0) (h2 : g ≠ 0) (h3 : b ≠ 0) : ∀ j, triT r g b j ≠ 0
  | 0 => h1
  | 1 => h2
  | _ + 2 => h3
theorem fr_b (P : Int) : 0 ≤ 3 * P % 32 ∧ 3 * P % 32 < 32 := by (first | lia | omega)
theorem rho_b (P : Int) (c : Nat) : 0 ≤ rho P c ∧ rho P c ≤ 32 := by
  have := fr_b P
  unfold rho
  simp only
  split
  · split <;> (try split) <;> (try split) <;> (try split) <;> omega
  · split <;> (try split) <;> (try split) <;> (try split) <;> omega
  · split <;> (try split) <;> (try split) <;> (try split) <;> omega
theorem pl_b (x : Int) : 0 ≤ plA x ∧ plA x < 64 := fm64 x
/-- small products by their values -/
theorem four {n : Int} (h : 1 ≤ n ∧ n ≤ 4) : n = 1 ∨ n = 2 ∨ n = 3 ∨ n = 4 := by (first | lia | omega)
theorem col_lin (B C u : Int) : B * (128 - C * (32 - u)) = 128 * B - B * C * (32 - u) := by grind
theorem W_b {B C : Int} (hB : 1 ≤ B ∧ B ≤ 4) (hC : 1 ≤ C ∧ C ≤ 4) : B ≤ B * C ∧ B * C ≤ 4 * B := by
  have h1 := Int.mul_le_mul_of_nonneg_left hC.1 (show 0 ≤ B from Int.le_trans (by decide) hB.1)
  have h2 := Int.mul_le_mul_of_nonneg_left hC.2 (show 0 ≤ B from Int.le_trans (by decide) hB.1)
  rw [Int.mul_one] at h1
  rw [Int.mul_comm B 4] at h2
  exact ⟨h1, h2⟩
theorem Wm_b {W u : Int} (hW : 0 ≤ W) (hu : 0 ≤ u ∧ u ≤ 32) : 0 ≤ W * u ∧ W * u ≤ 32 * W := by
  have h2 := Int.mul_le_mul_of_nonneg_left hu.2 hW
  rw [Int.mul_comm W 32] at h2
  exact ⟨Int.mul_nonneg hW hu.1, h2⟩
theorem c128 {C : Int} (h : C ≤ 4) : 32 * C ≤ 128 := by (first | lia | omega)
theorem sub32 {F : Int} (h : 0 ≤ F ∧ F < 32) : 0 ≤ 32 - F ∧ 32 - F ≤ 32 := by (first | lia | omega)
theorem col_b {B C u : Int} (hB : 1 ≤ B ∧ B ≤ 4) (hC : 1 ≤ C ∧ C ≤ 4) (hu : 0 ≤ u ∧ u ≤ 32) : 0 ≤ B * (128 - C * (32 - u)) ∧ B * (128 - C * (32 - u)) ≤ 512 := by
  have h1 := W_b hB hC
  rw [col_lin]
  have h2 := Wm_b (W := B * C) (u := 32 - u) (Int.le_trans (by (first | lia | omega)) h1.1) (by (first | lia | omega))
  generalize B * C * (32 - u) = z at *
  generalize B * C = W at *
  clear hC hu
  (first | lia | omega)
theorem k_e6 {P T : Int} (hP : 0 ≤ P ∧ P < 64) (hT : 0 ≤ T ∧ T < 4) : ((P + 64 * T) * 6).natAbs < 2 ^ 53 := by omega
theorem k_e60 {P T : Int} (hP : 0 ≤ P ∧ P < 64) (hT : 0 ≤ T ∧ T < 4) : 0 ≤ (P + 64 * T) * 6 := by (first | lia | omega)
theorem k_e6d (P T : Int) : (P + 64 * T) * 6 / 2 ^ 6 = 6 * T + 3 * P / 32 := by (first | lia | omega)
theorem k_i {P T : Int} (hP : 0 ≤ P ∧ P < 64) (hT : 0 ≤ T ∧ T < 4) : (6 * T + 3 * P / 32).natAbs < 2 ^ 53 := by omega
theorem k_fe (P T : Int) : 3 * P % 32 * 2 ^ 1 = (P + 64 * T) * 6 - (6 * T + 3 * P / 32) * 2 ^ 6 := by (first | lia | omega)
theorem k_fr (P T : Int) : ((P + 64 * T) * 6 - (6 * T + 3 * P / 32) * 2 ^ 6).natAbs < 2 ^ 53 := by rw [← k_fe]; (first | lia | omega)
theorem k_100 {P T : Int} (hP : 0 ≤ P ∧ P < 64) (hT : 0 ≤ T ∧ T < 4) : 0 ≤ 6 * T + 3 * P / 32 ∧ 6 * T + 3 * P / 32 < 100 := by (first | lia | omega)
theorem k_m {P T : Int} (hP : 0 ≤ P ∧ P < 64) : (6 * T + 3 * P / 32).fmod 6 = 3 * P / 32 := by rw [Int.fmod_eq_emod_of_nonneg _ (by decide)]; (first | lia | omega)
theorem k_6 {P : Int} (hP : 0 ≤ P ∧ P < 64) : 3 * P / 32 = 0 ∨ 3 * P / 32 = 1 ∨ 3 * P / 32 = 2 ∨ 3 * P / 32 = 3 ∨ 3 * P / 32 = 4 ∨ 3 * P / 32 = 5 := by (first | lia | omega)
theorem k_c0 {C : Int} (h : 1 ≤ C ∧ C ≤ 4) : ¬ C = 0 := by omega
theorem e_v (B C : Int) : B * (128 - C * (32 - 32)) = B * 2 ^ 7 := by grind
theorem e_p (B C : Int) : B * (128 - C * (32 - 0)) = B * (4 - C) * 2 ^ 5 := by grind
theorem b_4c {C : Int} (h : 1 ≤ C ∧ C ≤ 4) : (4 - C).natAbs < 2 ^ 53 := by omega
theorem b_ab {z : Int} (h : 0 ≤ z ∧ z ≤ 128) : z.natAbs < 2 ^ 53 := by omega
theorem b_128 {z : Int} (h : 0 ≤ z ∧ z ≤ 128) : (128 - z).natAbs < 2 ^ 53 := by omega
theorem b_f {F : Int} (h : 0 ≤ F ∧ F < 32) : (32 - F).natAbs < 2 ^ 53 := by omega
theorem nat_mul {B z : Int} {m n : Nat} (h1 : B.natAbs ≤ m) (h2 : z.natAbs ≤ n) (h : m * n < 2 ^ 53) : (B * z).natAbs < 2 ^ 53 := by
  rw [Int.natAbs_mul]; exact Nat.lt_of_le_of_lt (Nat.mul_le_mul h1 h2) h
theorem nat4 {B : Int} (h : 1 ≤ B ∧ B ≤ 4) : B.natAbs ≤ 4 := by omega
theorem b_b4c {B C : Int} (hB : 1 ≤ B ∧ B ≤ 4) (hC : 1 ≤ C ∧ C ≤ 4) : (B * (4 - C)).natAbs < 2 ^ 53 := nat_mul (m := 4) (n := 4) (nat4 hB) (by omega) (by decide)
theorem b_b128 {B z : Int} (hB : 1 ≤ B ∧ B ≤ 4) (h : 0 ≤ z ∧ z ≤ 128) : (B * (128 - z)).natAbs < 2 ^ 53 := nat_mul (m := 4) (n := 128) (nat4 hB) (by omega) (by decide)
theorem ofp {c a b : Prop} [Decidable c] (h : if c then a else b) (k : c) : a := by rwa [if_pos k] at h
theorem ofn {c a b : Prop} [Decidable c] (h : if c then a else b) (k : ¬ c) : b := by rwa [if_neg k] at h
section
variable {prog : Program} {w : World} {p : Program} {loose : List Str} {mean : ExcName → Option Value} {mg mb : Str → Option Value} {news : Led9}
theorem u_hsv (x : Int) {h s v : UInt64} {t1 t2 t3 : Tok} (z1 : t1 ≠ 0) (z2 : t2 ≠ 0) (z3 : t3 ≠ 0) (hh : Ex 6 h (plA x + 64 * tA x)) (hs : Ex 2 s (cA x)) (hv : Ex 2 v (bA x)) :
    PureC prog w (hd.heap_39 w.params) p loose mean mg mb 3 59 news [.float h t1, .float s t2, .float v t3] (fun r own => ∃ T c t, ColE x false c ∧ (∀ j, t j ≠ 0) ∧ r = .ref T ∧ own = [(T, p3 c t)]) := by
  have hP := pl_b x
  have hC := cA_b x
  have hB := bA_b x
  have hT := tA_b x
  have hF := fr_b (plA x)
  unfold ColE colI
  simp only [Bool.false_eq_true, if_false]
  generalize plA x = P at *
  generalize cA x = C at *
  generalize bA x = B at *
  generalize tA x = T at *
  have e6 : Ex 6 (mul h 4618441417868443648) ((P + 64 * T) * 6) := mul_ex (K := 6) (J := 0) (by decide) hh f6_ex (k_e6 hP hT)
  have ei : toInt truncOf (mul h 4618441417868443648) = 6 * T + 3 * P / 32 := by
    rw [toInt_ex (by decide) e6 (k_e60 hP hT)]; exact k_e6d P T
  have efr : Ex 5 (sub (mul h 4618441417868443648) (ofInt (6 * T + 3 * P / 32))) (3 * P % 32) := by
    refine down_ex (K := 5) (J := 1) ?_ (by decide)
    have := sub_ex (K := 6) (by decide) e6 (up_ex (K := 0) (J := 6) (ofInt_ex (6 * T + 3 * P / 32) (k_i hP hT)) (by decide)) (k_fr P T)
    rw [show 3 * P % 32 * 2 ^ 1 = (P + 64 * T) * 6 - (6 * T + 3 * P / 32) * 2 ^ 6 from k_fe P T]
    exact this
  generalize hF' : 3 * P % 32 = F at *
  have bCF : 0 ≤ C * F ∧ C * F ≤ 128 := by
    have := Wm_b (W := C) (u := F) (Int.le_trans (by decide) hC.1) ⟨hF.1, Int.le_of_lt hF.2⟩
    exact ⟨this.1, Int.le_trans this.2 (c128 hC.2)⟩
  have bCG : 0 ≤ C * (32 - F) ∧ C * (32 - F) ≤ 128 := by
    have := Wm_b (W := C) (u := 32 - F) (Int.le_trans (by decide) hC.1) (sub32 hF)
    exact ⟨this.1, Int.le_trans this.2 (c128 hC.2)⟩
  have f1_2 : Ex 2 f1 4 := up_ex (K := 0) (J := 2) f1_ex (by decide)
  have f1_5 : Ex 5 f1 32 := up_ex (K := 0) (J := 5) f1_ex (by decide)
  have f1_7 : Ex 7 f1 128 := up_ex (K := 0) (J := 7) f1_ex (by decide)
  have v9 : Ex 9 v (B * (128 - C * (32 - 32))) := by
    have := up_ex (K := 2) (J := 7) hv (by decide)
    rw [show B * (128 - C * (32 - 32)) = B * 2 ^ 7 from e_v B C]; exact this
  have p9 : Ex 9 (mul v (sub f1 s)) (B * (128 - C * (32 - 0))) := by
    have := up_ex (K := 4) (J := 5) (mul_ex (K := 2) (J := 2) (by decide) hv (sub_ex (by decide) f1_2 hs (b_4c hC)) (b_b4c hB hC)) (by decide)
    rw [show B * (128 - C * (32 - 0)) = B * (4 - C) * 2 ^ 5 from e_p B C]; exact this
  have q9 : Ex 9 (mul v (sub f1 (mul s (sub (mul h 4618441417868443648) (ofInt (6 * T + 3 * P / 32)))))) (B * (128 - C * (32 - (32 - F)))) := by
    rw [show B * (128 - C * (32 - (32 - F))) = B * (128 - C * F) by rw [show 32 - (32 - F) = F by (first | lia | omega)]]
    have b7 : (B * (128 - C * F)).natAbs < 2 ^ 53 := b_b128 hB bCF
    exact mul_ex (K := 2) (J := 7) (by decide) hv (sub_ex (by decide) f1_7 (mul_ex (K := 2) (J := 5) (by decide) hs efr (b_ab bCF)) (b_128 bCF)) b7
  have t9 : Ex 9 (mul v (sub f1 (mul s (sub f1 (sub (mul h 4618441417868443648) (ofInt (6 * T + 3 * P / 32))))))) (B * (128 - C * (32 - F))) := by
    have b7 : (B * (128 - C * (32 - F))).natAbs < 2 ^ 53 := b_b128 hB bCG
    exact mul_ex (K := 2) (J := 7) (by decide) hv (sub_ex (by decide) f1_7 (mul_ex (K := 2) (J := 5) (by decide) hs (sub_ex (by decide) f1_5 efr (b_f hF)) (b_ab bCG)) (b_128 bCG)) b7
  have s0 : (cmp s 0 == some .eq) = false := by rw [eqb hs f0_ex]; exact decide_eq_false (k_c0 hC)
  generalize e1 : sub (mul h 4618441417868443648) (ofInt (6 * T + 3 * P / 32)) = fr at *
  generalize e2 : mul v (sub f1 s) = pv at *
  generalize e3 : mul v (sub f1 (mul s fr)) = qv at *
  generalize e4 : mul v (sub f1 (mul s (sub f1 fr))) = tv at *
  refine PureC.mono (c_hsv_to_rgb news h s v t1 t2 t3 z1 z2 z3 (6 * T + 3 * P / 32) s0 (fin_ex e6) ei (k_100 hP hT) fr pv qv tv e1 e2 e3 e4) fun r own ho => ?_
  rw [k_m hP] at ho
  have fin : ∀ {a b c : UInt64} {na nb nc : Int}, Tup3 a b c r own → Ex 9 a (B * (128 - C * (32 - na))) → Ex 9 b (B * (128 - C * (32 - nb))) → Ex 9 c (B * (128 - C * (32 - nc))) → rho P 0 = na → rho P 1 = nb → rho P 2 = nc →
      ∃ T c t, (∀ c_1, c_1 < 3 → Ex 9 (c c_1) (B * (128 - C * (32 - rho P c_1)))) ∧ (∀ j, t j ≠ 0) ∧ r = .ref T ∧ own = [(T, p3 c t)] := by
    rintro a b c na nb nc ⟨T', u1, u2, u3, k1, k2, k3, rfl, rfl⟩ ea eb ec rfl rfl rfl
    refine ⟨T', tri a b c, triT u1 u2 u3, fun j hj => ?_, triT_ne k1 k2 k3, rfl, rfl⟩
    rcases cs3 hj with rfl | rfl | rfl
    · exact ea
    · exact eb
    · exact ec
  have hk := k_6 hP
  rcases hk with k | k | k | k | k | k
  · exact fin (ofp ho k) v9 t9 p9 (by simp [rho, k]) (by simp [rho, k, hF']) (by simp [rho, k])
  · exact fin (ofp (ofn ho (by rw [k]; decide)) k) q9 v9 p9 (by simp [rho, k, hF']) (by simp [rho, k]) (by simp [rho, k])
  · exact fin (ofp (ofn (ofn ho (by rw [k]; decide)) (by rw [k]; decide)) k) p9 v9 t9 (by simp [rho, k]) (by simp [rho, k]) (by simp [rho, k, hF'])
  · exact fin (ofp (ofn (ofn (ofn ho (by rw [k]; decide)) (by rw [k]; decide)) (by rw [k]; decide)) k) p9 q9 v9 (by simp [rho, k]) (by simp [rho, k, hF']) (by simp [rho, k])
  · exact fin (ofp (ofn (ofn (ofn (ofn ho (by rw [k]; decide)) (by rw [k]; decide)) (by rw [k]; decide)) (by rw [k]; decide)) k) t9 p9 v9 (by simp [rho, k, hF']) (by simp [rho, k]) (by simp [rho, k])
  · exact fin (ofn (ofn (ofn (ofn (ofn ho (by rw [k]; decide)) (by rw [k]; decide)) (by rw [k]; decide)) (by rw [k]; decide)) (by rw [k]; decide)) v9 p9 q9 (by simp [rho, k]) (by simp [rho, k]) (by simp [rho, k, hF'])
end
end
section
open PySem PySem.W PyProof.Rows PySem.Flt PySem.Spec PySem.Calls PySem.Float64
/-- what holds of rho at each hue -/
noncomputable def rhoOk (p : Nat) : Bool :=
  let P : Int := p
  decide ((rho P 0 = 32 ∨ rho P 1 = 32 ∨ rho P 2 = 32) ∧ (rho P 0 = 0 ∨ rho P 1 = 0 ∨ rho P 2 = 0) ∧
    (if 32 - rho P 0 = 0 then (32 - rho P 2) - (32 - rho P 1) else if 32 - rho P 1 = 0 then 64 + (32 - rho P 0) - (32 - rho P 2) else 128 + (32 - rho P 1) - (32 - rho P 0)) = 3 * (if P < 54 then P else P - 64) ∧
    (if rho P 0 = 0 then rho P 2 - rho P 1 else if rho P 1 = 0 then 64 + rho P 0 - rho P 2 else 128 + rho P 1 - rho P 0) = 3 * (if P < 22 then P + 32 else P - 32))
theorem rho_all : ∀ p : Fin 64, rhoOk p.1 = true := by decide +kernel
theorem rho_ok {P : Int} (hP : 0 ≤ P ∧ P < 64) : (rho P 0 = 32 ∨ rho P 1 = 32 ∨ rho P 2 = 32) ∧ (rho P 0 = 0 ∨ rho P 1 = 0 ∨ rho P 2 = 0) ∧
    (if 32 - rho P 0 = 0 then (32 - rho P 2) - (32 - rho P 1) else if 32 - rho P 1 = 0 then 64 + (32 - rho P 0) - (32 - rho P 2) else 128 + (32 - rho P 1) - (32 - rho P 0)) = 3 * (if P < 54 then P else P - 64) ∧
    (if rho P 0 = 0 then rho P 2 - rho P 1 else if rho P 1 = 0 then 64 + rho P 0 - rho P 2 else 128 + rho P 1 - rho P 0) = 3 * (if P < 22 then P + 32 else P - 32) := by
  obtain ⟨p, rfl⟩ := Int.eq_ofNat_of_zero_le hP.1
  have := rho_all ⟨p, Int.ofNat_lt.mp hP.2⟩
  unfold rhoOk at this
  exact of_decide_eq_true this
/-- what the colour's max, min and range are -/
structure Core (W : Int) (r g b : UInt64) (a1 a2 a3 : Int) (nr ng nb nM nm : Int) : Prop where
  eM : Ex 9 (mx3 r g b) nM
  em : Ex 9 (mn3 r g b) nm
  eD : Ex 9 (sub (mx3 r g b) (mn3 r g b)) (32 * W)
  d1 : Ex 5 (div (sub (mx3 r g b) r) (sub (mx3 r g b) (mn3 r g b))) a1
  d2 : Ex 5 (div (sub (mx3 r g b) g) (sub (mx3 r g b) (mn3 r g b))) a2
  d3 : Ex 5 (div (sub (mx3 r g b) b) (sub (mx3 r g b) (mn3 r g b))) a3
  ne : nm ≠ nM
  h1 : nr = nM ↔ a1 = 0
  h2 : ng = nM ↔ a2 = 0
theorem prod0 {W a : Int} (hW : 1 ≤ W) : W * a = 0 ↔ a = 0 := ⟨fun h => (Int.mul_eq_zero.mp h).resolve_left (by (first | lia | omega)), fun h => by rw [h, Int.mul_zero]⟩
theorem max_c {M x y z : Int} (hx : 0 ≤ x) (hy : 0 ≤ y) (hz : 0 ≤ z) (h : x = 0 ∨ y = 0 ∨ z = 0) : max (max (M - x) (M - y)) (M - z) = M := by
  rcases h with rfl | rfl | rfl
  · rw [Int.sub_zero, Int.max_eq_left (Int.sub_le_self _ hy), Int.max_eq_left (Int.sub_le_self _ hz)]
  · rw [Int.sub_zero, Int.max_eq_right (Int.sub_le_self _ hx), Int.max_eq_left (Int.sub_le_self _ hz)]
  · rw [Int.sub_zero, Int.max_eq_right (Int.max_le.mpr ⟨Int.sub_le_self _ hx, Int.sub_le_self _ hy⟩)]
theorem min_c {M R x y z : Int} (hx : x ≤ R) (hy : y ≤ R) (hz : z ≤ R) (h : x = R ∨ y = R ∨ z = R) : min (min (M - x) (M - y)) (M - z) = M - R := by
  rcases h with rfl | rfl | rfl
  · rw [Int.min_eq_left (Int.sub_le_sub_left hy _), Int.min_eq_left (Int.sub_le_sub_left hz _)]
  · rw [Int.min_eq_right (Int.sub_le_sub_left hx _), Int.min_eq_left (Int.sub_le_sub_left hz _)]
  · rw [Int.min_eq_right (Int.le_min.mpr ⟨Int.sub_le_sub_left hx _, Int.sub_le_sub_left hy _⟩)]
theorem sub_M {M x : Int} : M - (M - x) = x := by (first | lia | omega)
theorem b_MM {M m : Int} (hM : 0 ≤ M ∧ M ≤ 512) (R : Int) (h : M - m = R) (hR : 0 ≤ R ∧ R ≤ 512) : (M - m).natAbs < 2 ^ 53 := by omega
theorem b_Mx {M x R : Int} (hR : 0 ≤ R ∧ R ≤ 512) (hx : 0 ≤ x ∧ x ≤ R) : (M - (M - x)).natAbs < 2 ^ 53 := by (first | lia | omega)
theorem b_a {a : Int} (h : 0 ≤ a ∧ a ≤ 32) : a.natAbs < 2 ^ 53 := by omega
theorem b_W {W : Int} (h : 1 ≤ W ∧ W ≤ 16) : 32 * W ≠ 0 ∧ 0 ≤ 32 * W ∧ 32 * W ≤ 512 := by (first | lia | omega)
theorem W_16 {B C : Int} (hB : 1 ≤ B ∧ B ≤ 4) (hC : 1 ≤ C ∧ C ≤ 4) : 1 ≤ B * C ∧ B * C ≤ 16 := by
  have := W_b hB hC
  generalize B * C = W at *
  clear hC
  (first | lia | omega)
theorem sub_z {M x : Int} : M - x = M ↔ x = 0 := by (first | lia | omega)
theorem quo_e (W a : Int) : W * a * 2 ^ (5 + 9) = a * (32 * W) * 2 ^ 9 := by grind
theorem m_ne {M m R : Int} (h : M - m = R) (hR : R ≠ 0) : m ≠ M := by (first | lia | omega)
theorem core_gen {B C : Int} (hB : 1 ≤ B ∧ B ≤ 4) (hC : 1 ≤ C ∧ C ≤ 4) {r g b : UInt64} {nM nm a1 a2 a3 : Int} (h1 : 0 ≤ a1 ∧ a1 ≤ 32) (h2 : 0 ≤ a2 ∧ a2 ≤ 32) (h3 : 0 ≤ a3 ∧ a3 ≤ 32)
    (z : a1 = 0 ∨ a2 = 0 ∨ a3 = 0) (o : a1 = 32 ∨ a2 = 32 ∨ a3 = 32) (hM : 0 ≤ nM ∧ nM ≤ 512) (hd : nM - nm = 32 * (B * C)) (er : Ex 9 r (nM - B * C * a1)) (eg : Ex 9 g (nM - B * C * a2)) (eb : Ex 9 b (nM - B * C * a3)) :
    Core (B * C) r g b a1 a2 a3 (nM - B * C * a1) (nM - B * C * a2) (nM - B * C * a3) nM nm := by
  have hW := W_16 hB hC
  generalize B * C = W at *
  have w0 : 0 ≤ W := Int.le_trans (by decide) hW.1
  have bW := b_W hW
  have m1 := Wm_b w0 h1
  have m2 := Wm_b w0 h2
  have m3 := Wm_b w0 h3
  have eM : Ex 9 (mx3 r g b) nM := by
    have := mx3_ex er eg eb
    rw [max_c m1.1 m2.1 m3.1 (by rw [prod0 hW.1, prod0 hW.1, prod0 hW.1]; exact z)] at this
    exact this
  have top : ∀ {a : Int}, a = 32 → W * a = 32 * W := fun e => by rw [e, Int.mul_comm]
  have em : Ex 9 (mn3 r g b) nm := by
    have := mn3_ex er eg eb
    rw [min_c m1.2 m2.2 m3.2 (o.imp top (Or.imp top top)), ← hd, sub_M] at this
    exact this
  have eD : Ex 9 (sub (mx3 r g b) (mn3 r g b)) (32 * W) := by
    have := sub_ex (by decide) eM em (b_MM hM _ hd bW.2)
    rw [hd] at this
    exact this
  have dd : ∀ {x : UInt64} {a : Int}, Ex 9 x (nM - W * a) → 0 ≤ a ∧ a ≤ 32 → Ex 5 (div (sub (mx3 r g b) x) (sub (mx3 r g b) (mn3 r g b))) a := fun {x a} ex ha => by
    have hs : Ex 9 (sub (mx3 r g b) x) (W * a) := by
      have := sub_ex (by decide) eM ex (b_Mx bW.2 (Wm_b w0 ha))
      rw [sub_M] at this
      exact this
    exact div_ex (K := 9) (J := 9) (I := 5) (by decide) (by decide) (by decide) hs eD bW.1 (b_a ha) (quo_e W a)
  exact ⟨eM, em, eD, dd er h1, dd eg h2, dd eb h3, m_ne hd bW.1, sub_z.trans (prod0 hW.1), sub_z.trans (prod0 hW.1)⟩
theorem n_b {u : Int} (h : 0 ≤ u ∧ u ≤ 32) : 0 ≤ 32 - u ∧ 32 - u ≤ 32 := by (first | lia | omega)
theorem n_0 {u : Int} (h : u = 32) : 32 - u = 0 := by (first | lia | omega)
theorem n_32 {u : Int} (h : u = 0) : 32 - u = 32 := by (first | lia | omega)
theorem n_B {B : Int} (h : 1 ≤ B ∧ B ≤ 4) : 0 ≤ 128 * B ∧ 128 * B ≤ 512 := by (first | lia | omega)
theorem n_B0 {B : Int} (h : 1 ≤ B ∧ B ≤ 4) : 128 * B ≠ 0 := by omega
theorem n_C {C : Int} (h : 1 ≤ C ∧ C ≤ 4) : C.natAbs < 2 ^ 53 := by omega
theorem n_e (B C : Int) : 32 * (B * C) * 2 ^ (2 + 9) = C * (128 * B) * 2 ^ 9 := by grind
theorem n_q {P : Int} (h : 0 ≤ P ∧ P < 64) : -64 < (if P < 54 then P else P - 64) ∧ (if P < 54 then P else P - 64) < 64 ∧ (if P < 54 then P else P - 64) % 64 = P := by
  split <;> (first | lia | omega)
section
variable {prog : Program} {w : World} {p : Program} {loose : List Str} {mean : ExcName → Option Value} {mg mb : Str → Option Value} {news : Led9}
theorem u_near (x : Int) {c : Nat → UInt64} {t1 t2 t3 : Tok} (z1 : t1 ≠ 0) (z2 : t2 ≠ 0) (z3 : t3 ≠ 0) (hc : ColE x false c) :
    PureC prog w (hd.heap_39 w.params) p loose mean mg mb 3 52 news [.float (c 0) t1, .float (c 1) t2, .float (c 2) t3] (fun r own => ∃ T n t, NearE x n ∧ (∀ j, t j ≠ 0) ∧ r = .ref T ∧ own = [(T, p3 n t)]) := by
  have hP := pl_b x
  have hC := cA_b x
  have hB := bA_b x
  have c0 := hc 0 (by decide)
  have c1 := hc 1 (by decide)
  have c2 := hc 2 (by decide)
  unfold NearE
  unfold colI at c0 c1 c2
  simp only [Bool.false_eq_true, if_false] at c0 c1 c2
  generalize plA x = P at *
  generalize cA x = C at *
  generalize bA x = B at *
  have hb := rho_b P
  have cv : ∀ u : Int, B * (128 - C * (32 - u)) = 128 * B - B * C * (32 - u) := fun u => col_lin B C u
  rw [cv] at c0 c1 c2
  have R := rho_ok hP
  have K := core_gen (nm := 128 * B - 32 * (B * C)) hB hC (n_b (hb 0)) (n_b (hb 1)) (n_b (hb 2)) (R.1.imp n_0 (Or.imp n_0 n_0)) (R.2.1.imp n_32 (Or.imp n_32 n_32)) (n_B hB) sub_M c0 c1 c2
  have bW := b_W (W_16 hB hC)
  refine PureC.mono (c_rgb_to_hsv news _ _ _ t1 t2 t3 z1 z2 z3 _ _ _ rfl rfl rfl (by rw [eqb K.em K.eM]; simpa using K.ne) (by rw [isZero_ex (by decide) K.eD]; exact decide_eq_false bW.1) (by rw [isZero_ex (by decide) K.eM]; exact decide_eq_false (n_B0 hB))) fun r own ho => ?_
  obtain ⟨T, u1, u2, u3, k1, k2, k3, rfl, rfl⟩ := ho
  refine ⟨T, tri _ _ _, triT u1 u2 u3, ⟨?_, ?_, ?_⟩, triT_ne k1 k2 k3, rfl, rfl⟩
  · have q := n_q hP
    rw [← q.2.2]
    exact hue_gen c0 c1 K.eM K.h1 K.h2 K.d1 K.d2 K.d3 (n_b (hb 0)) (n_b (hb 1)) (n_b (hb 2)) R.2.2.1 q.1 q.2.1
  · exact div_ex (K := 9) (J := 9) (I := 2) (by decide) (by decide) (by decide) K.eD K.eM (n_B0 hB) (n_C hC) (n_e B C)
  · refine down_ex (K := 2) (J := 7) ?_ (by decide)
    rw [show B * 2 ^ 7 = 128 * B from Int.mul_comm _ _]
    exact K.eM
end
end
section
open PySem PySem.W PyProof.Rows PySem.Flt PySem.Spec PySem.Calls PySem.Float64
theorem le_or {a b : Int} : (decide (a < b) || decide (a = b)) = decide (a ≤ b) := by
  by_cases h : a ≤ b
  · rw [decide_eq_true h]; simp; (first | lia | omega)
  · rw [decide_eq_false h]; simp; (first | lia | omega)
noncomputable def lit512 (c : Int) : UInt64 := div (ofInt c) (ofInt 512)
theorem lit512_ex {c : Int} (h : c.natAbs < 2 ^ 53) : Ex 9 (lit512 c) c :=
  div_ex (K := 0) (J := 0) (I := 9) (by decide) (by decide) (by decide) (ofInt_ex c h) (ofInt_ex 512 (by decide)) (by decide) h (by (first | lia | omega))
theorem share_all : ∀ B C : Fin 4, div (lit512 (32 * ((B.1 + 1 : Int) * (C.1 + 1)))) (lit512 (32 * (if 16 ≤ (B.1 + 1 : Int) * (8 - (C.1 + 1)) then 32 - (B.1 + 1 : Int) * (8 - (C.1 + 1)) else (B.1 + 1 : Int) * (8 - (C.1 + 1))))) = shareF (C.1 + 1) (B.1 + 1) := by decide +kernel
theorem L_e (B C : Int) : B * (8 - C) = 8 * B - B * C := by grind
theorem L_b {B C : Int} (hB : 1 ≤ B ∧ B ≤ 4) (hC : 1 ≤ C ∧ C ≤ 4) : 4 ≤ B * (8 - C) ∧ B * (8 - C) ≤ 28 := by
  have := W_b hB hC
  rw [L_e]
  generalize B * C = W at *
  clear hC
  (first | lia | omega)
theorem s_if {L : Int} (h : 4 ≤ L ∧ L ≤ 28) : 32 * (if 16 ≤ L then 32 - L else L) ≠ 0 ∧ (32 * (if 16 ≤ L then 32 - L else L)).natAbs < 2 ^ 53 := by split <;> omega
theorem b_W2 {W : Int} (h : 1 ≤ W ∧ W ≤ 16) : (32 * W).natAbs < 2 ^ 53 := by omega
theorem fin4 {B : Int} (h : 1 ≤ B ∧ B ≤ 4) : ∃ i : Fin 4, B = (i.1 : Int) + 1 := ⟨⟨(B - 1).toNat, by omega⟩, by show B = ((B - 1).toNat : Int) + 1; omega⟩
theorem share_eq {B C : Int} (hB : 1 ≤ B ∧ B ≤ 4) (hC : 1 ≤ C ∧ C ≤ 4) {D S : UInt64} (eD : Ex 9 D (32 * (B * C))) (eS : Ex 9 S (32 * (if 16 ≤ B * (8 - C) then 32 - B * (8 - C) else B * (8 - C)))) : div D S = shareF C B := by
  have hW := W_16 hB hC
  have hs := s_if (L_b hB hC)
  rw [ex_bits eD (lit512_ex (b_W2 hW)) (b_W hW).1, ex_bits eS (lit512_ex hs.2) hs.1]
  clear eD eS hs hW
  obtain ⟨i, rfl⟩ := fin4 hB
  obtain ⟨j, rfl⟩ := fin4 hC
  exact share_all i j
theorem f_cv (B C u : Int) : 512 - B * (128 - C * (32 - u)) = 512 - 128 * B + 32 * (B * C) - B * C * u := by grind
theorem f_n {z : Int} (h : 0 ≤ z ∧ z ≤ 512) : (512 - z).natAbs < 2 ^ 53 := by omega
theorem f_M {B W : Int} (hB : 1 ≤ B ∧ B ≤ 4) (h : B ≤ W ∧ W ≤ 4 * B) : 0 ≤ 512 - 128 * B + 32 * W ∧ 512 - 128 * B + 32 * W ≤ 512 := by (first | lia | omega)
theorem f_d (a W : Int) : a + W - a = W := by (first | lia | omega)
theorem f_s {B W : Int} (hB : 1 ≤ B ∧ B ≤ 4) (h : B ≤ W ∧ W ≤ 4 * B) : (512 - 128 * B + 32 * W + (512 - 128 * B)).natAbs < 2 ^ 53 := by omega
theorem f_l {B W L : Int} (e : L = 8 * B - W) : (512 - 128 * B + 32 * W + (512 - 128 * B)) * 2 ^ (5 + 0) = (32 - L) * 2 * 2 ^ 9 := by (first | lia | omega)
theorem f_lb {L : Int} (h : 4 ≤ L ∧ L ≤ 28) : (32 - L).natAbs < 2 ^ 53 := by omega
theorem f_2 {B W : Int} (hB : 1 ≤ B ∧ B ≤ 4) (h : B ≤ W ∧ W ≤ 4 * B) : (2 * 2 ^ 9 - (512 - 128 * B + 32 * W)).natAbs < 2 ^ 53 ∧ (2 * 2 ^ 9 - (512 - 128 * B + 32 * W) - (512 - 128 * B)).natAbs < 2 ^ 53 := by omega
theorem f_S {B W L : Int} (e : L = 8 * B - W) : 32 * (32 - L) = 512 - 128 * B + 32 * W + (512 - 128 * B) ∧ 32 * L = 2 * 2 ^ 9 - (512 - 128 * B + 32 * W) - (512 - 128 * B) := by (first | lia | omega)
theorem f_ne {L : Int} (h : 4 ≤ L ∧ L ≤ 28) : 32 * (32 - L) ≠ 0 ∧ 32 * L ≠ 0 := by omega
theorem f_16 {L : Int} : 32 - L ≤ 16 ↔ 16 ≤ L := by (first | lia | omega)
theorem f_q {P : Int} (h : 0 ≤ P ∧ P < 64) : -64 < (if P < 22 then P + 32 else P - 32) ∧ (if P < 22 then P + 32 else P - 32) < 64 ∧ (if P < 22 then P + 32 else P - 32) % 64 = (P + 32) % 64 := by
  split <;> (first | lia | omega)
section
variable {prog : Program} {w : World} {p : Program} {loose : List Str} {mean : ExcName → Option Value} {mg mb : Str → Option Value} {news : Led9}
theorem u_far (x : Int) {c : Nat → UInt64} {t1 t2 t3 : Tok} (z1 : t1 ≠ 0) (z2 : t2 ≠ 0) (z3 : t3 ≠ 0) (hc : ColE x false c) :
    PureC prog w (hd.heap_39 w.params) p loose mean mg mb 3 45 news [.float (sub (ofInt 1) (c 0)) t1, .float (sub (ofInt 1) (c 1)) t2, .float (sub (ofInt 1) (c 2)) t3] (fun r own => ∃ T n t, FarE x n ∧ (∀ j, t j ≠ 0) ∧ r = .ref T ∧ own = [(T, p3 n t)]) := by
  have hP := pl_b x
  have hC := cA_b x
  have hB := bA_b x
  have i1 : Ex 9 (ofInt 1) 512 := up_ex (K := 0) (J := 9) (ofInt_ex 1 (by decide)) (by decide)
  have c0 := hc 0 (by decide)
  have c1 := hc 1 (by decide)
  have c2 := hc 2 (by decide)
  unfold FarE
  have hpl : plc x true = (plA x + 32) % 64 := by
    show (x.fmod 64 + 32).fmod 64 = (x.fmod 64 + 32) % 64
    rw [Int.fmod_eq_emod_of_nonneg _ (by decide)]
  rw [hpl]
  unfold colI at c0 c1 c2
  simp only [Bool.false_eq_true, if_false] at c0 c1 c2
  generalize plA x = P at *
  generalize cA x = C at *
  generalize bA x = B at *
  have hb := rho_b P
  have R := rho_ok hP
  have n0 := sub_ex (by decide) i1 c0 (f_n (col_b hB hC (hb 0)))
  have n1 := sub_ex (by decide) i1 c1 (f_n (col_b hB hC (hb 1)))
  have n2 := sub_ex (by decide) i1 c2 (f_n (col_b hB hC (hb 2)))
  rw [f_cv] at n0 n1 n2
  have hBC := W_16 hB hC
  have hBC2 := W_b hB hC
  have hL := L_e B C
  have hL2 := L_b hB hC
  have K := core_gen (nm := 512 - 128 * B) hB hC (hb 0) (hb 1) (hb 2) R.2.1 R.1 (f_M hB hBC2) (f_d _ _) n0 n1 n2
  have eS := add_ex (by decide) K.eM K.em (f_s hB hBC2)
  have el : Ex 5 (div (add (mx3 (sub (ofInt 1) (c 0)) (sub (ofInt 1) (c 1)) (sub (ofInt 1) (c 2))) (mn3 (sub (ofInt 1) (c 0)) (sub (ofInt 1) (c 1)) (sub (ofInt 1) (c 2)))) f2) (32 - B * (8 - C)) :=
    div_ex (K := 9) (J := 0) (I := 5) (by decide) (by decide) (by decide) eS f2_ex (by decide) (f_lb hL2) (f_l hL)
  have eh : Ex 5 (4602678819172646912 : UInt64) 16 := up_ex (K := 1) (J := 4) half_ex (by decide)
  have e2 := sub_ex (by decide) (sub_ex (by decide) (up_ex (K := 0) (J := 9) f2_ex (by decide)) K.eM (f_2 hB hBC2).1) K.em (f_2 hB hBC2).2
  refine PureC.mono (c_rgb_to_hls news _ _ _ t1 t2 t3 z1 z2 z3 _ _ _ _ _ (shareF C B) rfl rfl rfl rfl rfl (by rw [eqb K.em K.eM]; simpa using K.ne) (by rw [isZero_ex (by decide) K.eD]; exact decide_eq_false (b_W hBC).1) ?_) fun r own ho => ?_
  · by_cases h : 16 ≤ B * (8 - C)
    · refine .inl ⟨by rw [isZero_ex (by decide) eS, ← (f_S hL).1]; exact decide_eq_false (f_ne hL2).1, by rw [ltb el eh, eqb el eh, le_or]; exact decide_eq_true (f_16.mpr h), share_eq hB hC K.eD ?_⟩
      rw [if_pos h, (f_S hL).1]
      exact eS
    · refine .inr ⟨by rw [isZero_ex (by decide) e2, ← (f_S hL).2]; exact decide_eq_false (f_ne hL2).2, by rw [ltb el eh, eqb el eh, le_or]; exact decide_eq_false (fun q => h (f_16.mp q)), share_eq hB hC K.eD ?_⟩
      rw [if_neg h, (f_S hL).2]
      exact e2
  obtain ⟨T, u1, u2, u3, k1, k2, k3, rfl, rfl⟩ := ho
  refine ⟨T, tri _ _ _, triT u1 u2 u3, ⟨?_, el, rfl⟩, triT_ne k1 k2 k3, rfl, rfl⟩
  have q := f_q hP
  show Ex 6 _ ((P + 32) % 64)
  rw [← q.2.2]
  exact hue_gen n0 n1 K.eM K.h1 K.h2 K.d1 K.d2 K.d3 (hb 0) (hb 1) (hb 2) R.2.2.2 q.1 q.2.1
end
end
section
open PySem PySem.W PyProof.Rows PySem.Flt PySem.Spec PySem.Calls PySem.Float64 PySem.SeqAt
theorem cmp_self {x : UInt64} (h : Float64.isNaN x = false) : cmp x x = some .eq := by
  have := canon_cases x
  unfold Float64.isNaN at h
  unfold cmp
  cases hd : decode x with
  | nan => rw [hd] at h; cases h
  | inf a => simp
  | fin a m e => simp [align]
theorem near_c1 {x : Int} {n : Nat → UInt64} (h : NearE x n) : cmp (n 0) (ofFrac (decide (x.fmod 64 < 0) != decide ((64 : Int) < 0)) (x.fmod 64).natAbs (64 : Int).natAbs) = some .eq :=
  ex_uniq h.1 (quot_ex 6 (by decide) (by decide) (by have := fm64 x; omega))
theorem near_c2 {x : Int} {n : Nat → UInt64} (h : NearE x n) : cmp (n 1) (ofFrac (decide (1 + (x.fdiv 64).fmod 4 < 0) != decide ((4 : Int) < 0)) (1 + (x.fdiv 64).fmod 4).natAbs (4 : Int).natAbs) = some .eq :=
  ex_uniq h.2.1 (share_ex x)
theorem near_c3 {x : Int} {n : Nat → UInt64} (h : NearE x n) : cmp (n 2) (ofFrac (decide (1 + (x.fdiv 256).fmod 4 < 0) != decide ((4 : Int) < 0)) (1 + (x.fdiv 256).fmod 4).natAbs (4 : Int).natAbs) = some .eq :=
  ex_uniq h.2.2 (level_ex x)
theorem light_b (x : Int) : 4 ≤ bA x * (8 - cA x) ∧ bA x * (8 - cA x) ≤ 28 := by
  have hB := bA_b x
  have hC := cA_b x
  rcases four hB with h | h | h | h <;> rw [h] <;> (first | lia | omega)
theorem far_c1 {x : Int} {n : Nat → UInt64} (h : FarE x n) : cmp (n 0) (ofFrac (decide ((x.fmod 64 + 32).fmod 64 < 0) != decide ((64 : Int) < 0)) ((x.fmod 64 + 32).fmod 64).natAbs (64 : Int).natAbs) = some .eq :=
  ex_uniq h.1 (quot_ex 6 (by decide) (by decide) (by have := fm64 (x.fmod 64 + 32); omega))
theorem far_c2 {x : Int} {n : Nat → UInt64} (h : FarE x n) : cmp (n 1) (ofFrac (decide (32 - (1 + (x.fdiv 256).fmod 4) * (8 - (1 + (x.fdiv 64).fmod 4)) < 0) != decide ((32 : Int) < 0)) (32 - (1 + (x.fdiv 256).fmod 4) * (8 - (1 + (x.fdiv 64).fmod 4))).natAbs (32 : Int).natAbs) = some .eq :=
  ex_uniq h.2.1 (quot_ex 5 (by decide) (by decide) (by have := light_b x; unfold bA cA at this; omega))
theorem far_c3 {x : Int} {n : Nat → UInt64} {mn : Int} (h : FarE x n) (hm : mn = min (bA x * (8 - cA x)) (32 - bA x * (8 - cA x))) : cmp (n 2) (ofFrac (decide ((1 + (x.fdiv 256).fmod 4) * (1 + (x.fdiv 64).fmod 4) < 0) != decide (mn < 0)) ((1 + (x.fdiv 256).fmod 4) * (1 + (x.fdiv 64).fmod 4)).natAbs mn.natAbs) = some .eq := by
  have hl := light_b x
  have e1 : decide ((1 + (x.fdiv 256).fmod 4) * (1 + (x.fdiv 64).fmod 4) < 0) = false := by
    have hB := bA_b x
    have hC := cA_b x
    have : 0 ≤ bA x * cA x := Int.mul_nonneg (by omega) (by omega)
    exact decide_eq_false (by unfold bA cA at this; omega)
  have e2 : decide (mn < 0) = false := decide_eq_false (by omega)
  rw [e1, e2, h.2.2, hm]
  show cmp (shareF (cA x) (bA x)) (shareF (cA x) (bA x)) = some .eq
  exact cmp_self (by unfold shareF ofFrac; exact PySem.W.isNaN_pack _ (PySem.W.roundMag_le _ _))
end
section
open PySem PySem.W PyProof.Rows PySem.Flt PySem.Spec PySem.Calls
theorem my_min {prog : Program} {w : World} {A : Around} {E : Value → Shared → Prop} {s : Shared} {h₀ : Heap} {L : Addr} {m : Str → Option Value} {news : Led9} {a b : Int} {t u : Tok} {Q : Value → Shared → Prop} (hh : A.handled = none) (F : Fr h₀ L s.heap m) (N : News h₀ L s.heap news) (hp : 0 < s.toks)
    (h : ∀ h' tk mn t', mn = min a b → 0 < tk → Fr h₀ L h' m → News h₀ L h' news → Q (.int mn t') { s with heap := h', toks := tk }) :
    wpAny (model prog w) A (call (.builtin "min") [.int a t, .int b u]) Q E s := by
  refine wpAny_with_toks (n := 1) hp (min_two_N hh F N fun h' tk F' N' hp' => ?_)
  exact h h' tk _ _ (by split <;> (first | lia | omega)) hp' F' N'
end
section
open PySem PySem.W PyProof.Rows PySem.Flt PySem.Spec PySem.Calls
section
variable {K : Type} [DecidableEq K]
theorem valueAt_cons (a : K) (b : Value) (r : List (K × Value)) (k : K) : valueAt ((a, b) :: r) k = if a = k then some b else valueAt r k := by
  unfold valueAt
  by_cases h : a = k
  · simp [h]
  · simp [h]
theorem valueAt_snoc (kvs : List (K × Value)) (k : K) (v : Value) (k' : K) (h : kvs.any (fun kv => kv.1 = k) = false) : valueAt (kvs ++ [(k, v)]) k' = if k' = k then some v else valueAt kvs k' := by
  induction kvs with
  | nil => 
    show valueAt [(k, v)] k' = _
    rw [valueAt_cons]
    by_cases e : k = k'
    · rw [if_pos e, if_pos e.symm]
    · rw [if_neg e, if_neg (fun q => e q.symm)]
  | cons p r ih =>
    obtain ⟨a, b⟩ := p
    simp only [List.any_cons, Bool.or_eq_false_iff, decide_eq_false_iff_not] at h
    rw [List.cons_append, valueAt_cons, ih h.2, valueAt_cons]
    by_cases e : k' = k
    · subst e
      rw [if_neg h.1, if_pos rfl, if_pos rfl]
    · rw [if_neg e, if_neg e]
theorem valueAt_map (kvs : List (K × Value)) (k : K) (v : Value) (k' : K) : valueAt (kvs.map fun kv => if kv.1 = k then (kv.1, v) else kv) k' = if k' = k then (if kvs.any (fun kv => kv.1 = k) then some v else none) else valueAt kvs k' := by
  induction kvs with
  | nil => simp [valueAt]
  | cons p r ih =>
    obtain ⟨a, b⟩ := p
    rw [List.map_cons]
    by_cases ha : a = k
    · subst ha
      simp only [if_true]
      rw [valueAt_cons, ih, valueAt_cons]
      by_cases e : k' = a
      · subst e; simp
      · rw [if_neg (fun q => e q.symm), if_neg e, if_neg e, if_neg (fun q => e q.symm)]
    · simp only [ha, if_false]
      rw [valueAt_cons, ih, valueAt_cons]
      by_cases e : k' = k
      · subst e
        rw [if_neg ha, if_pos rfl, if_pos rfl, List.any_cons, decide_eq_false ha, Bool.false_or]
      · rw [if_neg e, if_neg e]
theorem valueAt_stored (kvs : List (K × Value)) (k : K) (v : Value) (k' : K) : valueAt (stored kvs k v) k' = if k' = k then some v else valueAt kvs k' := by
  unfold stored
  by_cases h : kvs.any (fun kv => kv.1 = k) = true
  · rw [if_pos h, valueAt_map, h]; rfl
  · rw [if_neg h, valueAt_snoc _ _ _ _ (Bool.not_eq_true _ ▸ h)]
end
theorem stored_here {kvs : List (Str × Value)} {k : Str} {v : Value} : valueAt (stored kvs k v) k = some v := by rw [valueAt_stored, if_pos rfl]
theorem nm_ne {i : Nat} (hi : i < 4) : nm i false ≠ nm i true := fun h => Bool.noConfusion (nm_inj hi hi h).2
theorem stored_two {kvs : List (Str × Value)} {i : Nat} {v u : Value} (hi : i < 4) : valueAt (stored (stored kvs (nm i false) v) (nm i true) u) (nm i false) = some v := by
  rw [valueAt_stored, if_neg (nm_ne hi), stored_here]
theorem tab_zT {y : Nat → Int} {i : Nat} {kT kE : List (Str × Value)} {rest : Led9} (T : Tab1 y i kT kE rest) (hi : i < 4) : kT.length ≤ sizeLine := by rw [sizeLine_eq]; have := T.zT; (first | lia | omega)
theorem tab_zE {y : Nat → Int} {i : Nat} {kT kE : List (Str × Value)} {rest : Led9} (T : Tab1 y i kT kE rest) (hi : i < 4) : kE.length ≤ sizeLine := by rw [sizeLine_eq]; have := T.zE; omega
theorem tab_zT1 {y : Nat → Int} {i : Nat} {kT kE : List (Str × Value)} {rest : Led9} {k : Str} {v : Value} (T : Tab1 y i kT kE rest) (hi : i < 4) : (stored kT k v).length ≤ sizeLine := by rw [sizeLine_eq]; have := T.zT; have := stored_length_le kT k v; (first | lia | omega)
theorem tab_zE1 {y : Nat → Int} {i : Nat} {kT kE : List (Str × Value)} {rest : Led9} {k : Str} {v : Value} (T : Tab1 y i kT kE rest) (hi : i < 4) : (stored kE k v).length ≤ sizeLine := by rw [sizeLine_eq]; have := T.zE; have := stored_length_le kE k v; omega
section
variable {prog : Program} {w : World} {A : Around} {E : Value → Shared → Prop} {s : Shared} {h₀ : Heap} {L : Addr} {m : Str → Option Value} {news : Led9}
theorem law_len {l : Addr} {pv : List Value} {n i : Nat} {y : Nat → Int} {Q : Value → Shared → Prop} (N : News h₀ L s.heap news) (hm : (l, lst pv n) ∈ news) (hp : Plc1 y i pv) (hi : i < 4) (h : Q (.int (i : Int) (s.toks + 1)) { s with toks := s.toks + 1 + 1 }) :
    wpAny (model prog w) A (call (.builtin "len") [.ref l]) Q E s := by
  have hl : pv.length = i := by rw [hp.isI.length]; simp
  have e : pv.toArray.size = i := by rw [List.size_toArray, hl]
  refine call_len_list (items := pv.toArray) ⟨_, (N _ hm).1, rfl, n, rfl⟩ (by rw [e]; (first | lia | omega)) ?_
  rw [e]
  exact h
theorem my_chr {c i : Nat} {t : Tok} {Q : Value → Shared → Prop} (hi : i < 4) (hc : c = 97 ∨ c = 65) (h : Q (.str (nm i (c == 65)) s.toks) { s with toks := s.toks + 1 }) :
    wpAny (model prog w) A (call (.builtin "chr") [.int ((c : Int) + (i : Int)) t]) Q E s := by
  refine chr_of_range (by (first | lia | omega)) (by (first | lia | omega)) ?_
  have : ∀ i : Fin 4, ∀ b : Bool, (⟨#[((if b then 65 else 97 : Nat) + i.1)]⟩ : Str) = nm i.1 b := by decide +kernel
  have e : (((c : Int) + (i : Int)).toNat) = c + i := by (first | lia | omega)
  rw [e]
  rcases hc with rfl | rfl
  · have := this ⟨i, hi⟩ false
    simp only [Bool.false_eq_true, if_false] at this
    rw [this]; exact h
  · have := this ⟨i, hi⟩ true
    simp only [if_true] at this
    rw [this]; exact h
theorem my_chrS {i : Nat} {t : Tok} {Q : Value → Shared → Prop} (hi : i < 4) (h : Q (.str (nm i false) s.toks) { s with toks := s.toks + 1 }) :
    wpAny (model prog w) A (call (.builtin "chr") [.int (97 + (i : Int)) t]) Q E s := my_chr (c := 97) hi (.inl rfl) h
theorem my_chrG {i : Nat} {t : Tok} {Q : Value → Shared → Prop} (hi : i < 4) (h : Q (.str (nm i true) s.toks) { s with toks := s.toks + 1 }) :
    wpAny (model prog w) A (call (.builtin "chr") [.int (65 + (i : Int)) t]) Q E s := my_chr (c := 65) hi (.inr rfl) h
end
end
section
open PySem PySem.W PyProof.Rows PySem.Flt PySem.Spec PySem.Calls
theorem int_near {x : Int} {n : Nat → UInt64} (h : NearE x n) : Ex 6 (Float64.mul (Float64.ofInt 64) (n 0)) (plc x false * 64) := by
  have hp := pl_b x
  have := mul_ex (K := 0) (J := 6) (by decide) (ofInt_ex 64 (by decide)) h.1 (by (first | lia | omega))
  rw [show plc x false * 64 = 64 * plA x by show plA x * 64 = _; (first | lia | omega)]
  exact this
theorem int_far {x : Int} {n : Nat → UInt64} (h : FarE x n) : Ex 6 (Float64.mul (Float64.ofInt 64) (n 0)) (plc x true * 64) := by
  have hp := plc_b x true
  have := mul_ex (K := 0) (J := 6) (by decide) (ofInt_ex 64 (by decide)) h.1 (by (first | lia | omega))
  rw [show plc x true * 64 = 64 * plc x true by (first | lia | omega)]
  exact this
section
variable {prog : Program} {w : World} {A : Around} {E : Value → Shared → Prop} {s : Shared} {h₀ : Heap} {L : Addr} {m : Str → Option Value} {news : Led9}
theorem my_item0 {value slice : PySem.Expr} {T : Addr} {n : Nat → UInt64} {t : Nat → Tok} {u : Tok} {Q : Value → Shared → Prop} (N : News h₀ L s.heap news) (hm : (T, p3 n t) ∈ news) (h : Q (.float (n 0) (t 0)) s)
    (hs : subscripted slice false (.ref T) (.int 0 u) = operate [.ref T, .int 0 u] (getItem (.ref T) (.int 0 u))) :
    wpAny (model prog w) A (subscriptTail value slice (.ref T) (.int 0 u)) Q E s :=
  item_tupleT (l := f3 n t) (j := 0) ⟨_, (N _ hm).1, rfl, _, rfl⟩ (by decide) (by decide) rfl rfl h hs
theorem my_intf {f : UInt64} {v : Int} {t : Tok} {Q : Value → Shared → Prop} (hh : A.handled = none) (hx : Ex 6 f (v * 64)) (hv : 0 ≤ v ∧ v < 64) (h : Q (.int v s.toks) { s with toks := s.toks + 1 }) :
    wpAny (model prog w) A (call (.type "int") [.float f t]) Q E s := by
  refine call_int_float3 hh (fun e => ?_) (fun e => ?_) fun _ => ?_
  · rw [not_nan_of_finite hx.1] at e; cases e
  · rw [not_inf_of_finite hx.1] at e; cases e
  · rw [toInt_ex (by decide) hx (by (first | lia | omega)), show v * 64 / 2 ^ 6 = v by (first | lia | omega)]
    exact h
theorem my_str {n : Int} {t : Tok} {Q : Value → Shared → Prop} (hv : 0 ≤ n ∧ n < 64) (h : Q (.str (itx n) s.toks) { s with toks := s.toks + 1 }) :
    wpAny (model prog w) A (call (.type "str") [.int n t]) Q E s :=
  P.str_of_int (shown_abs (N := 64) (by split <;> omega) (by decide +kernel)) h
end
end
section
open PySem PySem.W PyProof.Rows PySem.Flt PySem.Spec PySem.Calls
/-- a quotient of ints, as the program's «/» gives it -/
noncomputable def frac9 (a b : Int) : UInt64 := Float64.ofFrac (decide (a < 0) != decide (b < 0)) a.natAbs b.natAbs
theorem my_div {prog : Program} {w : World} {A : Around} {E : Value → Shared → Prop} {s : Shared} {a b : Int} {t u : Tok} {Q : Value → Shared → Prop} (hA : A.handled = none) (hf : a.natAbs < 2 ^ 53 ∧ b ≠ 0)
    (h : Q (.float (frac9 a b) s.toks) { s with toks := s.toks + 1 }) : wpAny (model prog w) A (binaryOp .Div (.int a t) (.int b u)) Q E s :=
  div_ii_fits hA (Nat.lt_trans hf.1 (Nat.pow_lt_pow_right (by decide) (by decide))) (fun e => absurd e hf.2) fun _ _ => h
theorem dv1 (x : Int) : (x.fmod 64).natAbs < 2 ^ 53 ∧ (64 : Int) ≠ 0 := ⟨by have := fm64 x; omega, by decide⟩
theorem dv2 (x : Int) : (1 + (x.fdiv 64).fmod 4).natAbs < 2 ^ 53 ∧ (4 : Int) ≠ 0 := ⟨by have := cA_b x; unfold cA at this; omega, by decide⟩
theorem dv3 (x : Int) : (1 + (x.fdiv 256).fmod 4).natAbs < 2 ^ 53 ∧ (4 : Int) ≠ 0 := ⟨by have := bA_b x; unfold bA at this; omega, by decide⟩
theorem dv5 (x : Int) : (32 - (1 + (x.fdiv 256).fmod 4) * (8 - (1 + (x.fdiv 64).fmod 4))).natAbs < 2 ^ 53 ∧ (32 : Int) ≠ 0 := ⟨by have := light_b x; unfold bA cA at this; omega, by decide⟩
theorem dv6 {x mn : Int} (h : mn = min ((1 + (x.fdiv 256).fmod 4) * (8 - (1 + (x.fdiv 64).fmod 4))) (32 - (1 + (x.fdiv 256).fmod 4) * (8 - (1 + (x.fdiv 64).fmod 4)))) : ((1 + (x.fdiv 256).fmod 4) * (1 + (x.fdiv 64).fmod 4)).natAbs < 2 ^ 53 ∧ mn ≠ 0 := by
  have hl := light_b x
  have hB := bA_b x
  have hC := cA_b x
  unfold bA cA at *
  refine ⟨?_, by omega⟩
  rcases four hB with e | e | e | e <;> rw [e] <;> omega
end
section
open PySem PySem.W PyProof.Rows PySem.Flt PySem.Spec PySem.Calls
section
variable {prog : Program} {w : World} {A : Around} {E : Value → Shared → Prop} {s : Shared} {h₀ : Heap} {L : Addr} {m : Str → Option Value} {news : Led9}
theorem law_append {l : Addr} {pv : List Value} {n : Nat} {x : Value} {Q : Value → Shared → Prop} {g : Obj → Led9} (F : Fr h₀ L s.heap m) (N : News h₀ L s.heap news) (U : UpdF l (lst pv n) news g) (hz : pv.length ≤ 1000)
    (h : ∀ h', Fr h₀ L h' m → News h₀ L h' (g (lst (pv ++ [x]) (n + 1))) → Q .none { s with heap := h' }) : wpAny (model prog w) A (call (.builtin "list.append") [.ref l, x]) Q E s := by
  refine append_K (its := pv.toArray) (n := n) F N (news' := g (lst (pv ++ [x]) (n + 1))) ?_ h (by rw [List.size_toArray, sizeLine_eq]; (first | lia | omega))
  have e : (pv.toArray.push x) = (pv ++ [x]).toArray := by simp
  show Upd l (lst pv n) (listOf (pv.toArray.push x) (n + 1)) _ _
  rw [e]
  exact updF_upd U _
theorem plc_z {y : Nat → Int} {i : Nat} {pv : List Value} (h : Plc1 y i pv) (hi : i < 4) : pv.length ≤ 1000 := by rw [h.isI.length]; simp; (first | lia | omega)
theorem my_addfi {a : UInt64} {n : Int} {t u : Tok} {Q : Value → Shared → Prop} (hA : A.handled = none) (hf : n.natAbs < 2 ^ 53) (h : Q (.float (Float64.add a (Float64.ofInt n)) s.toks) { s with toks := s.toks + 1 }) :
    wpAny (model prog w) A (binaryOp .Add (.float a t) (.int n u)) Q E s :=
  have hb : n.natAbs < 2 ^ 1024 - 2 ^ 970 := Nat.lt_trans hf (by decide +kernel)
  add_fi_sharp hA (fun e => absurd hb (Nat.not_lt.mpr e)) fun _ => h
theorem tau_f (x : Int) : ((x.fdiv 1024).fmod 4).natAbs < 2 ^ 53 := by have := tA_b x; unfold tA at this; omega
end
end
section
open PySem PySem.W PyProof.Rows PySem.Flt PySem.Spec PySem.Calls
theorem up1 {Q : Nat → Prop} {n : Nat} (h : ∀ k, k < n → Q k) (q : Q n) : ∀ k, k < n + 1 → Q k := fun k hk => (Nat.lt_succ_iff_lt_or_eq.mp hk).elim (h k) (fun e => e ▸ q)
theorem clean_t64 (P : Params) (i : Fin 64) : Clean P 87 (itx (i.1 : Int)) := by
  suffices h : ∀ k : Nat, k < 64 → Clean P 87 (itx (k : Int)) from h i.1 i.2
  repeat (refine up1 ?_ (by intro S t; kernel_rfl))
  exact fun _ h => absurd h (Nat.not_lt_zero _)
theorem clean_txt (P : Params) {n : Int} (h : 0 ≤ n ∧ n < 64) : Clean P 87 (itx n) := by
  have := clean_t64 P ⟨n.toNat, by (first | lia | omega)⟩
  have e : ((n.toNat : Nat) : Int) = n := by (first | lia | omega)
  simp only [e] at this
  exact this
theorem clean_nm4 (P : Params) (i : Fin 4) (e : Bool) : Clean P 82 (nm i.1 e) := by
  intro S t
  match i, e with
  | ⟨0, _⟩, false => kernel_rfl
  | ⟨1, _⟩, false => kernel_rfl
  | ⟨2, _⟩, false => kernel_rfl
  | ⟨3, _⟩, false => kernel_rfl
  | ⟨0, _⟩, true => kernel_rfl
  | ⟨1, _⟩, true => kernel_rfl
  | ⟨2, _⟩, true => kernel_rfl
  | ⟨3, _⟩, true => kernel_rfl
  | ⟨_ + 4, h⟩, _ => exact absurd h (by (first | lia | omega))
theorem clean_nm (P : Params) {i : Nat} {e : Bool} (h : i < 4) : Clean P 82 (nm i e) := clean_nm4 P ⟨i, h⟩ e
theorem text64 : ∀ i : Fin 64, PySem.intText? (itx (i.1 : Int)) = some (i.1 : Int) ∧ (itx (i.1 : Int)).length ≤ 640 := by decide +kernel
theorem my_intt {prog : Program} {w : World} {A : Around} {E : Value → Shared → Prop} {s : Shared} {n : Int} {t : Tok} {Q : Value → Shared → Prop} (h : 0 ≤ n ∧ n < 64) (hq : Q (.int n s.toks) { s with toks := s.toks + 1 }) : wpAny (model prog w) A (call (.type "int") [.str (itx n) t]) Q E s := by
  have := text64 ⟨n.toNat, by (first | lia | omega)⟩
  have e : ((n.toNat : Nat) : Int) = n := by (first | lia | omega)
  simp only [e] at this
  exact KIN.call_text this.1 this.2 hq
theorem updF_addr {d : Addr} {o o1 o2 : Obj} {l : Led9} {g : Obj → Led9} (U : UpdF d o l g) {T : Addr} (h : ∀ p ∈ g o1, p.1 < T) : ∀ p ∈ g o2, p.1 < T := by
  obtain ⟨pre, post, _, hg, _, _⟩ := U.split
  rw [hg] at h ⊢
  intro p hp
  rcases List.mem_append.mp hp with hp | hp
  · exact h p (List.mem_append_left _ hp)
  · rcases List.mem_cons.mp hp with rfl | hp
    · exact h (d, o1) (List.mem_append_right _ (.head _))
    · exact h p (List.mem_append_right _ (.tail _ hp))
section
variable {prog : Program} {w : World} {p : Program} {loose : List Str} {mean : ExcName → Option Value} {mg mb : Str → Option Value}
theorem use_set {news : Led9} {hx dx H : Addr} {tk : Tok} {its itsF : List HI} {n : Nat} {name ln v : Str} {t1 t2 : Tok} {g : Obj → Led9}
  (hI : (hx, instObj 210 dx) ∈ news) (hD : (dx, hdD w.params tk H) ∈ news) (U : UpdF H (lst (its.map HI.val) n) news g) (hm : (H, lst (its.map HI.val) n) ∈ news) (hit : ∀ i ∈ its, i.ent ∈ news) (hnm : ∀ i ∈ its, Nm i.nm i.low) (hsz : its.length ≤ 1000)
  (hn : Nm name ln) (hc : Clean w.params 82 ln) (hc1 : Clean w.params 82 name) (hc2 : Clean w.params 87 v) (hF : (its.filter fun i => i.low != ln) = itsF)
  {dp un : Nat} {gd : Option (List Code)} {cn : Str} {cs : Scope} {a : Addr} {ccd : Value} {cl : List (Str × Addr)} {outer : List Env} {A₀ : Around} {base h₀ : Heap} {L : Addr} {m : Str → Option Value} {s : Shared} {Q E : Value → Shared → Prop}
  (B : Below A₀ base outer h₀) (F : Fr h₀ L s.heap m) (X : (hd.heap_39 w.params).In h₀) (N : News h₀ L s.heap news) (T : Top p loose mean mg mb h₀) (hk : cs.kind = .function) (hd9 : dp + 9 < recursionLimit) (hu : un + 8 * 9 < cLine)
  (ret : ∀ T n' h' tk', Fr h₀ L h' m → News h₀ L h' ((T, tup [.str name t1, .str v t2]) :: g (lst ((itsF ++ [(⟨T, name, t1, v, t2, ln⟩ : HI)]).map HI.val) n')) → (∀ p ∈ g (lst ((itsF ++ [(⟨T, name, t1, v, t2, ln⟩ : HI)]).map HI.val) n'), p.1 < T) → Q .none { s with heap := h', toks := tk' }) :
  wpAny (model prog w) (ktrTop dp un gd cn cs L a ccd cl outer) (call (.ref 123) [.ref hx, .str name t1, .str v t2]) Q E s := by
  subst hF
  refine c_setitem news hx dx H tk its n name ln v t1 t2 g hI hD hm hit hnm hsz hn hc hc1 hc2 (updF_upd U) dp un gd cn cs a ccd cl outer A₀ base h₀ L m s Q E B F X N T hk hd9 hu ?_
  rintro r led h' tk' ⟨rfl, T', n', hl, rfl⟩ F' N'
  refine ret T' (n' + 1) h' tk' F' ?_ ?_
  · rw [List.map_append]
    exact N'
  · exact updF_addr U hl
end
end
section
open PySem PySem.W PyProof.Rows PySem.Flt PySem.Spec PySem.Calls
theorem its_up {its : List HI} {rest : Led9} {x : Addr × Obj} (h : ∀ i ∈ its, i.ent ∈ rest) : ∀ i ∈ its, i.ent ∈ x :: rest := fun i hi => .tail _ (h i hi)
theorem its_snoc {its : List HI} {all : Led9} {i0 : HI} (h : ∀ i ∈ its, i.ent ∈ all) (h0 : i0.ent ∈ all) : ∀ i ∈ its ++ [i0], i.ent ∈ all := fun i hi => by
  rcases List.mem_append.mp hi with hi | hi
  · exact h i hi
  · rw [List.mem_singleton.mp hi]; exact h0
theorem hd_all {y : Nat → Int} {i : Nat} {its : List HI} {rest : Led9} (H : Hd1 y i its rest) : ∀ it ∈ its, ∃ j, j < i ∧ it.nm = nm j false ∧ it.low = nm j false ∧ it.ent ∈ rest := fun it hit => by
  obtain ⟨j, hj, e⟩ := List.getElem_of_mem hit
  have hl := H.len
  obtain ⟨it', e', a, b, _, d⟩ := H.at' j (by (first | lia | omega))
  rw [List.getElem?_eq_getElem hj] at e'
  obtain rfl : its[j] = it' := by simpa using e'
  subst e
  exact ⟨j, by (first | lia | omega), a, b, d⟩
theorem hd_ent {y : Nat → Int} {i : Nat} {its : List HI} {rest : Led9} (H : Hd1 y i its rest) : ∀ it ∈ its, it.ent ∈ rest := fun it hit => (hd_all H it hit).choose_spec.2.2.2
theorem hd_nm {y : Nat → Int} {i : Nat} {its : List HI} {rest : Led9} (H : Hd1 y i its rest) (hi : i < 4) : ∀ it ∈ its, Nm it.nm it.low := fun it hit => by
  obtain ⟨j, hj, a, b, _⟩ := hd_all H it hit
  rw [a, b]
  exact nm_Nm (by (first | lia | omega))
theorem hd_sz {y : Nat → Int} {i : Nat} {its : List HI} {rest : Led9} (H : Hd1 y i its rest) (hi : i < 4) : its.length ≤ 1000 := by rw [H.len]; (first | lia | omega)
theorem hd_ne {y : Nat → Int} {i : Nat} {its : List HI} {rest : Led9} (H : Hd1 y i its rest) (hi : i < 4) : ∀ it ∈ its, it.low ≠ nm i false := fun it hit e => by
  obtain ⟨j, hj, a, b, _⟩ := hd_all H it hit
  rw [b] at e
  have := low_inj (by (first | lia | omega)) hi e
  (first | lia | omega)
theorem hd_filt {y : Nat → Int} {i : Nat} {its : List HI} {rest : Led9} (H : Hd1 y i its rest) (hi : i < 4) : (its.filter fun it => it.low != nm i false) = its :=
  List.filter_eq_self.mpr fun it hit => by simpa using hd_ne H hi it hit
theorem hd_find {y : Nat → Int} {i : Nat} {its : List HI} {rest : Led9} {T : Addr} {v : Str} {t1 t2 : Tok} (H : Hd1 y i its rest) (hi : i < 4) :
    (its ++ [(⟨T, nm i false, t1, v, t2, nm i false⟩ : HI)]).find? (fun it => it.low == nm i false) = some ⟨T, nm i false, t1, v, t2, nm i false⟩ := by
  rw [List.find?_append, List.find?_eq_none.mpr (fun it hit => by simpa using hd_ne H hi it hit)]
  simp
theorem hd_nm2 {y : Nat → Int} {i : Nat} {its : List HI} {rest : Led9} {T : Addr} {v : Str} {t1 t2 : Tok} (H : Hd1 y i its rest) (hi : i < 4) : ∀ it ∈ its ++ [(⟨T, nm i false, t1, v, t2, nm i false⟩ : HI)], Nm it.nm it.low := fun it hit => by
  rcases List.mem_append.mp hit with h | h
  · exact hd_nm H hi it h
  · rw [List.mem_singleton.mp h]; exact nm_Nm hi
/-- the row with one more -/
theorem row_sz {y : Nat → Int} {i : Nat} {rv : List Value} {ns : List Int} (R : Row1 y i rv ns) (hi : i < 4) : rv.length < 2 ^ 20 := by
  rw [R.isI.length, R.perm.length_eq]; simp; (first | lia | omega)
end
section
open PySem PySem.W PyProof.Rows PySem.Flt PySem.Spec PySem.Calls
theorem my_seti {M : Model} {A : Around} {E : Value → Shared → Prop} {s : Shared} {K : Frag} {x C L f : Addr} {h₀ : Heap} {m : Str → Option Value} {ox : Obj} {od : Option Obj} {i v : Value} {Q : Unit → Shared → Prop} (F : Fr h₀ L s.heap m) (X₀ : K.In h₀) (I : InstAt s.heap x ox C od) (hs : findIn K (.ref C) "__setitem__" = some (some (.ref f))) (hf : isFn K (.ref f) = true) (hq : noSeq K C = true)
    (h : wpAny M A (call (.ref f) [.ref x, i, v]) (fun _ s' => Q () s') E s) : wpAny M A (setItem (.ref x) i v) Q E s := by
  have X := X₀.keeps F.keep
  unfold setItem sequenceKey
  refine wpAny_holding (wpAny_bind (wpAny_bind (I.type.here ?_)))
  refine wpAny_bind ((anyM_none X hq).here ?_)
  rw [if_pos (show (!false) = true from rfl)]
  exact wpAny_pure (wpAny_bind (special_fn X I hs (beq_iff_eq.mp hf) (wpAny_mono h (fun _ _ z => wpAny_pure z) fun _ _ z => z)))
end
section
open PySem PySem.W PyProof.Rows PySem.Flt PySem.Spec PySem.Calls
theorem ins_at (ns : List Int) (x : Int) (k i : Nat) (hk : k ≤ ns.length) : (ns.take k ++ x :: ns.drop k).getD i 0 = if i < k then ns.getD i 0 else if i = k then x else ns.getD (i - 1) 0 := by
  rw [List.getD_eq_getElem?_getD, List.getD_eq_getElem?_getD, List.getD_eq_getElem?_getD, List.getElem?_append, List.length_take, Nat.min_eq_left hk]
  by_cases h : i < k
  · rw [if_pos h, if_pos h, List.getElem?_take, if_pos h]
  · rw [if_neg h, if_neg h]
    by_cases e : i = k
    · subst e; simp
    · rw [if_neg e]
      obtain ⟨j, rfl⟩ : ∃ j, i = k + 1 + j := ⟨i - (k + 1), by (first | lia | omega)⟩
      rw [show k + 1 + j - k = j + 1 by (first | lia | omega), List.getElem?_cons_succ, List.getElem?_drop, show k + 1 + j - 1 = k + j by (first | lia | omega)]
/-- where x goes: all before it are less, all behind it no less -/
theorem sorted_ins {ns : List Int} {x : Int} {k : Nat} (hs : Sorted ns) (hk : k ≤ ns.length) (c : ∀ j, j < k → ns.getD j 0 ≤ x) (d : ∀ j, k ≤ j → j < ns.length → x ≤ ns.getD j 0) : Sorted (ns.take k ++ x :: ns.drop k) := by
  intro i j hij hj
  rw [List.length_append, List.length_take, List.length_cons, List.length_drop, Nat.min_eq_left hk, show k + (ns.length - k + 1) = ns.length + 1 by omega] at hj
  rw [ins_at _ _ _ _ hk, ins_at _ _ _ _ hk]
  by_cases h1 : i < k
  · rw [if_pos h1]
    by_cases h2 : j < k
    · rw [if_pos h2]; exact hs i j hij (Nat.lt_of_lt_of_le h2 hk)
    · rw [if_neg h2]
      by_cases h3 : j = k
      · rw [if_pos h3]; exact c i h1
      · rw [if_neg h3]; clear c d; exact hs i (j - 1) (by omega) (by omega)
  · rw [if_neg h1, if_neg (fun h => h1 (Nat.lt_of_le_of_lt hij h))]
    by_cases h3 : i = k
    · rw [if_pos h3]
      by_cases h4 : j = k
      · rw [if_pos h4]; exact Int.le_refl _
      · rw [if_neg h4]; clear c; exact d (j - 1) (by omega) (by omega)
    · rw [if_neg h3, if_neg (by clear c d; omega)]
      clear c d
      exact hs (i - 1) (j - 1) (by omega) (by omega)
theorem ins_row {vs : List Value} {ns : List Int} {x k : Int} {t : Tok} (hi : IntsAre vs ns) (hs : Sorted ns) (hg : Goes ns x 0 k) : ∃ ns', IntsAre (kl_ins vs k (.int x t)) ns' ∧ Sorted ns' ∧ ns'.Perm (x :: ns) := by
  obtain ⟨a, b, c, d⟩ := hg
  obtain ⟨m, rfl⟩ := Int.eq_ofNat_of_zero_le a
  have b' : m ≤ ns.length := Int.ofNat_le.mp b
  have hl := hi.length
  refine ⟨ns.take m ++ x :: ns.drop m, ?_, sorted_ins hs b' (fun j hj => Int.le_of_lt (c j (Int.natCast_nonneg _) (Int.ofNat_lt.mpr hj))) (fun j h1 h2 => d j (Int.ofNat_le.mpr h1) h2), List.perm_middle.trans (by rw [List.take_append_drop])⟩
  unfold kl_ins
  rw [if_neg (Int.not_lt.mpr a), Int.toNat_natCast, Nat.min_eq_left (hl ▸ b')]
  exact (hi.take _).append (.cons _ _ (hi.drop _))
section
variable {prog : Program} {w : World} {p : Program} {loose : List Str} {mean : ExcName → Option Value} {mg mb : Str → Option Value}
theorem use_insort {news : Led9} {la : Addr} {vs : List Value} {ns : List Int} {n : Nat} {x : Int} {t1 : Tok} {g : Obj → Led9} (hm : (la, lst vs n) ∈ news) (U : UpdF la (lst vs n) news g) (hi : IntsAre vs ns) (hs : Sorted ns) (hf : vs.length < 2 ^ 20)
  {dp un : Nat} {gd : Option (List Code)} {cn : Str} {cs : Scope} {a : Addr} {ccd : Value} {cl : List (Str × Addr)} {outer : List Env} {A₀ : Around} {base h₀ : Heap} {L : Addr} {m : Str → Option Value} {s : Shared} {Q E : Value → Shared → Prop}
  (B : Below A₀ base outer h₀) (F : Fr h₀ L s.heap m) (X : (hd.heap_39 w.params).In h₀) (N : News h₀ L s.heap news) (T : Top p loose mean mg mb h₀) (hk : cs.kind = .function) (hd9 : dp + 6 < recursionLimit) (hu : un + 8 * 6 < cLine)
  (ret : ∀ rv' ns' h' tk', IntsAre rv' ns' → Sorted ns' → ns'.Perm (x :: ns) → Fr h₀ L h' m → News h₀ L h' (g (lst rv' (n + 1))) → Q .none { s with heap := h', toks := tk' }) :
  wpAny (model prog w) (ktrTop dp un gd cn cs L a ccd cl outer) (call (.ref 68) [.ref la, .int x t1]) Q E s := by
  refine c_insort news la vs ns n x t1 g hm hi hf hs (updF_upd U) dp un gd cn cs a ccd cl outer A₀ base h₀ L m s Q E B F X N T hk hd9 hu ?_
  rintro r led h' tk' ⟨rfl, k, hg, rfl⟩ F' N'
  obtain ⟨ns', h1, h2, h3⟩ := ins_row (t := t1) hi hs hg
  exact ret _ ns' h' tk' h1 h2 h3 F' N'
end
end
section
open PySem PySem.W PyProof.Rows PySem.Flt PySem.Spec PySem.Calls
/-- each lies behind the next, the last behind I -/
noncomputable def Desc (I : Nat) : Led9 → Prop
  | [] => True
  | p :: r => (match r with | [] => @LT.lt Nat _ I p.1 | q :: _ => @LT.lt Nat _ q.1 p.1) ∧ Desc I r
theorem desc_gt {I : Nat} : ∀ {l : Led9}, Desc I l → ∀ p ∈ l, @LT.lt Nat _ I p.1
  | [], _, p, hp => nomatch hp
  | [a], h, p, hp => by rw [List.mem_singleton.mp hp]; exact h.1
  | a :: b :: r, h, p, hp => by
    have ih := desc_gt (l := b :: r) h.2
    rcases List.mem_cons.mp hp with rfl | hp
    · exact Nat.lt_trans (ih b (.head _)) h.1
    · exact ih p hp
theorem above_app {r I : Nat} {pre rest : Led9} (h : Desc I pre) (hI : r < I) (hr : Above r rest) : Above r (pre ++ rest) := fun p hp => by
  rcases List.mem_append.mp hp with hp | hp
  · exact Nat.lt_trans hI (desc_gt h p hp)
  · exact hr p hp
theorem off_app {I : Nat} {pre rest : Led9} (h : Desc I pre) (hr : ∀ p ∈ rest, @Ne Nat p.1 I) : ∀ p ∈ pre ++ rest, @Ne Nat p.1 I := fun p hp => by
  rcases List.mem_append.mp hp with hp | hp
  · exact Nat.ne_of_gt (desc_gt h p hp)
  · exact hr p hp
theorem col_neg {x : Int} {c : Nat → UInt64} (h : ColE x false c) : ColE x true (tri (Float64.sub (Float64.ofInt 1) (c 0)) (Float64.sub (Float64.ofInt 1) (c 1)) (Float64.sub (Float64.ofInt 1) (c 2))) := by
  have o1 : Ex 9 (Float64.ofInt 1) 512 := up_ex (K := 0) (J := 9) (ofInt_ex 1 (by decide)) (by decide)
  have hB := bA_b x
  have hC := cA_b x
  have one : ∀ c' : Nat, c' < 3 → Ex 9 (Float64.sub (Float64.ofInt 1) (c c')) (512 - colI (plA x) (cA x) (bA x) c') := fun c' hc => by
    have h1 := h c' hc
    simp only [Bool.false_eq_true, if_false] at h1
    have hb := col_b hB hC (rho_b (plA x) c')
    refine sub_ex (by decide) o1 h1 ?_
    unfold colI
    omega
  intro c' hc
  simp only [if_true]
  rcases cs3 hc with rfl | rfl | rfl
  · exact one 0 hc
  · exact one 1 hc
  · exact one 2 hc
theorem tab_next {y : Nat → Int} {i : Nat} {kT kE : List (Str × Value)} {rest pre : Led9} {u1 u2 : Tok} {c1 c2 : Addr} {fl : Nat → UInt64} {s1 : Nat → Tok} {q1 q2 q3 : Tok} (H : Tab1 y i kT kE rest) (hi : i < 4)
    (h1 : (c1, p3 fl s1) ∈ pre) (h2 : (c2, tup [.float (Float64.sub (Float64.ofInt 1) (fl 0)) q1, .float (Float64.sub (Float64.ofInt 1) (fl 1)) q2, .float (Float64.sub (Float64.ofInt 1) (fl 2)) q3]) ∈ pre) (hc : ColE (y i) false fl) :
    Tab1 y (i + 1) (stored (stored kT (nm i false) (.str (itx (plc (y i) false)) u1)) (nm i true) (.str (itx (plc (y i) true)) u2)) (stored (stored kE (nm i false) (.ref c1)) (nm i true) (.ref c2)) (pre ++ rest) := by
  have one : ∀ {kvs : List (Str × Value)} {v w : Value} {j : Nat} (_ : j < i) (e : Bool), valueAt (stored (stored kvs (nm i false) v) (nm i true) w) (nm j e) = valueAt kvs (nm j e) := fun hj e => by
    rw [valueAt_stored, if_neg (fun q => by have := (nm_inj (by (first | lia | omega)) hi q).1; (first | lia | omega)), valueAt_stored, if_neg (fun q => by have := (nm_inj (by (first | lia | omega)) hi q).1; (first | lia | omega))]
  refine ⟨fun j hj e => ?_, fun j hj e => ?_, ?_, ?_⟩
  · rcases Nat.lt_or_ge j i with h | h
    · rw [one h]; exact H.dT j h e
    · obtain rfl : j = i := by (first | lia | omega)
      cases e
      · exact ⟨_, stored_two hi⟩
      · exact ⟨_, stored_here⟩
  · rcases Nat.lt_or_ge j i with h | h
    · rw [one h]
      obtain ⟨a, fl, t, p, q, r⟩ := H.dE j h e
      exact ⟨a, fl, t, p, List.mem_append_right _ q, r⟩
    · obtain rfl : j = i := by (first | lia | omega)
      cases e
      · exact ⟨_, fl, s1, stored_two hi, List.mem_append_left _ h1, hc⟩
      · exact ⟨_, _, triT q1 q2 q3, stored_here, List.mem_append_left _ h2, col_neg hc⟩
  · have := H.zT; have := stored_length_le kT (nm i false) (.str (itx (plc (y i) false)) u1); have := stored_length_le (stored kT (nm i false) (.str (itx (plc (y i) false)) u1)) (nm i true) (.str (itx (plc (y i) true)) u2); (first | lia | omega)
  · have := H.zE; have := stored_length_le kE (nm i false) (.ref c1); have := stored_length_le (stored kE (nm i false) (.ref c1)) (nm i true) (.ref c2); (first | lia | omega)
theorem hd_next {y : Nat → Int} {i : Nat} {its : List HI} {rest pre : Led9} {T : Addr} {t1 t2 : Tok} (H : Hd1 y i its rest) (hT : (T, tup [.str (nm i false) t1, .str (itx (plc (y i) false)) t2]) ∈ pre) :
    Hd1 y (i + 1) (its ++ [⟨T, nm i false, t1, itx (plc (y i) false), t2, nm i false⟩]) (pre ++ rest) := by
  have hl := H.len
  refine ⟨by rw [List.length_append, hl]; rfl, fun j hj => ?_⟩
  rcases Nat.lt_or_ge j i with h | h
  · obtain ⟨it, e, a, b, c, d⟩ := H.at' j h
    exact ⟨it, by rw [List.getElem?_append_left (by (first | lia | omega))]; exact e, a, b, c, List.mem_append_right _ d⟩
  · obtain rfl : j = i := by (first | lia | omega)
    exact ⟨_, by rw [List.getElem?_append_right (by (first | lia | omega)), hl, Nat.sub_self]; rfl, rfl, rfl, rfl, List.mem_append_left _ hT⟩
theorem row_next {y : Nat → Int} {i : Nat} {rv rv' : List Value} {ns ns' : List Int} (R : Row1 y i rv ns) (h1 : IntsAre rv' ns') (h2 : Sorted ns') (h3 : ns'.Perm (plc (y i) false :: ns)) : Row1 y (i + 1) rv' ns' :=
  ⟨h1, h2, by
    rw [List.range_succ, List.map_append]
    exact h3.trans ((List.Perm.cons _ R.perm).trans (List.perm_append_singleton _ _).symm)⟩
theorem plc_next {y : Nat → Int} {i : Nat} {pv : List Value} {t : Tok} (R : Plc1 y i pv) : Plc1 y (i + 1) (pv ++ [.int (plc (y i) false) t]) :=
  ⟨by rw [List.range_succ, List.map_append]; exact R.isI.append (.cons _ _ .nil)⟩
theorem news_mid {h₀ h : Heap} {L : Addr} {pre mid rest : Led9} (N : News h₀ L h (pre ++ (mid ++ rest))) : News h₀ L h (mid ++ (pre ++ rest)) := fun p hp => by
  refine N p ?_
  simp only [List.mem_append] at hp ⊢
  rcases hp with h | h | h
  · exact .inr (.inl h)
  · exact .inl h
  · exact .inr (.inr h)
section
variable {prog : Program} {w : World} {s : Shared} {h₀ : Heap} {L I : Addr} {oI : Obj} {cT cE cP cR cW tD eD pL hx dx hL rL Z : Nat} {y : Nat → Int} {ty : Nat → Tok} {tkh : Tok} {m₀ m' : Str → Option Value} {i : Nat} {Qv : Flow → Shared → Prop}
  {h' : Heap} {tk : Nat} {oT oE oP oR oW oD oF : Obj} {pv : List Value} {pn : Nat} {its : List HI} {hn : Nat} {rv rv' : List Value} {rn : Nat} {rest pre : Led9} {kT kE : List (Str × Value)} {ns ns' : List Int}
  {T c1 c2 : Addr} {t1 t2 tp u1 u2 q1 q2 q3 : Tok} {fl : Nat → UInt64} {s1 : Nat → Tok}
theorem gp1_mid (N : News h₀ L h' (pre ++ ((I, oI) :: mut1 w.params cT cE cP cR cW tD eD pL hx dx hL rL oT oE oP oR oW oD oF pv pn its hn tkh rv rn rest))) :
    News h₀ L h' ((I, oI) :: mut1 w.params cT cE cP cR cW tD eD pL hx dx hL rL oT oE oP oR oW oD oF pv pn its hn tkh rv rn (pre ++ rest)) :=
  news_mid (mid := (I, oI) :: mut1 w.params cT cE cP cR cW tD eD pL hx dx hL rL oT oE oP oR oW oD oF pv pn its hn tkh rv rn []) N
theorem gp1_end (hq : ∀ f s₃, E1 prog w cT cE cP cR cW tD eD pL hx dx hL rL tkh y ty Z m₀ h₀ L s I oI i f s₃ → Qv f s₃) (F : Fr h₀ L h' m') (N : News h₀ L h' (pre ++ ((I, oI) :: mut1 w.params cT cE cP cR cW tD eD pL hx dx hL rL oT oE oP oR oW oD oF (pv ++ [.int (plc (y i) false) tp]) pn (its ++ [⟨T, nm i false, t1, itx (plc (y i) false), t2, nm i false⟩]) hn tkh rv' rn rest)))
    (hpre : Desc I pre) (hi : i < 4) (hI : @LT.lt Nat _ rL I) (hIr : ∀ p ∈ rest, @Ne Nat p.1 I) (hR : Above rL rest) (hZ : (Z, lst (i4 y ty) 0) ∈ rest)
    (dT : oT.data = .cell (some (.ref tD))) (dE : oE.data = .cell (some (.ref eD))) (dP : oP.data = .cell (some (.ref pL))) (dR : oR.data = .cell (some (.ref rL))) (dW : oW.data = .cell none)
    (kD : oD.IsDictOf (strKind prog w) (stored (stored kT (nm i false) (.str (itx (plc (y i) false)) u1)) (nm i true) (.str (itx (plc (y i) true)) u2))) (kF : oF.IsDictOf (strKind prog w) (stored (stored kE (nm i false) (.ref c1)) (nm i true) (.ref c2)))
    (hm : ∀ z, z ∉ W1 → m' z = m₀ z) (H1 : Tab1 y i kT kE rest) (H2 : Hd1 y i its rest) (H3 : Row1 y i rv ns) (H4 : Plc1 y i pv) (hc : ColE (y i) false fl)
    (h1 : (c1, p3 fl s1) ∈ pre) (h2 : (c2, tup [.float (Float64.sub (Float64.ofInt 1) (fl 0)) q1, .float (Float64.sub (Float64.ofInt 1) (fl 1)) q2, .float (Float64.sub (Float64.ofInt 1) (fl 2)) q3]) ∈ pre) (hT : (T, tup [.str (nm i false) t1, .str (itx (plc (y i) false)) t2]) ∈ pre)
    (r1 : IntsAre rv' ns') (r2 : Sorted ns') (r3 : ns'.Perm (plc (y i) false :: ns)) {s₃ : Shared} (e : s₃ = { s with heap := h', toks := tk }) : Qv .next s₃ :=
  e ▸ hq _ _ (.mk h' tk m' oT oE oP oR oW oD oF _ pn _ hn rv' rn (pre ++ rest) _ _ ns' F (gp1_mid N) (off_app hpre hIr) hm
    ⟨dT, dE, dP, dR, dW, kD, kF, above_app hpre hI hR, List.mem_append_right _ hZ, tab_next H1 hi h1 h2 hc, hd_next H2 hT, row_next H3 r1 r2 r3, plc_next H4⟩)
end
end
section
open PySem PySem.W PyProof.Rows PySem.Flt PySem.Spec PySem.Calls
/-- the direction of a hue of P 64ths -/
noncomputable def hU (P : Int) : Int := 2 * rho P 0 - rho P 1 - rho P 2
noncomputable def hV (P : Int) : Int := rho P 1 - rho P 2
/-- q lies less than half a turn ahead of p -/
noncomputable abbrev Ahd (p q : Int) : Prop := (p < q ∧ q < p + 32) ∨ q + 32 < p
noncomputable def crossH (p q : Int) : Int := hU p * hV q - hU q * hV p
noncomputable def dotH (p q : Int) : Int := hU p * hU q + hV p * hV q
noncomputable def okPQ (p q : Nat) : Bool :=
  let P : Int := p
  let Q : Int := q
  (decide (0 < crossH P Q) == decide (Ahd P Q)) && (decide (crossH P Q = 0) == decide (P = Q ∨ P = Q + 32 ∨ Q = P + 32)) && (decide (P ≠ Q ∨ 0 < dotH P Q))
noncomputable def okHalf (p : Nat) : Bool :=
  let P : Int := p
  decide (hU (P + 32) = - hU P ∧ hV (P + 32) = - hV P ∧ (hU P ≠ 0 ∨ hV P ≠ 0) ∧ (hU P).natAbs ≤ 64 ∧ (hV P).natAbs ≤ 32 ∧ (hU (P + 32)).natAbs ≤ 64)
theorem half_all : ∀ p : Fin 32, okHalf p.1 = true := by decide +kernel
theorem pq_all : ∀ p : Fin 64, ∀ q : Fin 64, okPQ p.1 q.1 = true := by decide +kernel
end
section
open PySem PySem.W PyProof.Rows PySem.Flt PySem.Spec PySem.Calls
/-- half a turn apart -/
noncomputable def Anti (p q : Int) : Prop := p = q + 32 ∨ q = p + 32
noncomputable def anti_dot (p : Nat) : Bool := decide (dotH (p : Int) ((p : Int) + 32) < 0 ∧ dotH ((p : Int) + 32) (p : Int) < 0)
theorem anti_all : ∀ p : Fin 32, anti_dot p.1 = true := by decide +kernel
theorem pq_fact {p q : Int} (hp : 0 ≤ p ∧ p < 64) (hq : 0 ≤ q ∧ q < 64) : (0 < crossH p q ↔ Ahd p q) ∧ (crossH p q = 0 ↔ p = q ∨ Anti p q) ∧ (p = q → 0 < dotH p q) := by
  have h := pq_all ⟨p.toNat, by (first | lia | omega)⟩ ⟨q.toNat, by (first | lia | omega)⟩
  unfold okPQ at h
  have e1 : ((p.toNat : Nat) : Int) = p := by (first | lia | omega)
  have e2 : ((q.toNat : Nat) : Int) = q := by (first | lia | omega)
  simp only [e1, e2, Bool.and_eq_true, beq_iff_eq, decide_eq_decide, decide_eq_true_eq] at h
  obtain ⟨⟨h1, h2⟩, h3⟩ := h
  exact ⟨h1, h2, fun e => h3.resolve_left fun q => q e⟩
theorem anti_fact {p q : Int} (hp : 0 ≤ p ∧ p < 64) (hq : 0 ≤ q ∧ q < 64) (h : Anti p q) : dotH p q < 0 := by
  rcases h with h | h
  · have := anti_all ⟨q.toNat, by (first | lia | omega)⟩
    unfold anti_dot at this
    have e2 : ((q.toNat : Nat) : Int) = q := by (first | lia | omega)
    simp only [e2, decide_eq_true_eq] at this
    rw [h]; exact this.2
  · have := anti_all ⟨p.toNat, by (first | lia | omega)⟩
    unfold anti_dot at this
    have e2 : ((p.toNat : Nat) : Int) = p := by (first | lia | omega)
    simp only [e2, decide_eq_true_eq] at this
    rw [h]; exact this.1
theorem two_fact {p q : Int} (hp : 0 ≤ p ∧ p < 64) (hq : 0 ≤ q ∧ q < 64) : (crossH p q = 0 ∧ dotH p q < 0) ↔ Anti p q := by
  obtain ⟨_, h2, h3⟩ := pq_fact hp hq
  constructor
  · rintro ⟨a, b⟩
    rcases h2.mp a with e | e
    · have := h3 e; (first | lia | omega)
    · exact e
  · intro h
    exact ⟨h2.mpr (.inr h), anti_fact hp hq h⟩
theorem cross_swap (p q : Int) : crossH q p = - crossH p q := by unfold crossH; rw [Int.mul_comm (hU q), Int.mul_comm (hU p)]; rw [Int.mul_comm (hV p), Int.mul_comm (hV q)]; (first | lia | omega)
theorem neg_fact {p q : Int} (hp : 0 ≤ p ∧ p < 64) (hq : 0 ≤ q ∧ q < 64) : crossH p q < 0 ↔ Ahd q p := by
  rw [← (pq_fact hq hp).1, cross_swap p q]; (first | lia | omega)
/-- three that hold the middle -/
noncomputable def Cyc (p q r : Int) : Prop := Ahd p q ∧ Ahd q r ∧ Ahd r p
theorem pos_mul {a b : Int} : 0 < a * b ↔ (0 < a ∧ 0 < b) ∨ (a < 0 ∧ b < 0) := by
  constructor
  · intro h
    rcases Int.lt_trichotomy a 0 with ha | ha | ha
    · rcases Int.lt_trichotomy b 0 with hb | hb | hb
      · exact .inr ⟨ha, hb⟩
      · subst hb; simp at h
      · have := Int.mul_neg_of_neg_of_pos ha hb; omega
    · subst ha; simp at h
    · rcases Int.lt_trichotomy b 0 with hb | hb | hb
      · have := Int.mul_neg_of_pos_of_neg ha hb; omega
      · subst hb; simp at h
      · exact .inl ⟨ha, hb⟩
  · rintro (⟨ha, hb⟩ | ⟨ha, hb⟩)
    · exact Int.mul_pos ha hb
    · exact Int.mul_pos_of_neg_of_neg ha hb
theorem three_fact {p q r : Int} (hp : 0 ≤ p ∧ p < 64) (hq : 0 ≤ q ∧ q < 64) (hr : 0 ≤ r ∧ r < 64) : (0 < crossH p q * crossH q r ∧ 0 < crossH p q * crossH r p) ↔ Cyc p q r ∨ Cyc r q p := by
  have a := (pq_fact hp hq).1
  have b := (pq_fact hq hr).1
  have c := (pq_fact hr hp).1
  have a' := neg_fact hp hq
  have b' := neg_fact hq hr
  have c' := neg_fact hr hp
  rw [pos_mul, pos_mul]
  unfold Cyc
  constructor
  · rintro ⟨h1 | h1, h2 | h2⟩
    · exact .inl ⟨a.mp h1.1, b.mp h1.2, c.mp h2.2⟩
    · omega
    · omega
    · exact .inr ⟨b'.mp h1.2, a'.mp h1.1, c'.mp h2.2⟩
  · rintro (⟨h1, h2, h3⟩ | ⟨h1, h2, h3⟩)
    · exact ⟨.inl ⟨a.mpr h1, b.mpr h2⟩, .inl ⟨a.mpr h1, c.mpr h3⟩⟩
    · exact ⟨.inr ⟨a'.mpr h2, b'.mpr h1⟩, .inr ⟨a'.mpr h2, c'.mpr h3⟩⟩
/-- on one side: from one of them on, all are less than half a turn ahead -/
noncomputable def SidedL (ns : List Int) : Prop := ∃ x ∈ ns, ∀ z ∈ ns, z = x ∨ Ahd x z
noncomputable def BadL (ns : List Int) : Prop := (∃ x ∈ ns, ∃ z ∈ ns, Anti x z) ∨ (∃ x ∈ ns, ∃ z ∈ ns, ∃ u ∈ ns, Cyc x z u)
theorem SidedL.perm {ns ms : List Int} (h : ns.Perm ms) : SidedL ns ↔ SidedL ms := by
  unfold SidedL
  simp only [h.mem_iff]
theorem BadL.perm {ns ms : List Int} (h : ns.Perm ms) : BadL ns ↔ BadL ms := by
  unfold BadL
  simp only [h.mem_iff]
/-- how far x lies ahead of o -/
noncomputable def offs (o x : Int) : Int := (x - o) % 64
theorem offs_lt {o x z : Int} (hx : x = o ∨ Ahd o x) (hz : z = o ∨ Ahd o z) (bo : 0 ≤ o ∧ o < 64) (bx : 0 ≤ x ∧ x < 64) (bz : 0 ≤ z ∧ z < 64) (h : Ahd x z) : offs o x < offs o z := by
  unfold offs
  unfold Ahd at hx hz h
  (first | lia | omega)
theorem offs_anti {o x z : Int} (hx : x = o ∨ Ahd o x) (hz : z = o ∨ Ahd o z) (bo : 0 ≤ o ∧ o < 64) (bx : 0 ≤ x ∧ x < 64) (bz : 0 ≤ z ∧ z < 64) : z ≠ x + 32 := by
  unfold Ahd at hx hz
  (first | lia | omega)
theorem sided_not_bad {ns : List Int} (hb : ∀ x ∈ ns, 0 ≤ x ∧ x < 64) (h : SidedL ns) : ¬ BadL ns := by
  obtain ⟨o, ho, h⟩ := h
  have ho' := hb o ho
  rintro (⟨x, hx, z, hz, ha⟩ | ⟨x, hx, z, hz, u, hu, hc⟩)
  · exact ha.elim (offs_anti (h z hz) (h x hx) ho' (hb z hz) (hb x hx)) (offs_anti (h x hx) (h z hz) ho' (hb x hx) (hb z hz))
  · have l1 := offs_lt (h x hx) (h z hz) ho' (hb x hx) (hb z hz) hc.1
    have l2 := offs_lt (h z hz) (h u hu) ho' (hb z hz) (hb u hu) hc.2.1
    have l3 := offs_lt (h u hu) (h x hx) ho' (hb u hu) (hb x hx) hc.2.2
    exact Int.lt_irrefl _ (Int.lt_trans l1 (Int.lt_trans l2 l3))
theorem sorted_sided {a b c d : Int} (_ha : 0 ≤ a) (h1 : a ≤ b) (h2 : b ≤ c) (h3 : c ≤ d) (_hd : d < 64) (hn : ¬ BadL [a, b, c, d]) : d < a + 32 ∨ a + 64 < b + 32 ∨ b + 64 < c + 32 ∨ c + 64 < d + 32 := by
  have m1 : a ∈ [a, b, c, d] := .head _
  have m2 : b ∈ [a, b, c, d] := .tail _ (.head _)
  have m3 : c ∈ [a, b, c, d] := .tail _ (.tail _ (.head _))
  have m4 : d ∈ [a, b, c, d] := .tail _ (.tail _ (.tail _ (.head _)))
  have an : ∀ {x z : Int}, x ∈ [a, b, c, d] → z ∈ [a, b, c, d] → z ≠ x + 32 := fun hx hz h => hn (.inl ⟨_, hx, _, hz, .inr h⟩)
  have cy : ∀ {x z u : Int}, x ∈ [a, b, c, d] → z ∈ [a, b, c, d] → u ∈ [a, b, c, d] → x < z → z < x + 32 → z < u → u < z + 32 → ¬ x + 32 < u := fun hx hz hu p q r s t => hn (.inr ⟨_, hx, _, hz, _, hu, .inl ⟨p, q⟩, .inl ⟨r, s⟩, .inr t⟩)
  have e1 := an m1 m2
  have e2 := an m1 m3
  have e3 := an m1 m4
  have e4 := an m2 m3
  have e6 := an m3 m4
  have c1 := cy m1 m2 m3
  have c2 := cy m1 m3 m4
  clear an cy m1 m2 m3 m4 hn
  refine Decidable.byContradiction fun q => ?_
  rw [not_or, not_or, not_or] at q
  obtain ⟨q1, q2, q3, q4⟩ := q
  by_cases r : a + 32 < c
  · clear c2 e3 e6
    exact c1 (by (first | lia | omega)) (by (first | lia | omega)) (by (first | lia | omega)) (by (first | lia | omega)) r
  · clear c1 e1 e4
    exact c2 (by (first | lia | omega)) (by (first | lia | omega)) (by (first | lia | omega)) (by (first | lia | omega)) (by (first | lia | omega))
theorem s_up {x z : Int} (h : x ≤ z) (h' : z < x + 32) : z = x ∨ Ahd x z := by
  unfold Ahd
  (first | lia | omega)
theorem s_dn {x z : Int} (h : z + 64 < x + 32) : z = x ∨ Ahd x z := by
  unfold Ahd
  (first | lia | omega)
theorem all4 {P : Int → Prop} {a b c d : Int} (ha : P a) (hb : P b) (hc : P c) (hd : P d) : ∀ z ∈ [a, b, c, d], P z :=
  List.forall_mem_cons.mpr ⟨ha, List.forall_mem_cons.mpr ⟨hb, List.forall_mem_cons.mpr ⟨hc, List.forall_mem_cons.mpr ⟨hd, List.forall_mem_nil _⟩⟩⟩⟩
theorem s_rt {x z : Int} (h : z = x ∨ Ahd x z) (l : x ≤ z) (b : z < 64) (b' : 0 ≤ x) : z < x + 32 := by
  unfold Ahd at h
  (first | lia | omega)
theorem s_lt {x z : Int} (h : z = x ∨ Ahd x z) (l : z < x) (b : x < 64) (b' : 0 ≤ z) : z + 64 < x + 32 := by
  unfold Ahd at h
  (first | lia | omega)
theorem s_x {a d x : Int} (h : a + 64 < x + 32) (l : d < 64) (b' : 0 ≤ a) : d < x + 32 := by (first | lia | omega)
theorem s_y {a b x : Int} (h : a ≤ b) (l : b + 64 < x) : a + 64 < x := by (first | lia | omega)
theorem sorted_iff {a b c d : Int} (ha : 0 ≤ a) (h1 : a ≤ b) (h2 : b ≤ c) (h3 : c ≤ d) (hd : d < 64) : (d < a + 32 ∨ a + 64 < b + 32 ∨ b + 64 < c + 32 ∨ c + 64 < d + 32) ↔ SidedL [a, b, c, d] := by
  have h12 := Int.le_trans h1 h2
  have h23 := Int.le_trans h2 h3
  have h13 := Int.le_trans h1 h23
  have hb := Int.le_trans ha h1
  have hc := Int.le_trans hb h2
  have lc := Int.lt_of_le_of_lt h3 hd
  have lb := Int.lt_of_le_of_lt h2 lc
  constructor
  · rintro (h | h | h | h)
    · exact ⟨a, .head _, all4 (.inl rfl) (s_up h1 (Int.lt_of_le_of_lt h23 h)) (s_up h12 (Int.lt_of_le_of_lt h3 h)) (s_up h13 h)⟩
    · exact ⟨b, .tail _ (.head _), all4 (s_dn h) (.inl rfl) (s_up h2 (s_x h lc ha)) (s_up h23 (s_x h hd ha))⟩
    · exact ⟨c, .tail _ (.tail _ (.head _)), all4 (s_dn (s_y h1 h)) (s_dn h) (.inl rfl) (s_up h3 (s_x h hd hb))⟩
    · exact ⟨d, .tail _ (.tail _ (.tail _ (.head _))), all4 (s_dn (s_y h12 h)) (s_dn (s_y h2 h)) (s_dn h) (.inl rfl)⟩
  · rintro ⟨x, hx, h⟩
    have q1 := h a (.head _)
    have q2 := h b (.tail _ (.head _))
    have q3 := h c (.tail _ (.tail _ (.head _)))
    have q4 := h d (.tail _ (.tail _ (.tail _ (.head _))))
    rcases Int.lt_or_le a x with e1 | e1
    · rcases Int.lt_or_le b x with e2 | e2
      · rcases Int.lt_or_le c x with e3 | e3
        · obtain rfl : x = d := by
            rcases List.mem_cons.mp hx with rfl | hx
            · exact absurd e1 (Int.lt_irrefl _)
            rcases List.mem_cons.mp hx with rfl | hx
            · exact absurd e2 (Int.lt_irrefl _)
            rcases List.mem_cons.mp hx with rfl | hx
            · exact absurd e3 (Int.lt_irrefl _)
            exact List.mem_singleton.mp hx
          exact .inr (.inr (.inr (s_lt q3 e3 hd hc)))
        · have ex : x ≤ c := e3
          have : x < 64 := Int.lt_of_le_of_lt ex lc
          have := s_lt q2 e2 this hb
          exact .inr (.inr (.inl (Int.lt_of_lt_of_le this (Int.add_le_add_right ex _))))
      · have := s_lt q1 e1 (Int.lt_of_le_of_lt e2 lb) ha
        exact .inr (.inl (Int.lt_of_lt_of_le this (Int.add_le_add_right e2 _)))
    · have e4 : x ≤ d := Int.le_trans e1 h13
      have ax : a ≤ x := (all4 (P := fun z => a ≤ z) (Int.le_refl _) h1 h12 h13) x hx
      have := s_rt q4 e4 hd (Int.le_trans ha ax)
      exact .inl (Int.lt_of_lt_of_le this (Int.add_le_add_right e1 _))
end
section
open PySem PySem.W PyProof.Rows PySem.Flt PySem.Spec PySem.Calls
/-- the axis that turns behind choice n -/
noncomputable def kk (n : Nat) : Nat := [0, 1, 0, 2, 0, 1, 0, 3, 0, 1, 0, 2, 0, 1, 0, 3].getD n 0
/-- choice n -/
noncomputable def chs : Nat → Nat → Bool
  | 0, _ => false
  | n + 1, j => if j = kk n then !chs n j else chs n j
noncomputable def sdB (ns : List Int) : Bool := ns.any fun x => ns.all fun z => decide (z = x ∨ Ahd x z)
theorem sdB_iff {ns : List Int} : sdB ns = true ↔ SidedL ns := by
  unfold sdB SidedL
  simp only [List.any_eq_true, List.all_eq_true, decide_eq_true_eq]
/-- the 64ths of choice n -/
noncomputable def ths (y : Nat → Int) (n : Nat) : List Int := (List.range 4).map fun j => plc (y j) (chs n j)
noncomputable def cnt (y : Nat → Int) : Nat → Nat
  | 0 => 0
  | n + 1 => cnt y n + (sdB (ths y n)).toNat
/-- how many differ, of the first n -/
noncomputable def dst (r : Nat → Int) (n : Nat) : Nat := ((List.range n).filter fun k => decide (∀ j, j < k → r j ≠ r k)).length
noncomputable def sB (r : Nat → Nat) (g : Nat → Bool) : Bool := (List.range 4).any fun a => (List.range 4).all fun b => (g a == g b) == decide (r a ≤ r b)
noncomputable def g4 {α : Type} (a b c d : α) : Nat → α
  | 0 => a
  | 1 => b
  | 2 => c
  | _ => d
noncomputable def sum16 (F : Bool → Bool → Bool → Bool → Nat) : Nat := (List.range 16).foldr (fun n k => F (chs n 0) (chs n 1) (chs n 2) (chs n 3) + k) 0
theorem sum16_eq (F : Bool → Bool → Bool → Bool → Nat) : sum16 F = F false false false false + (F true false false false + (F true true false false + (F false true false false + (F false true true false + (F true true true false + (F true false true false + (F false false true false + (F false false true true + (F true false true true + (F true true true true + (F false true true true + (F false true false true + (F true true false true + (F true false false true + (F false false false true + 0))))))))))))))) := rfl
noncomputable def s2 (f : Bool → Nat) : Nat := f false + f true
theorem s2_xor (a : Bool) (f : Bool → Nat) : s2 (fun p => f (a ^^ p)) = s2 f := by
  cases a
  · rfl
  · exact Nat.add_comm _ _
theorem sum16_s2 (F : Bool → Bool → Bool → Bool → Nat) : sum16 F = s2 fun p => s2 fun q => s2 fun r => s2 fun s => F p q r s := by
  rw [sum16_eq]
  simp only [s2]
  (first | lia | omega)
theorem sum16_xor (F : Bool → Bool → Bool → Bool → Nat) (a b c d : Bool) : sum16 (fun p q r s => F (a ^^ p) (b ^^ q) (c ^^ r) (d ^^ s)) = sum16 F := by
  rw [sum16_s2, sum16_s2]
  refine (s2_xor a fun p => s2 fun q => s2 fun r => s2 fun s => F p (b ^^ q) (c ^^ r) (d ^^ s)).trans (congrArg s2 (funext fun p => ?_))
  refine (s2_xor b fun q => s2 fun r => s2 fun s => F p q (c ^^ r) (d ^^ s)).trans (congrArg s2 (funext fun q => ?_))
  refine (s2_xor c fun r => s2 fun s => F p q r (d ^^ s)).trans (congrArg s2 (funext fun r => ?_))
  exact s2_xor d fun s => F p q r s
theorem rank_all : ∀ a b c d : Fin 4, sum16 (fun p q r s => (sB (g4 a.1 b.1 c.1 d.1) (g4 p q r s)).toNat) = 2 * ((List.range 4).filter fun k => decide (∀ j, j < k → g4 a.1 b.1 c.1 d.1 j ≠ g4 a.1 b.1 c.1 d.1 k)).length := by decide +kernel
end
section
open PySem PySem.W PyProof.Rows PySem.Flt PySem.Spec PySem.Calls PySem.Float64
theorem id3 (a1 a2 a3 b1 b2 b3 : Int) : (a2 * b3 - a3 * b2) * a1 + (a3 * b1 - a1 * b3) * a2 + (a1 * b2 - a2 * b1) * a3 = 0 := by grind
theorem id3b (a1 a2 a3 b1 b2 b3 : Int) : (a2 * b3 - a3 * b2) * b1 + (a3 * b1 - a1 * b3) * b2 + (a1 * b2 - a2 * b1) * b3 = 0 := by grind
theorem cross_id (w1 w2 a b c d : Int) : (w1 * a) * (w2 * d) - (w2 * c) * (w1 * b) = (w1 * w2) * (a * d - c * b) := by grind
theorem dot_id (w1 w2 a b c d : Int) : (w1 * a) * (w2 * c) + (w1 * b) * (w2 * d) = (w1 * w2) * (a * c + b * d) := by grind
theorem col_pt (B C r g b : Int) : 2 * (B * (128 - C * (32 - r))) - B * (128 - C * (32 - g)) - B * (128 - C * (32 - b)) = B * C * (2 * r - g - b) := by grind
theorem col_pt2 (B C g b : Int) : B * (128 - C * (32 - g)) - B * (128 - C * (32 - b)) = B * C * (g - b) := by grind

noncomputable def wt (x : Int) : Int := bA x * cA x
theorem wt_b (x : Int) : 1 ≤ wt x ∧ wt x ≤ 16 := by
  have hB := bA_b x
  have hC := cA_b x
  unfold wt
  rcases four hB with h | h | h | h <;> rw [h] <;> (first | lia | omega)
theorem half_fact {p : Int} (hp : 0 ≤ p ∧ p < 32) : hU (p + 32) = - hU p ∧ hV (p + 32) = - hV p ∧ (hU p).natAbs ≤ 64 ∧ (hV p).natAbs ≤ 32 := by
  have h := half_all ⟨p.toNat, by (first | lia | omega)⟩
  unfold okHalf at h
  have e1 : ((p.toNat : Nat) : Int) = p := by (first | lia | omega)
  simp only [e1, decide_eq_true_eq] at h
  exact ⟨h.1, h.2.1, h.2.2.2.1, h.2.2.2.2.1⟩
theorem hUV_b {p : Int} (hp : 0 ≤ p ∧ p < 64) : (hU p).natAbs ≤ 64 ∧ (hV p).natAbs ≤ 32 := by
  rcases Int.lt_or_le p 32 with h | h
  · exact (half_fact ⟨hp.1, h⟩).2.2
  · have := half_fact (p := p - 32) (by (first | lia | omega))
    rw [show p - 32 + 32 = p by (first | lia | omega)] at this
    obtain ⟨a, b, c, d⟩ := this
    rw [a, b, Int.natAbs_neg, Int.natAbs_neg]
    exact ⟨c, d⟩
theorem flip_fact (x : Int) : hU (plc x true) = - hU (plc x false) ∧ hV (plc x true) = - hV (plc x false) := by
  have h := plc_b x false
  have e : plc x true = if plc x false < 32 then plc x false + 32 else plc x false - 32 := by
    show (x.fmod 64 + 32).fmod 64 = if x.fmod 64 < 32 then x.fmod 64 + 32 else x.fmod 64 - 32
    have h : 0 ≤ x.fmod 64 ∧ x.fmod 64 < 64 := h
    generalize x.fmod 64 = P at h
    rw [Int.fmod_eq_emod_of_nonneg _ (by decide)]
    split <;> (first | lia | omega)
  rw [e]
  split
  · rename_i q
    have := half_fact (p := plc x false) (by (first | lia | omega))
    exact ⟨this.1, this.2.1⟩
  · rename_i q
    have := half_fact (p := plc x false - 32) (by (first | lia | omega))
    rw [show plc x false - 32 + 32 = plc x false by (first | lia | omega)] at this
    (first | lia | omega)
theorem abs_small {a b : Int} {A B : Nat} (ha : a.natAbs ≤ A) (hb : b.natAbs ≤ B) : (a * b).natAbs ≤ A * B := by
  rw [Int.natAbs_mul]; exact Nat.mul_le_mul ha hb
theorem le_lt {n p r : Nat} (h : n ≤ p) (h' : p < r) : n < r := Nat.lt_of_le_of_lt h h'
theorem add_b {x y : Int} {p q r : Nat} (hx : x.natAbs ≤ p) (hy : y.natAbs ≤ q) (h : p + q ≤ r) : (x + y).natAbs ≤ r := by omega
theorem sub_b {x y : Int} {p q r : Nat} (hx : x.natAbs ≤ p) (hy : y.natAbs ≤ q) (h : p + q ≤ r) : (x - y).natAbs ≤ r := by omega
theorem nn_le {x : Int} {p : Nat} (h : x.natAbs ≤ p) : ((x.natAbs : Nat) : Int).natAbs ≤ p := by omega
theorem cqn {k : Int} (h : 0 ≤ k ∧ k ≤ 512) : 0 ≤ 512 - k ∧ 512 - k ≤ 512 := by omega
theorem cq1 {k : Int} (h : 0 ≤ k ∧ k ≤ 512) : (2 * k).natAbs < 2 ^ 53 := by omega
theorem cq2 {k l : Int} (h : 0 ≤ k ∧ k ≤ 512) (h' : 0 ≤ l ∧ l ≤ 512) : (2 * k - l).natAbs < 2 ^ 53 := by omega
theorem cq3 {k l m : Int} (h : 0 ≤ k ∧ k ≤ 512) (h' : 0 ≤ l ∧ l ≤ 512) (h'' : 0 ≤ m ∧ m ≤ 512) : (2 * k - l - m).natAbs < 2 ^ 53 := by omega
theorem cq4 {k l : Int} (h : 0 ≤ k ∧ k ≤ 512) (h' : 0 ≤ l ∧ l ≤ 512) : (k - l).natAbs < 2 ^ 53 := by omega
theorem pt_ex {x : Int} {e : Bool} {a : Nat → UInt64} (h : ColE x e a) : Ex 9 (pu a) (wt x * hU (plc x e)) ∧ Ex 9 (pv a) (wt x * hV (plc x e)) := by
  have hB := bA_b x
  have hC := cA_b x
  have b0 := col_b hB hC (rho_b (plA x) 0)
  have b1 := col_b hB hC (rho_b (plA x) 1)
  have b2 := col_b hB hC (rho_b (plA x) 2)
  have c0 := h 0 (by decide)
  have c1 := h 1 (by decide)
  have c2 := h 2 (by decide)
  have q0 : 2 * colI (plA x) (cA x) (bA x) 0 - colI (plA x) (cA x) (bA x) 1 - colI (plA x) (cA x) (bA x) 2 = wt x * hU (plA x) := col_pt _ _ _ _ _
  have q1 : colI (plA x) (cA x) (bA x) 1 - colI (plA x) (cA x) (bA x) 2 = wt x * hV (plA x) := col_pt2 _ _ _ _
  have f := flip_fact x
  unfold colI at q0 q1 c0 c1 c2
  generalize bA x * (128 - cA x * (32 - rho (plA x) 0)) = k0 at *
  generalize bA x * (128 - cA x * (32 - rho (plA x) 1)) = k1 at *
  generalize bA x * (128 - cA x * (32 - rho (plA x) 2)) = k2 at *
  have o2 : Ex 0 (Float64.ofInt 2) 2 := ofInt_ex 2 (by decide)
  cases e with
  | false =>
    simp only [Bool.false_eq_true, if_false] at c0 c1 c2
    refine ⟨?_, ?_⟩
    · show Ex 9 (sub (sub (mul (Float64.ofInt 2) (a 0)) (a 1)) (a 2)) (wt x * hU (plA x))
      rw [← q0]
      exact sub_ex (by decide) (sub_ex (by decide) (mul_ex (K := 0) (J := 9) (by decide) o2 c0 (cq1 b0)) c1 (cq2 b0 b1)) c2 (cq3 b0 b1 b2)
    · show Ex 9 (sub (a 1) (a 2)) (wt x * hV (plA x))
      rw [← q1]
      exact sub_ex (by decide) c1 c2 (cq4 b1 b2)
  | true =>
    simp only [if_true] at c0 c1 c2
    have e0 : wt x * hU (plc x true) = 2 * (512 - k0) - (512 - k1) - (512 - k2) := by
      rw [f.1, Int.mul_neg]; show - (wt x * hU (plA x)) = _; (first | lia | omega)
    have e1 : wt x * hV (plc x true) = (512 - k1) - (512 - k2) := by
      rw [f.2, Int.mul_neg]; show - (wt x * hV (plA x)) = _; (first | lia | omega)
    rw [e0, e1]
    refine ⟨?_, ?_⟩
    · exact sub_ex (by decide) (sub_ex (by decide) (mul_ex (K := 0) (J := 9) (by decide) o2 c0 (cq1 (cqn b0))) c1 (cq2 (cqn b0) (cqn b1))) c2 (cq3 (cqn b0) (cqn b1) (cqn b2))
    · exact sub_ex (by decide) c1 c2 (cq4 (cqn b1) (cqn b2))
theorem col_bd {x : Int} {e : Bool} (c : Nat) : (if e then 512 - colI (plA x) (cA x) (bA x) c else colI (plA x) (cA x) (bA x) c).natAbs ≤ 512 := by
  have := col_b (bA_b x) (cA_b x) (rho_b (plA x) c)
  unfold colI
  cases e
  · simp only [Bool.false_eq_true, if_false]; omega
  · simp only [if_true]; omega
theorem isE_ex {K : Nat} {x : UInt64} {a : Int} (hK : K ≤ 1074) (h : Ex K x a) : isE x = true ↔ a = 0 := by
  unfold isE
  rw [cmpInt_ex hK h, Int.zero_mul, beq_iff_eq, Option.some.injEq, Int.compare_eq_eq]
theorem isL_ex {K : Nat} {x : UInt64} {a : Int} (hK : K ≤ 1074) (h : Ex K x a) : isL x = true ↔ a < 0 := by
  unfold isL
  rw [cmpInt_ex hK h, Int.zero_mul, beq_iff_eq, Option.some.injEq, Int.compare_eq_lt]
theorem isG_ex {K : Nat} {x : UInt64} {a : Int} (hK : K ≤ 1074) (h : Ex K x a) : isG x = true ↔ 0 < a := by
  unfold isG
  rw [cmpInt_ex hK h, Int.zero_mul, beq_iff_eq, Option.some.injEq, Int.compare_eq_gt]
/-- the points of four colours -/
structure Pts (cf : Nat → Nat → UInt64) (ws th : Nat → Int) (cs : Nat → Nat → Int) : Prop where
  col : ∀ p, p < 4 → ∀ c, c < 3 → Ex 9 (cf p c) (cs p c)
  cb : ∀ p, p < 4 → ∀ c, c < 3 → (cs p c).natAbs ≤ 512
  hu : ∀ p, p < 4 → Ex 9 (pu (cf p)) (ws p * hU (th p))
  hv : ∀ p, p < 4 → Ex 9 (pv (cf p)) (ws p * hV (th p))
  wb : ∀ p, p < 4 → 1 ≤ ws p ∧ ws p ≤ 16
  tb : ∀ p, p < 4 → 0 ≤ th p ∧ th p < 64
  pu' : ∀ p, p < 4 → 2 * cs p 0 - cs p 1 - cs p 2 = ws p * hU (th p)
  pv' : ∀ p, p < 4 → cs p 1 - cs p 2 = ws p * hV (th p)
end
section
open PySem PySem.W PyProof.Rows PySem.Flt PySem.Spec PySem.Calls PySem.Float64
theorem pt_int (x : Int) (e : Bool) : 2 * (if e then 512 - colI (plA x) (cA x) (bA x) 0 else colI (plA x) (cA x) (bA x) 0) - (if e then 512 - colI (plA x) (cA x) (bA x) 1 else colI (plA x) (cA x) (bA x) 1) - (if e then 512 - colI (plA x) (cA x) (bA x) 2 else colI (plA x) (cA x) (bA x) 2) = wt x * hU (plc x e) ∧
    (if e then 512 - colI (plA x) (cA x) (bA x) 1 else colI (plA x) (cA x) (bA x) 1) - (if e then 512 - colI (plA x) (cA x) (bA x) 2 else colI (plA x) (cA x) (bA x) 2) = wt x * hV (plc x e) := by
  have q0 : 2 * colI (plA x) (cA x) (bA x) 0 - colI (plA x) (cA x) (bA x) 1 - colI (plA x) (cA x) (bA x) 2 = wt x * hU (plA x) := col_pt _ _ _ _ _
  have q1 : colI (plA x) (cA x) (bA x) 1 - colI (plA x) (cA x) (bA x) 2 = wt x * hV (plA x) := col_pt2 _ _ _ _
  have f := flip_fact x
  cases e with
  | false => simp only [Bool.false_eq_true, if_false]; exact ⟨q0, q1⟩
  | true =>
    simp only [if_true]
    rw [f.1, f.2, Int.mul_neg, Int.mul_neg]
    show _ = - (wt x * hU (plA x)) ∧ _ = - (wt x * hV (plA x))
    (first | lia | omega)
theorem pts_of {cf : Nat → Nat → UInt64} {y : Nat → Int} {ax : Nat → Nat} {en : Nat → Bool} (h : ∀ p, p < 4 → ColE (y (ax p)) (en p) (cf p)) :
    Pts cf (fun p => wt (y (ax p))) (fun p => plc (y (ax p)) (en p)) (fun p c => if en p then 512 - colI (plA (y (ax p))) (cA (y (ax p))) (bA (y (ax p))) c else colI (plA (y (ax p))) (cA (y (ax p))) (bA (y (ax p))) c) where
  col p hp := h p hp
  cb _ _ c _ := col_bd c
  hu p hp := (pt_ex (h p hp)).1
  hv p hp := (pt_ex (h p hp)).2
  wb _ _ := wt_b _
  tb _ _ := plc_b _ _
  pu' _ _ := (pt_int _ _).1
  pv' _ _ := (pt_int _ _).2
theorem mul_sgn {X Y x y : Int} (h1 : (0 < X ↔ 0 < x) ∧ (X < 0 ↔ x < 0)) (h2 : (0 < Y ↔ 0 < y) ∧ (Y < 0 ↔ y < 0)) : 0 < X * Y ↔ 0 < x * y := by
  rw [pos_mul, pos_mul, h1.1, h1.2, h2.1, h2.2]
section
variable {cf : Nat → Nat → UInt64} {ws th : Nat → Int} {cs : Nat → Nat → Int} (H : Pts cf ws th cs)
include H
theorem Pts.ab {p : Nat} (hp : p < 4) : (ws p * hU (th p)).natAbs ≤ 1024 ∧ (ws p * hV (th p)).natAbs ≤ 1024 := by
  have w := H.wb p hp
  have b := hUV_b (H.tb p hp)
  have w' : (ws p).natAbs ≤ 16 := by omega
  exact ⟨abs_small w' b.1, Nat.le_trans (abs_small w' b.2) (by decide)⟩
theorem Pts.tF {i j : Nat} (hi : i < 4) (hj : j < 4) : Ex 18 (Float64.sub (Float64.mul (pu (cf i)) (pv (cf j))) (Float64.mul (pu (cf j)) (pv (cf i)))) ((ws i * ws j) * crossH (th i) (th j)) ∧ ((ws i * ws j) * crossH (th i) (th j)).natAbs ≤ 2097152 := by
  have a := H.ab hi
  have b := H.ab hj
  have e : (ws i * ws j) * crossH (th i) (th j) = (ws i * hU (th i)) * (ws j * hV (th j)) - (ws j * hU (th j)) * (ws i * hV (th i)) := (cross_id _ _ _ _ _ _).symm
  have p1 := abs_small a.1 b.2
  have p2 := abs_small b.1 a.2
  rw [e]
  have q1 := mul_ex (K := 9) (J := 9) (by decide) (H.hu i hi) (H.hv j hj) (le_lt p1 (by decide))
  have q2 := mul_ex (K := 9) (J := 9) (by decide) (H.hu j hj) (H.hv i hi) (le_lt p2 (by decide))
  have s := sub_b p1 p2 (r := 2097152) (by decide)
  exact ⟨sub_ex (by decide) q1 q2 (le_lt s (by decide)), s⟩
theorem Pts.dF {i j : Nat} (hi : i < 4) (hj : j < 4) : Ex 18 (Float64.add (Float64.mul (pu (cf i)) (pu (cf j))) (Float64.mul (pv (cf i)) (pv (cf j)))) ((ws i * ws j) * dotH (th i) (th j)) := by
  have a := H.ab hi
  have b := H.ab hj
  have e : (ws i * ws j) * dotH (th i) (th j) = (ws i * hU (th i)) * (ws j * hU (th j)) + (ws i * hV (th i)) * (ws j * hV (th j)) := (dot_id _ _ _ _ _ _).symm
  have p1 := abs_small a.1 b.1
  have p2 := abs_small a.2 b.2
  rw [e]
  have q1 := mul_ex (K := 9) (J := 9) (by decide) (H.hu i hi) (H.hu j hj) (le_lt p1 (by decide))
  have q2 := mul_ex (K := 9) (J := 9) (by decide) (H.hv i hi) (H.hv j hj) (le_lt p2 (by decide))
  exact add_ex (by decide) q1 q2 (le_lt (add_b p1 p2 (Nat.le_refl _)) (by decide))
theorem Pts.wpos {i j : Nat} (hi : i < 4) (hj : j < 4) : 0 < ws i * ws j := Int.mul_pos (by have := H.wb i hi; (first | lia | omega)) (by have := H.wb j hj; (first | lia | omega))
theorem Pts.two {i j : Nat} (hi : i < 4) (hj : j < 4) : Two (fun p => pu (cf p)) (fun p => pv (cf p)) j i ↔ Anti (th i) (th j) := by
  rw [← two_fact (H.tb i hi) (H.tb j hj)]
  unfold Two
  have w := H.wpos hi hj
  rw [isE_ex (K := 18) (by decide) (H.tF hi hj).1, isL_ex (K := 18) (by decide) (H.dF hi hj)]
  refine and_congr ⟨fun h => (Int.mul_eq_zero.mp h).resolve_left (by (first | lia | omega)), fun h => by rw [h, Int.mul_zero]⟩ ⟨fun h => ?_, fun h => Int.mul_neg_of_pos_of_neg w h⟩
  rcases Int.lt_or_le (dotH (th i) (th j)) 0 with q | q
  · exact q
  · have := Int.mul_nonneg (Int.le_of_lt w) q; (first | lia | omega)
theorem Pts.sgn {i j : Nat} (hi : i < 4) (hj : j < 4) : (0 < (ws i * ws j) * crossH (th i) (th j) ↔ 0 < crossH (th i) (th j)) ∧ ((ws i * ws j) * crossH (th i) (th j) < 0 ↔ crossH (th i) (th j) < 0) := by
  have w := H.wpos hi hj
  have a := pos_mul (a := ws i * ws j) (b := crossH (th i) (th j))
  have b := pos_mul (a := ws i * ws j) (b := - crossH (th i) (th j))
  rw [Int.mul_neg] at b
  (first | lia | omega)
theorem Pts.three {i j k : Nat} (hi : i < 4) (hj : j < 4) (hk : k < 4) : Three (fun p => pu (cf p)) (fun p => pv (cf p)) j i k ↔ Cyc (th i) (th j) (th k) ∨ Cyc (th k) (th j) (th i) := by
  rw [← three_fact (H.tb i hi) (H.tb j hj) (H.tb k hk)]
  unfold Three
  have t := H.tF hi hj
  have a := H.tF hj hk
  have b := H.tF hk hi
  have m1 := mul_ex (K := 18) (J := 18) (by decide) t.1 a.1 (le_lt (abs_small t.2 a.2) (by decide))
  have m2 := mul_ex (K := 18) (J := 18) (by decide) t.1 b.1 (le_lt (abs_small t.2 b.2) (by decide))
  rw [isG_ex (K := 36) (by decide) m1, isG_ex (K := 36) (by decide) m2, mul_sgn (H.sgn hi hj) (H.sgn hj hk), mul_sgn (H.sgn hi hj) (H.sgn hk hi)]
end
theorem ahd_irr {p : Int} : ¬ Ahd p p := by unfold Ahd; (first | lia | omega)
theorem cyc_rot {p q r : Int} (h : Cyc p q r) : Cyc q r p := ⟨h.2.1, h.2.2, h.1⟩
theorem bad_iff {cf : Nat → Nat → UInt64} {ws th : Nat → Int} {cs : Nat → Nat → Int} (H : Pts cf ws th cs) : PJ (fun p => pu (cf p)) (fun p => pv (cf p)) 4 ↔ ¬ BadL ((List.range 4).map th) := by
  have mem : ∀ {x}, x ∈ (List.range 4).map th ↔ ∃ p, p < 4 ∧ th p = x := by
    intro x
    simp only [List.mem_map, List.mem_range]
  constructor
  · rintro h (⟨x, hx, z, hz, ha⟩ | ⟨x, hx, z, hz, u, hu, hc⟩)
    · obtain ⟨p, hp, rfl⟩ := mem.mp hx
      obtain ⟨q, hq, rfl⟩ := mem.mp hz
      rcases Nat.lt_trichotomy p q with l | l | l
      · exact (h q hq p l).1 ((H.two hp hq).mpr ha)
      · subst l; unfold Anti at ha; (first | lia | omega)
      · exact (h p hp q l).1 ((H.two hq hp).mpr ha.symm)
    · obtain ⟨p, hp, rfl⟩ := mem.mp hx
      obtain ⟨q, hq, rfl⟩ := mem.mp hz
      obtain ⟨r, hr, rfl⟩ := mem.mp hu
      have npq : p ≠ q := fun e => ahd_irr (e ▸ hc.1)
      have nqr : q ≠ r := fun e => ahd_irr (e ▸ hc.2.1)
      have nrp : r ≠ p := fun e => ahd_irr (e ▸ hc.2.2)
      have no : ∀ {a b c : Nat}, a < b → b < c → c < 4 → ¬ (Cyc (th b) (th c) (th a) ∨ Cyc (th a) (th c) (th b)) := fun hab hbc hc4 q => (h _ hc4 _ hbc).2 _ hab ((H.three (by (first | lia | omega)) hc4 (by (first | lia | omega))).mpr q)
      have h1 := cyc_rot hc
      have h2 := cyc_rot h1
      rcases Nat.lt_or_gt_of_ne npq with l1 | l1 <;> rcases Nat.lt_or_gt_of_ne nqr with l2 | l2 <;> rcases Nat.lt_or_gt_of_ne nrp with l3 | l3
      all_goals first
        | (first | lia | omega)
        | exact no l1 l2 hr (by first | exact .inl hc | exact .inr hc | exact .inl h1 | exact .inr h1 | exact .inl h2 | exact .inr h2)
        | exact no l3 l1 hq (by first | exact .inl hc | exact .inr hc | exact .inl h1 | exact .inr h1 | exact .inl h2 | exact .inr h2)
        | exact no l2 l3 hp (by first | exact .inl hc | exact .inr hc | exact .inl h1 | exact .inr h1 | exact .inl h2 | exact .inr h2)
        | exact no l2 l1 hp (by first | exact .inl hc | exact .inr hc | exact .inl h1 | exact .inr h1 | exact .inl h2 | exact .inr h2)
        | exact no l1 l3 hr (by first | exact .inl hc | exact .inr hc | exact .inl h1 | exact .inr h1 | exact .inl h2 | exact .inr h2)
        | exact no l3 l2 hq (by first | exact .inl hc | exact .inr hc | exact .inl h1 | exact .inr h1 | exact .inl h2 | exact .inr h2)
  · intro h j hj i hi
    refine ⟨fun q => h (.inl ⟨_, mem.mpr ⟨i, by (first | lia | omega), rfl⟩, _, mem.mpr ⟨j, hj, rfl⟩, (H.two (by (first | lia | omega)) hj).mp q⟩), fun k hk q => h (.inr ?_)⟩
    rcases (H.three (by (first | lia | omega)) hj (by (first | lia | omega))).mp q with c | c
    · exact ⟨_, mem.mpr ⟨i, by (first | lia | omega), rfl⟩, _, mem.mpr ⟨j, hj, rfl⟩, _, mem.mpr ⟨k, by (first | lia | omega), rfl⟩, c⟩
    · exact ⟨_, mem.mpr ⟨k, by (first | lia | omega), rfl⟩, _, mem.mpr ⟨j, hj, rfl⟩, _, mem.mpr ⟨i, by (first | lia | omega), rfl⟩, c⟩
end
section
open PySem PySem.W PyProof.Rows PySem.Flt PySem.Spec PySem.Calls PySem.Float64
theorem abs_ex {K : Nat} {x : UInt64} {a : Int} (h : Ex K x a) : Ex K (Float64.abs x) (a.natAbs : Int) := by
  have nx : isNaN x = false := not_nan_of_finite h.1
  obtain ⟨b, t, ex, ht⟩ := x_of_pack nx
  have ht' : t < infMag := by
    rcases Nat.lt_or_ge t infMag with l | g
    · exact l
    · have : t = infMag := by (first | lia | omega)
      subst this
      have := isInf_pack_inf b
      rw [← ex, not_inf_of_finite h.1] at this
      cases this
  have hlt : t < 2 ^ 63 := Nat.lt_of_lt_of_le ht' (by decide)
  have e1 : Float64.abs x = pack false t := by
    unfold Float64.abs
    rw [nx, if_neg Bool.false_ne_true, ex, pack_toNat b hlt]
    congr 1
    cases b
    · simp only [Bool.false_eq_true, if_false]; (first | lia | omega)
    · simp only [if_true]; (first | lia | omega)
  obtain ⟨m, e, hd, _⟩ := decode_pack false ht'
  refine ⟨by rw [e1]; exact fin_of_dec hd, ?_⟩
  have v1 : val x = sgn b (V t) := by rw [ex, val_pack b ht']
  have v2 : val (Float64.abs x) = sgn false (V t) := by rw [e1, val_pack false ht']
  have v3 := congrArg Int.natAbs (v1.symm.trans h.2)
  rw [sgn_natAbs, natAbs_pw] at v3
  rw [v2, v3]
  simp [sgn]
theorem three_eq {x y z : Int} (h1 : 2 * x - y - z = 0) (h2 : y - z = 0) : y = x ∧ z = x := by (first | lia | omega)
/-- three parts of one number: a grey -/
noncomputable def Grey (f : Nat → UInt64) : Prop := ∃ K v, K ≤ 36 ∧ v.natAbs < 2 ^ 50 ∧ ∀ c, c < 3 → Ex K (f c) v
theorem grey_of {K : Nat} {f : Nat → UInt64} {v : Nat → Int} (hK : K ≤ 36) (h : ∀ c, c < 3 → Ex K (f c) (v c)) (hb : (v 0).natAbs < 2 ^ 50) (h1 : 2 * v 0 - v 1 - v 2 = 0) (h2 : v 1 - v 2 = 0) : Grey f := by
  obtain ⟨e1, e2⟩ := three_eq h1 h2
  refine ⟨K, v 0, hK, hb, fun c hc => ?_⟩
  rcases cs3 hc with rfl | rfl | rfl
  · exact h 0 hc
  · rw [← e1]; exact h 1 hc
  · rw [← e2]; exact h 2 hc
theorem lin2 (M N x1 y1 z1 x2 y2 z2 : Int) : 2 * (M * x1 + N * x2) - (M * y1 + N * y2) - (M * z1 + N * z2) = M * (2 * x1 - y1 - z1) + N * (2 * x2 - y2 - z2) := by grind
theorem lin2b (M N y1 z1 y2 z2 : Int) : (M * y1 + N * y2) - (M * z1 + N * z2) = M * (y1 - z1) + N * (y2 - z2) := by grind
theorem lin3 (M N O x1 y1 z1 x2 y2 z2 x3 y3 z3 : Int) : 2 * (M * x1 + N * x2 + O * x3) - (M * y1 + N * y2 + O * y3) - (M * z1 + N * z2 + O * z3) = M * (2 * x1 - y1 - z1) + N * (2 * x2 - y2 - z2) + O * (2 * x3 - y3 - z3) := by grind
theorem lin3b (M N O y1 z1 y2 z2 y3 z3 : Int) : (M * y1 + N * y2 + O * y3) - (M * z1 + N * z2 + O * z3) = M * (y1 - z1) + N * (y2 - z2) + O * (y3 - z3) := by grind
theorem anti_h {p q : Int} (hp : 0 ≤ p ∧ p < 64) (hq : 0 ≤ q ∧ q < 64) (h : Anti p q) : hU q = - hU p ∧ hV q = - hV p := by
  rcases h with h | h
  · have := half_fact (p := q) (by (first | lia | omega))
    rw [← h] at this; (first | lia | omega)
  · have := half_fact (p := p) (by (first | lia | omega))
    rw [← h] at this; (first | lia | omega)
theorem natAbs_w {w x : Int} (hw : 0 ≤ w) : ((w * x).natAbs : Int) = w * (x.natAbs : Int) := by
  rw [Int.natAbs_mul, Int.natCast_mul]
  congr 1
  (first | lia | omega)
theorem cancel2 (a b x H : Int) : b * H * (a * x) + a * H * (b * (-x)) = 0 := by grind
theorem nabs_p {a : Int} (h : 0 < a) : ((a.natAbs : Nat) : Int) = a := by omega
theorem nabs_n {a : Int} (h : a < 0) : ((a.natAbs : Nat) : Int) = - a := by omega
theorem neg3 {x y z : Int} (h : x + y + z = 0) : -x + -y + -z = 0 := by omega
section
variable {cf : Nat → Nat → UInt64} {ws th : Nat → Int} {cs : Nat → Nat → Int} (H : Pts cf ws th cs)
include H
theorem grey_two {i j : Nat} (hi : i < 4) (hj : j < 4) (h : Anti (th i) (th j)) : Grey (mixTwo cf (fun p => pu (cf p)) (fun p => pv (cf p)) j i) := by
  have a := H.ab hi
  have b := H.ab hj
  have hh := anti_h (H.tb i hi) (H.tb j hj) h
  have wi := H.wb i hi
  have wj := H.wb j hj
  have eM : ((ws j * hU (th j)).natAbs : Int) + ((ws j * hV (th j)).natAbs : Int) = ws j * (((hU (th i)).natAbs : Int) + ((hV (th i)).natAbs : Int)) := by
    rw [natAbs_w (Int.le_trans (by decide) wj.1), natAbs_w (Int.le_trans (by decide) wj.1), hh.1, hh.2, Int.natAbs_neg, Int.natAbs_neg, Int.mul_add]
  have eN : ((ws i * hU (th i)).natAbs : Int) + ((ws i * hV (th i)).natAbs : Int) = ws i * (((hU (th i)).natAbs : Int) + ((hV (th i)).natAbs : Int)) := by
    rw [natAbs_w (Int.le_trans (by decide) wi.1), natAbs_w (Int.le_trans (by decide) wi.1), Int.mul_add]
  have bM : (((ws j * hU (th j)).natAbs : Int) + ((ws j * hV (th j)).natAbs : Int)).natAbs ≤ 2048 := add_b (nn_le b.1) (nn_le b.2) (by decide)
  have bN : (((ws i * hU (th i)).natAbs : Int) + ((ws i * hV (th i)).natAbs : Int)).natAbs ≤ 2048 := add_b (nn_le a.1) (nn_le a.2) (by decide)
  have ea := add_ex (by decide) (abs_ex (H.hu j hj)) (abs_ex (H.hv j hj)) (le_lt bM (by decide))
  have eb := add_ex (by decide) (abs_ex (H.hu i hi)) (abs_ex (H.hv i hi)) (le_lt bN (by decide))
  rw [eM] at ea bM
  rw [eN] at eb bN
  have one : ∀ c, c < 3 → Ex 18 (mixTwo cf (fun p => pu (cf p)) (fun p => pv (cf p)) j i c) (ws j * (((hU (th i)).natAbs : Int) + ((hV (th i)).natAbs : Int)) * cs i c + ws i * (((hU (th i)).natAbs : Int) + ((hV (th i)).natAbs : Int)) * cs j c) ∧
      (ws j * (((hU (th i)).natAbs : Int) + ((hV (th i)).natAbs : Int)) * cs i c + ws i * (((hU (th i)).natAbs : Int) + ((hV (th i)).natAbs : Int)) * cs j c).natAbs < 2 ^ 50 := fun c hc => by
    have p1 := abs_small bM (H.cb i hi c hc)
    have p2 := abs_small bN (H.cb j hj c hc)
    have s := add_b p1 p2 (Nat.le_refl _)
    exact ⟨add_ex (by decide) (mul_ex (K := 9) (J := 9) (by decide) ea (H.col i hi c hc) (le_lt p1 (by decide))) (mul_ex (K := 9) (J := 9) (by decide) eb (H.col j hj c hc) (le_lt p2 (by decide))) (le_lt s (by decide)), le_lt s (by decide)⟩
  refine grey_of (K := 18) (by decide) (fun c hc => (one c hc).1) (one 0 (by decide)).2 ?_ ?_
  · rw [lin2, H.pu' i hi, H.pu' j hj, hh.1]; exact cancel2 _ _ _ _
  · rw [lin2b, H.pv' i hi, H.pv' j hj, hh.2]; exact cancel2 _ _ _ _
theorem id3' (a1 a2 a3 b1 b2 b3 w1 w2 w3 : Int) : (w2 * w3) * (a2 * b3 - a3 * b2) * (w1 * a1) + (w3 * w1) * (a3 * b1 - a1 * b3) * (w2 * a2) + (w1 * w2) * (a1 * b2 - a2 * b1) * (w3 * a3) = 0 := by grind
theorem id3b' (a1 a2 a3 b1 b2 b3 w1 w2 w3 : Int) : (w2 * w3) * (a2 * b3 - a3 * b2) * (w1 * b1) + (w3 * w1) * (a3 * b1 - a1 * b3) * (w2 * b2) + (w1 * w2) * (a1 * b2 - a2 * b1) * (w3 * b3) = 0 := by grind
theorem grey_three {i j k : Nat} (hi : i < 4) (hj : j < 4) (hk : k < 4) (h : Cyc (th i) (th j) (th k) ∨ Cyc (th k) (th j) (th i)) : Grey (mixThree cf (fun p => pu (cf p)) (fun p => pv (cf p)) j i k) := by
  have t := H.tF hi hj
  have a := H.tF hj hk
  have b := H.tF hk hi
  have et := abs_ex t.1
  have ea := abs_ex a.1
  have eb := abs_ex b.1
  have sg : (0 < crossH (th j) (th k) ∧ 0 < crossH (th k) (th i) ∧ 0 < crossH (th i) (th j)) ∨ (crossH (th j) (th k) < 0 ∧ crossH (th k) (th i) < 0 ∧ crossH (th i) (th j) < 0) := by
    rcases h with h | h
    · exact .inl ⟨(pq_fact (H.tb j hj) (H.tb k hk)).1.mpr h.2.1, (pq_fact (H.tb k hk) (H.tb i hi)).1.mpr h.2.2, (pq_fact (H.tb i hi) (H.tb j hj)).1.mpr h.1⟩
    · exact .inr ⟨(neg_fact (H.tb j hj) (H.tb k hk)).mpr h.1, (neg_fact (H.tb k hk) (H.tb i hi)).mpr h.2.2, (neg_fact (H.tb i hi) (H.tb j hj)).mpr h.2.1⟩
  have one : ∀ c, c < 3 → Ex 27 (mixThree cf (fun p => pu (cf p)) (fun p => pv (cf p)) j i k c) ((((ws j * ws k) * crossH (th j) (th k)).natAbs : Int) * cs i c + (((ws k * ws i) * crossH (th k) (th i)).natAbs : Int) * cs j c + (((ws i * ws j) * crossH (th i) (th j)).natAbs : Int) * cs k c) ∧
      ((((ws j * ws k) * crossH (th j) (th k)).natAbs : Int) * cs i c + (((ws k * ws i) * crossH (th k) (th i)).natAbs : Int) * cs j c + (((ws i * ws j) * crossH (th i) (th j)).natAbs : Int) * cs k c).natAbs < 2 ^ 50 := fun c hc => by
    have p1 := abs_small (nn_le a.2) (H.cb i hi c hc)
    have p2 := abs_small (nn_le b.2) (H.cb j hj c hc)
    have p3 := abs_small (nn_le t.2) (H.cb k hk c hc)
    have m1 := mul_ex (K := 18) (J := 9) (by decide) ea (H.col i hi c hc) (le_lt p1 (by decide))
    have m2 := mul_ex (K := 18) (J := 9) (by decide) eb (H.col j hj c hc) (le_lt p2 (by decide))
    have m3 := mul_ex (K := 18) (J := 9) (by decide) et (H.col k hk c hc) (le_lt p3 (by decide))
    have s12 := add_b p1 p2 (Nat.le_refl _)
    have s := add_b s12 p3 (Nat.le_refl _)
    exact ⟨add_ex (by decide) (add_ex (by decide) m1 m2 (le_lt s12 (by decide))) m3 (le_lt s (by decide)), le_lt s (by decide)⟩
  refine grey_of (K := 27) (by decide) (fun c hc => (one c hc).1) (one 0 (by decide)).2 ?_ ?_
  · rw [lin3, H.pu' i hi, H.pu' j hj, H.pu' k hk]
    have s1 := H.sgn hj hk
    have s2 := H.sgn hk hi
    have s3 := H.sgn hi hj
    have id := id3' H (hU (th i)) (hU (th j)) (hU (th k)) (hV (th i)) (hV (th j)) (hV (th k)) (ws i) (ws j) (ws k)
    change (ws j * ws k) * crossH (th j) (th k) * _ + (ws k * ws i) * crossH (th k) (th i) * _ + (ws i * ws j) * crossH (th i) (th j) * _ = 0 at id
    rcases sg with sg | sg
    · rw [nabs_p (s1.1.mpr sg.1), nabs_p (s2.1.mpr sg.2.1), nabs_p (s3.1.mpr sg.2.2)]
      exact id
    · rw [nabs_n (s1.2.mpr sg.1), nabs_n (s2.2.mpr sg.2.1), nabs_n (s3.2.mpr sg.2.2), Int.neg_mul, Int.neg_mul, Int.neg_mul]
      exact neg3 id
  · rw [lin3b, H.pv' i hi, H.pv' j hj, H.pv' k hk]
    have s1 := H.sgn hj hk
    have s2 := H.sgn hk hi
    have s3 := H.sgn hi hj
    have id := id3b' H (hU (th i)) (hU (th j)) (hU (th k)) (hV (th i)) (hV (th j)) (hV (th k)) (ws i) (ws j) (ws k)
    change (ws j * ws k) * crossH (th j) (th k) * _ + (ws k * ws i) * crossH (th k) (th i) * _ + (ws i * ws j) * crossH (th i) (th j) * _ = 0 at id
    rcases sg with sg | sg
    · rw [nabs_p (s1.1.mpr sg.1), nabs_p (s2.1.mpr sg.2.1), nabs_p (s3.1.mpr sg.2.2)]
      exact id
    · rw [nabs_n (s1.2.mpr sg.1), nabs_n (s2.2.mpr sg.2.1), nabs_n (s3.2.mpr sg.2.2), Int.neg_mul, Int.neg_mul, Int.neg_mul]
      exact neg3 id
end
end
section
open PySem PySem.W PyProof.Rows PySem.Flt PySem.Spec PySem.Calls
/-- how many of the four lie behind x -/
noncomputable def rk (r : Nat → Int) (x : Int) : Nat := (if r 0 < x then 1 else 0) + (if r 1 < x then 1 else 0) + (if r 2 < x then 1 else 0) + (if r 3 < x then 1 else 0)
theorem one_le {a x z : Int} (h : x ≤ z) : (if a < x then 1 else 0) ≤ (if a < z then (1 : Nat) else 0) := by
  split
  · rw [if_pos (by (first | lia | omega))]; exact Nat.le_refl _
  · exact Nat.zero_le _
theorem rk_mono {r : Nat → Int} {x z : Int} (h : x ≤ z) : rk r x ≤ rk r z :=
  Nat.add_le_add (Nat.add_le_add (Nat.add_le_add (one_le h) (one_le h)) (one_le h)) (one_le h)
theorem add4 {a0 a1 a2 a3 b0 b1 b2 b3 : Nat} (h0 : a0 ≤ b0) (h1 : a1 ≤ b1) (h2 : a2 ≤ b2) (h3 : a3 ≤ b3) (h : a0 < b0 ∨ a1 < b1 ∨ a2 < b2 ∨ a3 < b3) : a0 + a1 + a2 + a3 < b0 + b1 + b2 + b3 := by (first | lia | omega)
theorem rk_lt {r : Nat → Int} {j : Nat} (hj : j < 4) {z : Int} (h : r j < z) : rk r (r j) < rk r z := by
  have s : (if r j < r j then 1 else 0) < (if r j < z then (1 : Nat) else 0) := by rw [if_neg (Int.lt_irrefl _), if_pos h]; decide
  refine add4 (one_le (Int.le_of_lt h)) (one_le (Int.le_of_lt h)) (one_le (Int.le_of_lt h)) (one_le (Int.le_of_lt h)) ?_
  rcases cs4 hj with rfl | rfl | rfl | rfl
  · exact .inl s
  · exact .inr (.inl s)
  · exact .inr (.inr (.inl s))
  · exact .inr (.inr (.inr s))
theorem ite_le1 (c : Prop) [Decidable c] : (if c then 1 else 0) ≤ (1 : Nat) := by split <;> decide
theorem rk_b {r : Nat → Int} {j : Nat} (hj : j < 4) : rk r (r j) < 4 := by
  have h := rk_lt (r := r) hj (Int.lt_succ (r j))
  have h2 : rk r (r j + 1) ≤ 1 + 1 + 1 + 1 := Nat.add_le_add (Nat.add_le_add (Nat.add_le_add (ite_le1 _) (ite_le1 _)) (ite_le1 _)) (ite_le1 _)
  exact Nat.lt_of_lt_of_le h h2
theorem rk_le {r : Nat → Int} {a b : Nat} (hb : b < 4) : rk r (r a) ≤ rk r (r b) ↔ r a ≤ r b := by
  constructor
  · intro h
    rcases Int.lt_or_le (r b) (r a) with q | q
    · exact absurd (rk_lt hb q) (Nat.not_lt.mpr h)
    · exact q
  · exact fun h => rk_mono h
theorem rk_eq {r : Nat → Int} {a b : Nat} (ha : a < 4) (hb : b < 4) : rk r (r a) = rk r (r b) ↔ r a = r b := by
  have h1 := rk_le (r := r) (a := a) hb
  have h2 := rk_le (r := r) (a := b) ha
  (first | lia | omega)
theorem any4 {F G : Nat → Nat → Bool} (h : ∀ a, a < 4 → ∀ b, b < 4 → F a b = G a b) : ((List.range 4).any fun a => (List.range 4).all fun b => F a b) = (List.range 4).any fun a => (List.range 4).all fun b => G a b := by
  rw [Bool.eq_iff_iff]
  simp only [List.any_eq_true, List.all_eq_true, List.mem_range]
  constructor
  · rintro ⟨a, ha, q⟩
    exact ⟨a, ha, fun b hb => (h a ha b hb) ▸ q b hb⟩
  · rintro ⟨a, ha, q⟩
    exact ⟨a, ha, fun b hb => (h a ha b hb) ▸ q b hb⟩
/-- the line of an axis, its side -/
noncomputable def lnA (y : Nat → Int) (j : Nat) : Int := (plc (y j) false).fmod 32
noncomputable def sdA (y : Nat → Int) (j : Nat) : Bool := decide (32 ≤ plc (y j) false)
theorem plc_ln (y : Nat → Int) (j : Nat) (e : Bool) : plc (y j) e = lnA y j + (if (sdA y j ^^ e) then 32 else 0) ∧ 0 ≤ lnA y j ∧ lnA y j < 32 := by
  have h := plc_b (y j) false
  have e1 : plc (y j) true = (plc (y j) false + 32).fmod 64 := rfl
  unfold lnA sdA
  obtain ⟨P, hP⟩ : ∃ P, plc (y j) false = P := ⟨_, rfl⟩
  rw [hP] at h e1
  rw [Int.fmod_eq_emod_of_nonneg _ (by decide)] at e1
  rw [hP, Int.fmod_eq_emod_of_nonneg _ (by decide)]
  refine ⟨?_, by omega, by omega⟩
  cases e
  · rw [Bool.xor_false, hP]
    by_cases q : 32 ≤ P
    · simp only [q, decide_true, if_true]; omega
    · simp only [q, decide_false, Bool.false_eq_true, if_false]; omega
  · rw [Bool.xor_true, e1]
    by_cases q : 32 ≤ P
    · simp only [q, decide_true, Bool.not_true, Bool.false_eq_true, if_false]; omega
    · simp only [q, decide_false, Bool.not_false, if_true]; omega
theorem pair_eq {ra rb : Int} (ga gb : Bool) (ha : 0 ≤ ra ∧ ra < 32) (hb : 0 ≤ rb ∧ rb < 32) {x z : Int} (hx : x = ra + (if ga then 32 else 0)) (hz : z = rb + (if gb then 32 else 0)) : decide (z = x ∨ Ahd x z) = ((ga == gb) == decide (ra ≤ rb)) := by
  subst hx hz
  unfold Ahd
  have e : ∀ {p : Prop} [Decidable p] (b : Bool), (p ↔ b = true) → decide p = b := fun b h => by
    cases b with
    | true => exact decide_eq_true (h.mpr rfl)
    | false => exact decide_eq_false fun q => Bool.noConfusion (h.mp q)
  refine e _ ?_
  by_cases q : ra ≤ rb
  · rw [decide_eq_true q]
    cases ga <;> cases gb <;> simp <;> omega
  · rw [decide_eq_false q]
    cases ga <;> cases gb <;> simp <;> omega
theorem sd_sB (y : Nat → Int) (n : Nat) : sdB (ths y n) = sB (g4 (rk (lnA y) (lnA y 0)) (rk (lnA y) (lnA y 1)) (rk (lnA y) (lnA y 2)) (rk (lnA y) (lnA y 3))) (g4 (sdA y 0 ^^ chs n 0) (sdA y 1 ^^ chs n 1) (sdA y 2 ^^ chs n 2) (sdA y 3 ^^ chs n 3)) := by
  have g4a : ∀ j, j < 4 → g4 (rk (lnA y) (lnA y 0)) (rk (lnA y) (lnA y 1)) (rk (lnA y) (lnA y 2)) (rk (lnA y) (lnA y 3)) j = rk (lnA y) (lnA y j) := fun j hj => by
    rcases cs4 hj with rfl | rfl | rfl | rfl
    · rfl
    · rfl
    · rfl
    · rfl
  have g4b : ∀ j, j < 4 → g4 (sdA y 0 ^^ chs n 0) (sdA y 1 ^^ chs n 1) (sdA y 2 ^^ chs n 2) (sdA y 3 ^^ chs n 3) j = (sdA y j ^^ chs n j) := fun j hj => by
    rcases cs4 hj with rfl | rfl | rfl | rfl
    · rfl
    · rfl
    · rfl
    · rfl
  unfold sdB sB ths
  rw [List.any_map]
  simp only [List.all_map, Function.comp_def]
  refine any4 fun a ha b hb => ?_
  rw [g4a a ha, g4a b hb, g4b a ha, g4b b hb]
  have pa := plc_ln y a (chs n a)
  have pb := plc_ln y b (chs n b)
  rw [pair_eq _ _ pa.2 pb.2 pa.1 pb.1]
  congr 1
  exact decide_eq_decide.mpr (rk_le hb).symm
theorem cnt_fold (y : Nat → Int) : ∀ n c, (List.range n).foldr (fun k acc => (sdB (ths y k)).toNat + acc) c = cnt y n + c := by
  intro n
  induction n with
  | zero => intro c; simp [cnt]
  | succ n ih =>
    intro c
    rw [List.range_succ, List.foldr_append]
    show (List.range n).foldr _ ((sdB (ths y n)).toNat + c) = _
    rw [ih, cnt]
    (first | lia | omega)
theorem rank_nat {a b c d : Nat} (ha : a < 4) (hb : b < 4) (hc : c < 4) (hd : d < 4) : sum16 (fun p q r s => (sB (g4 a b c d) (g4 p q r s)).toNat) = 2 * ((List.range 4).filter fun k => decide (∀ j, j < k → g4 a b c d j ≠ g4 a b c d k)).length :=
  rank_all ⟨a, ha⟩ ⟨b, hb⟩ ⟨c, hc⟩ ⟨d, hd⟩
theorem g4_rk (r : Nat → Int) {j : Nat} (hj : j < 4) : g4 (rk r (r 0)) (rk r (r 1)) (rk r (r 2)) (rk r (r 3)) j = rk r (r j) := by
  rcases cs4 hj with rfl | rfl | rfl | rfl
  · rfl
  · rfl
  · rfl
  · rfl
/-- two choices for each line -/
theorem wendel (y : Nat → Int) : cnt y 16 = 2 * ((List.range 4).filter fun k => decide (∀ j, j < k → lnA y j ≠ lnA y k)).length := by
  have e : cnt y 16 = sum16 (fun p q r s => (sB (g4 (rk (lnA y) (lnA y 0)) (rk (lnA y) (lnA y 1)) (rk (lnA y) (lnA y 2)) (rk (lnA y) (lnA y 3))) (g4 (sdA y 0 ^^ p) (sdA y 1 ^^ q) (sdA y 2 ^^ r) (sdA y 3 ^^ s))).toNat) := by
    have := cnt_fold y 16 0
    rw [Nat.add_zero] at this
    rw [← this]
    unfold sum16
    simp only [sd_sB]
  rw [e, sum16_xor fun p q r s => (sB (g4 (rk (lnA y) (lnA y 0)) (rk (lnA y) (lnA y 1)) (rk (lnA y) (lnA y 2)) (rk (lnA y) (lnA y 3))) (g4 p q r s)).toNat]
  rw [rank_nat (rk_b (by decide)) (rk_b (by decide)) (rk_b (by decide)) (rk_b (by decide))]
  congr 2
  refine List.filter_congr fun k hk => ?_
  have hk := List.mem_range.mp hk
  refine decide_eq_decide.mpr ⟨fun h j hj e => h j hj ?_, fun h j hj e => h j hj ?_⟩
  · rw [g4_rk _ (by (first | lia | omega)), g4_rk _ hk, e]
  · rw [g4_rk _ (by (first | lia | omega)), g4_rk _ hk] at e
    exact (rk_eq (by (first | lia | omega)) hk).mp e
end
section
open PySem PySem.W PyProof.Rows PySem.Flt PySem.Spec PySem.Calls
/-- the headers of choice n: axis and end, in the order of their last stores -/
noncomputable def gs : Nat → List (Nat × Bool)
  | 0 => [(0, false), (1, false), (2, false), (3, false)]
  | n + 1 => (gs n).filter (fun q => q.1 != kk n) ++ [(kk n, !chs n (kk n))]
structure Hd2 (y : Nat → Int) (n : Nat) (its : List HI) (rest : Led9) : Prop where
  eq : its.map (fun it => (it.nm, it.low, it.tx)) = (gs n).map fun q => (nm q.1 q.2, nm q.1 false, itx (plc (y q.1) q.2))
  mem : ∀ it ∈ its, it.ent ∈ rest
structure Row2 (y : Nat → Int) (n : Nat) (rv : List Value) (ns : List Int) : Prop where
  isI : IntsAre rv ns
  sorted : Sorted ns
  perm : ns.Perm (ths y n)
noncomputable abbrev sCount : Str := Str.ofString "count"
noncomputable abbrev W2 : List Str := [Str.ofString "k", Str.ofString "sided", Str.ofString "mix", Str.ofString "small", Str.ofString "great", Str.ofString "old", Str.ofString "name"]
/-- the frame between the turns -/
noncomputable abbrev fr2 (c : Int) (t : Tok) (hx : Addr) (m₁ m₀ : Str → Option Value) : Str → Option Value := fun z => if z = sCount then some (.int c t) else if z = sChosen then some (.ref hx) else
  if z = Str.ofString "k" then m₁ z else if z = Str.ofString "sided" then m₁ z else if z = Str.ofString "mix" then m₁ z else if z = Str.ofString "small" then m₁ z else if z = Str.ofString "great" then m₁ z else if z = Str.ofString "old" then m₁ z else if z = Str.ofString "name" then m₁ z else m₀ z
theorem fr2_of {c : Int} {t : Tok} {hx : Addr} {m₁ m₀ : Str → Option Value} (h : ∀ z, z ≠ sCount → z ∉ W2 → m₁ z = m₀ z) (hc : m₁ sCount = some (.int c t)) (hx' : m₀ sChosen = some (.ref hx)) : m₁ = fr2 c t hx m₁ m₀ := by
  funext z
  unfold fr2
  by_cases e : z = sCount
  · rw [if_pos e, e, hc]
  rw [if_neg e]
  by_cases e2 : z = sChosen
  · rw [if_pos e2, e2, ← hx']
    exact h _ (by decide) (by decide)
  rw [if_neg e2]
  by_cases w : z ∈ W2
  · simp only [List.mem_cons, List.not_mem_nil, or_false] at w
    rcases w with w | w | w | w | w | w | w <;> subst w <;> rfl
  · have q : ∀ {x}, x ∈ W2 → ¬ z = x := fun hx e => w (e ▸ hx)
    exact (h z e w).trans ((if_neg (q (by decide))).trans ((if_neg (q (by decide))).trans ((if_neg (q (by decide))).trans ((if_neg (q (by decide))).trans ((if_neg (q (by decide))).trans ((if_neg (q (by decide))).trans (if_neg (q (by decide))))))))).symm
section
variable (P : Params) (cT cE cP cR cW tD eD pL hx dx hL rL : Nat) (oT oE oP oR oD oF : Obj) (pv : List Value) (pn : Nat) (tkh : Tok) (y : Nat → Int) (kT kE : List (Str × Value)) (Z : Nat) (zs : List Value) (zn : Nat) (m₀ : Str → Option Value)
/-- between two turns of the second loop -/
inductive J2 (n : Nat) (m : Str → Option Value) (nw : Led9) : Prop
  | mk (oW : Obj) (its : List HI) (hn : Nat) (rv : List Value) (rn : Nat) (rest : Led9) (ns : List Int) (vW : Option Value) (tc : Tok)
      (e : nw = mut1 P cT cE cP cR cW tD eD pL hx dx hL rL oT oE oP oR oW oD oF pv pn its hn tkh rv rn rest) (dW : oW.data = .cell vW) (hR : Above rL rest) (hZ : (Z, lst zs zn) ∈ rest)
      (hm : ∀ z, z ≠ sCount → z ∉ W2 → m z = m₀ z) (hc : m sCount = some (.int (cnt y n) tc)) (T : Tab1 y 4 kT kE rest) (H : Hd2 y n its rest) (R : Row2 y n rv ns) : J2 n m nw
/-- a turn's end -/
inductive E2 (h₀ : Heap) (L : Addr) (s : Shared) (I : Nat) (oI : Obj) (n : Nat) : Flow → Shared → Prop
  | mk (h' : Heap) (tk : Nat) (m' : Str → Option Value) (oW : Obj) (its : List HI) (hn : Nat) (rv : List Value) (rn : Nat) (rest : Led9) (ns : List Int) (vW : Option Value) (tc : Tok)
      (F : Fr h₀ L h' m') (N : News h₀ L h' ((I, oI) :: mut1 P cT cE cP cR cW tD eD pL hx dx hL rL oT oE oP oR oW oD oF pv pn its hn tkh rv rn rest)) (dW : oW.data = .cell vW) (hR : Above rL rest) (off : ∀ p ∈ rest, @Ne Nat p.1 I) (hZ : (Z, lst zs zn) ∈ rest)
      (hm : ∀ z, z ≠ sCount → z ∉ W2 → m' z = m₀ z) (hc : m' sCount = some (.int (cnt y (n + 1)) tc)) (T : Tab1 y 4 kT kE rest) (H : Hd2 y (n + 1) its rest) (R : Row2 y (n + 1) rv ns) : E2 h₀ L s I oI n .next { s with heap := h', toks := tk }
end
section
variable {prog : Program} {w : World} {A : Around} {E : Value → Shared → Prop} {s : Shared} {env : Env} {h₀ : Heap} {target : Expr} {body : List Stmt} {Q : Flow → Shared → Prop}
  {cT cE cP cR cW tD eD pL hx dx hL rL : Nat} {oT oE oP oR oD oF : Obj} {pv : List Value} {pn : Nat} {tkh : Tok} {y : Nat → Int} {kT kE : List (Str × Value)} {Z : Nat} {zs : List Value} {zn : Nat}
noncomputable abbrev Turn2 (prog : Program) (w : World) (A : Around) (E : Value → Shared → Prop) (env : Env) (h₀ : Heap) (target : Expr) (body : List Stmt) (cT cE cP cR cW tD eD pL hx dx hL rL : Nat) (oT oE oP oR oD oF : Obj) (pv : List Value) (pn : Nat) (tkh : Tok) (y : Nat → Int) (kT kE : List (Str × Value)) (Z : Nat) (zs : List Value) (zn : Nat) : Prop :=
  ∀ (s : Shared) (m₀ : Str → Option Value) (n : Nat) (m₁ : Str → Option Value) (h : Heap) (tk : Nat) (I : Nat) (oI oW : Obj) (its : List HI) (hn : Nat) (rv : List Value) (rn : Nat) (rest : Led9) (ns : List Int) (vW : Option Value) (tc tz : Tok) (Qv : Flow → Shared → Prop),
    m₀ sChosen = some (.ref hx) → n < 16 → @LT.lt Nat _ rL I → (∀ p ∈ rest, @Ne Nat p.1 I) → oW.data = .cell vW → Above rL rest → (Z, lst zs zn) ∈ rest → Tab1 y 4 kT kE rest → Hd2 y n its rest → Row2 y n rv ns →
    (∀ f s₃, E2 w.params cT cE cP cR cW tD eD pL hx dx hL rL oT oE oP oR oD oF pv pn tkh y kT kE Z zs zn m₀ h₀ env.locals { s with heap := h, toks := tk } I oI n f s₃ → Qv f s₃) →
    Fr h₀ env.locals h (fr2 (cnt y n) tc hx m₁ m₀) → News h₀ env.locals h ((I, oI) :: (cW, oW) :: (cR, oR) :: (cP, oP) :: (cE, oE) :: (cT, oT) :: (tD, oD) :: (eD, oF) :: (pL, lst pv pn) :: (hx, instObj 210 dx) :: (dx, hdD w.params tkh hL) :: (hL, lst (its.map HI.val) hn) :: (rL, lst rv rn) :: rest) →
    wpAny (model prog w) A (assign target env (.int (kk n) tz)) (fun _ s₂ => wpAny (model prog w) A (execs body env) Qv E s₂) E { s with heap := h, toks := tk }
noncomputable abbrev Done2 (w : World) (s : Shared) (env : Env) (h₀ : Heap) (Q : Flow → Shared → Prop) (cT cE cP cR cW tD eD pL hx dx hL rL : Nat) (oT oE oP oR oD oF : Obj) (pv : List Value) (pn : Nat) (tkh : Tok) (y : Nat → Int) (kT kE : List (Str × Value)) : Prop :=
  ∀ (m₀ m₁ : Str → Option Value) (h : Heap) (tk : Nat) (oW : Obj) (its : List HI) (hn : Nat) (rv : List Value) (rn : Nat) (rest : Led9) (vW : Option Value) (tc : Tok),
    m₀ sChosen = some (.ref hx) → oW.data = .cell vW → Above rL rest → Tab1 y 4 kT kE rest → Hd2 y 16 its rest → Fr h₀ env.locals h (fr2 (cnt y 16) tc hx m₁ m₀) → News h₀ env.locals h ((cW, oW) :: (cR, oR) :: (cP, oP) :: (cE, oE) :: (cT, oT) :: (tD, oD) :: (eD, oF) :: (pL, lst pv pn) :: (hx, instObj 210 dx) :: (dx, hdD w.params tkh hL) :: (hL, lst (its.map HI.val) hn) :: (rL, lst rv rn) :: rest) → Q .next { s with heap := h, toks := tk }
noncomputable abbrev ks16 : List Int := [0, 1, 0, 2, 0, 1, 0, 3, 0, 1, 0, 2, 0, 1, 0, 3]
theorem ks_at {i : Nat} {n : Int} (h : ks16[i]? = some n) : i < 16 ∧ n = (kk i : Int) := by
  have hi : i < 16 := by
    have := (List.getElem?_eq_some_iff.mp h).1
    simpa using this
  have : ∀ i : Fin 16, ks16[i.1]? = some (kk i.1 : Int) := by decide
  have := this ⟨i, hi⟩
  rw [h] at this
  exact ⟨hi, Option.some.inj this⟩
theorem hd_two {y : Nat → Int} {its : List HI} {rest : Led9} (H : Hd1 y 4 its rest) : Hd2 y 0 its rest := by
  refine ⟨?_, fun it hit => ?_⟩
  · have hl := H.len
    refine List.ext_getElem? fun j => ?_
    rcases Nat.lt_or_ge j 4 with h | h
    · obtain ⟨it, e, a, b, c, _⟩ := H.at' j h
      rw [List.getElem?_map, e, List.getElem?_map]
      rcases cs4 h with rfl | rfl | rfl | rfl
      · simp only [gs, Option.map_some, a, b, c]; rfl
      · simp only [gs, Option.map_some, a, b, c]; rfl
      · simp only [gs, Option.map_some, a, b, c]; rfl
      · simp only [gs, Option.map_some, a, b, c]; rfl
    · rw [List.getElem?_eq_none (by rw [List.length_map]; (first | lia | omega)), List.getElem?_eq_none (by rw [List.length_map]; exact h)]
  · obtain ⟨j, hj, e⟩ := List.getElem_of_mem hit
    have hl := H.len
    obtain ⟨it', e', _, _, _, d⟩ := H.at' j (by (first | lia | omega))
    rw [List.getElem?_eq_getElem hj] at e'
    obtain rfl : its[j] = it' := by simpa using e'
    subst e
    exact d
theorem law_loop2 {oW : Obj} {its : List HI} {hn : Nat} {rv : List Value} {rn : Nat} {rest : Led9} {ns : List Int} {vW : Option Value} {tc : Tok} {mf : Str → Option Value} {all : Led9}
    (hh : A.handled = none) (F : Fr h₀ env.locals s.heap mf) (N : News h₀ env.locals s.heap all) (e : all = (Z, lst zs zn) :: mut1 w.params cT cE cP cR cW tD eD pL hx dx hL rL oT oE oP oR oW oD oF pv pn its hn tkh rv rn rest) (hz : IntsAre zs ks16)
    (hA : Adr cT cE cP cR cW tD eD pL hx dx hL rL) (hZ : @LT.lt Nat _ rL Z) (dW : oW.data = .cell vW) (hR : Above rL rest) (hc : mf sCount = some (.int 0 tc)) (hch : mf sChosen = some (.ref hx)) (T : Tab1 y 4 kT kE rest) (H : Hd1 y 4 its rest) (R : Row1 y 4 rv ns)
    (turn : Turn2 prog w A E env h₀ target body cT cE cP cR cW tD eD pL hx dx hL rL oT oE oP oR oD oF pv pn tkh y kT kE Z zs zn)
    (done : Done2 w s env h₀ Q cT cE cP cR cW tD eD pL hx dx hL rL oT oE oP oR oD oF pv pn tkh y kT kE) :
    wpAny (model prog w) A (pyIter (.ref Z)) (fun it s₂ => TurnsAt prog w A h₀ env target body Q E it s₂) E s := by
  have up : ∀ {oW its hn rv rn rest} {x : Addr × Obj}, x ∈ rest → x ∈ mut1 w.params cT cE cP cR cW tD eD pL hx dx hL rL oT oE oP oR oW oD oF pv pn its hn tkh rv rn rest := fun hp => .tail _ (.tail _ (.tail _ (.tail _ (.tail _ (.tail _ (.tail _ (.tail _ (.tail _ (.tail _ (.tail _ (.tail _ hp)))))))))))
  have N2 : News h₀ env.locals s.heap (mut1 w.params cT cE cP cR cW tD eD pL hx dx hL rL oT oE oP oR oW oD oF pv pn its hn tkh rv rn ((Z, lst zs zn) :: rest)) := by
    subst e
    have := news_mid (h₀ := h₀) (h := s.heap) (L := env.locals) (pre := [(Z, lst zs zn)]) (rest := rest) (mid := mut1 w.params cT cE cP cR cW tD eD pL hx dx hL rL oT oE oP oR oW oD oF pv pn its hn tkh rv rn []) N
    exact this
  have mono : ∀ {x : Addr × Obj}, Tab1 y 4 kT kE (x :: rest) := fun {x} => ⟨T.dT, fun j hj e => by obtain ⟨a, fl, t, p, q, r⟩ := T.dE j hj e; exact ⟨a, fl, t, p, .tail _ q, r⟩, T.zT, T.zE⟩
  refine for_list2 (vs := zs) (n := zn) (J := J2 w.params cT cE cP cR cW tD eD pL hx dx hL rL oT oE oP oR oD oF pv pn tkh y kT kE Z zs zn mf) hh F N2 ?_ ?_ ?_ ?_
  · rintro i m nw ⟨oW, its, hn, rv, rn, rest, ns, vW, tc, rfl, dW, hR, hZ, hm, hc, T, H, R⟩
    exact up hZ
  · exact ⟨oW, its, hn, rv, rn, _, ns, vW, tc, rfl, dW, fun p hp => by rcases List.mem_cons.mp hp with rfl | hp; exact hZ; exact hR p hp, .head _, fun _ _ _ => rfl, hc, mono, ⟨(hd_two H).eq, fun it hit => .tail _ ((hd_two H).mem it hit)⟩, ⟨R.isI, R.sorted, R.perm⟩⟩
  · rintro i v m₁ nw h tk I o hv ⟨oW, its, hn, rv, rn, rest, ns, vW, tc, rfl, dW, hR, hZ', hm, hc, T, H, R⟩ hne hI F' N'
    obtain ⟨n, t, rfl, hn'⟩ := hz.at i v hv
    obtain ⟨hi, rfl⟩ := ks_at hn'
    rw [fr2_of hm hc hch] at F'
    have hIr : @LT.lt Nat _ rL I := hI (rL, lst _ _) (.tail _ (.tail _ (.tail _ (.tail _ (.tail _ (.tail _ (.tail _ (.tail _ (.tail _ (.tail _ (.tail _ (.head _))))))))))))
    refine turn s mf i m₁ h tk I o oW its hn rv rn rest ns vW tc t (LPost h₀ env.locals { s with heap := h, toks := tk } I o (J2 w.params cT cE cP cR cW tD eD pL hx dx hL rL oT oE oP oR oD oF pv pn tkh y kT kE Z zs zn mf (i + 1)) Q) hch hi hIr (fun p hp => hne p (up hp)) dW hR hZ' T H R ?_ F' N'
    rintro f s₃ ⟨h', tk', m', oW, its, hn, rv, rn, rest, ns, vW, tc, F₂, N₂, dW, hR₂, off, hZ₂, hm₂, hc₂, T₂, H₂, R₂⟩
    exact ⟨h', tk', m', _, rfl, F₂, N₂, mut1_off hA hIr off, oW, its, hn, rv, rn, rest, ns, vW, tc, rfl, dW, hR₂, hZ₂, hm₂, hc₂, T₂, H₂, R₂⟩
  · rintro m₁ nw h tk ⟨oW, its, hn, rv, rn, rest, ns, vW, tc, rfl, dW, hR, hZ', hm, hc, T, H, R⟩ F' N'
    have hl : zs.length = 16 := hz.length
    rw [hl] at hc H
    rw [fr2_of hm hc hch] at F'
    exact done mf m₁ h tk oW its hn rv rn rest vW tc hch dW hR T H F' N'
end
end
section
open PySem PySem.W PyProof.Rows PySem.Flt PySem.Spec PySem.Calls
/-- the end of a turn of a comprehension that leaves the ledger as it was -/
noncomputable def VEnd (h₀ : Heap) (L : Addr) (m : Str → Option Value) (s : Shared) (led : Led9) (R : Value → Prop) (y : Value) (s' : Shared) : Prop := ∃ h' tk, s' = { s with heap := h', toks := tk } ∧ Fr h₀ L h' m ∧ News h₀ L h' led ∧ R y
theorem vend {h₀ : Heap} {L : Addr} {m : Str → Option Value} {s : Shared} {led : Led9} {R : Value → Prop} {y : Value} {h' : Heap} {tk : Nat} (F : Fr h₀ L h' m) (N : News h₀ L h' led) (c : R y) : VEnd h₀ L m s led R y { s with heap := h', toks := tk } := ⟨h', tk, rfl, F, N, c⟩
theorem VEnd.mono {h₀ : Heap} {L : Addr} {m : Str → Option Value} {s : Shared} {led : Led9} {R R' : Value → Prop} {y : Value} {s' : Shared} (h : ∀ y, R y → R' y) : VEnd h₀ L m s led R y s' → VEnd h₀ L m s led R' y s' := fun ⟨h', tk, a, b, c, d⟩ => ⟨h', tk, a, b, c, h _ d⟩
section
open LCg LCt
variable {prog : Program} {w : World} {A : Around} {h₀ : Heap} {L : Addr} {m : Str → Option Value} {env : Env} {Q : Value → Shared → Prop}
theorem comp_map {elt : Expr} {x : Str} {scope : Scope} {cl : List (Str × Addr)} {ax : Addr} {vs : List Value} {n : Nat} {news : Led9} {s₁ : Shared} (R : Nat → Value → Prop)
    (hh : A.handled = none) (F : Fr h₀ L s₁.heap m) (N : News h₀ L s₁.heap news) (hm : (ax, Mine.lst vs n) ∈ news) (hsz : vs.length ≤ 1000)
    (step : ∀ i v I oI C oC D m₂ h tk (E' : Value → Shared → Prop) ys, vs[i]? = some v → NsObj oC m₂ → m₂ x = some v → Fr h₀ L h m → News h₀ L h ((I, oI) :: (C, oC) :: (D, LCg.lst ys) :: news) →
      wpAny (model prog w) A (eval elt (compEnvC scope cl C env)) (VEnd h₀ L m { s₁ with heap := h, toks := tk } ((I, oI) :: (C, oC) :: (D, LCg.lst ys) :: news) (R i)) E' { s₁ with heap := h, toks := tk })
    (fin : ∀ D h' tk ys, ys.length = vs.length → (∀ i y, ys[i]? = some y → R i y) → Fr h₀ L h' m → News h₀ L h' ((D, LCg.lst ys) :: news) → Off1 D news → Q (.ref D) { s₁ with heap := h', toks := tk }) :
    CompSrc prog w A h₀ L m env elt x scope cl (fun s₂ => FinE h₀ L m s₂ Q) (.ref ax) s₁ := by
  have hS : SrcAt h₀ ax vs.toArray news := .inr ⟨_, hm, rfl, _, rfl⟩
  refine CompSrc.ledger (k := n) hh F N hm (by rw [List.size_toArray, sizeLine_eq]; (first | lia | omega)) fun g => ?_
  have all : ∀ k i ys, i + k = vs.length → ys.length = i → (∀ j y, ys[j]? = some y → R j y) → CompRest prog w A h₀ L m env elt x scope cl { s₁ with heap := g } (SrcAt h₀ ax vs.toArray) (fun i v => vs.toArray[i]? = some v) (FinE h₀ L m { s₁ with heap := g } Q) k i ys news := by
    intro k
    induction k with
    | zero =>
      intro i ys hi hy hR
      exact CompRest.zero fun D h tk F' N' o => fin D h tk ys (hy.trans hi) hR F' N' o
    | succ k ih =>
      intro i ys hi hy hR
      refine CompRest.succ fun v I oI C oC D m₂ h tk E' hv hC hx F' N' off ne => ?_
      refine wpAny_mono (step i v I oI C oC D m₂ h tk E' ys (by simpa using hv) hC hx F' N') (fun y s₃ h₃ => ?_) fun _ _ e => e
      obtain ⟨h', tk', rfl, F₂, N₂, c⟩ := h₃
      refine ⟨h', tk', news, rfl, F₂, N₂, off, hS, ih (i + 1) _ (by (first | lia | omega)) (by rw [List.length_append, hy]; rfl) fun j y' hj => ?_⟩
      rcases Nat.lt_or_ge j i with q | q
      · rw [List.getElem?_append_left (by (first | lia | omega))] at hj
        exact hR j y' hj
      · rw [List.getElem?_append_right (by (first | lia | omega))] at hj
        have : j - ys.length = 0 := by
          rcases Nat.eq_zero_or_pos (j - ys.length) with z | z
          · exact z
          · rw [List.getElem?_eq_none (by simp only [List.length_cons, List.length_nil]; (first | lia | omega))] at hj; cases hj
        rw [this] at hj
        obtain rfl : y = y' := by simpa using hj
        obtain rfl : j = i := by (first | lia | omega)
        exact c
  have := all vs.length 0 [] (by (first | lia | omega)) rfl (fun j y hj => by simp at hj)
  simpa using this
theorem comp_filt {ct elt : Expr} {x : Str} {scope : Scope} {cl : List (Str × Addr)} {r : Addr} {t u v : Tok} {news : Led9} {s₁ : Shared} (p : Nat → Bool)
    (hh : A.handled = none) (F : Fr h₀ L s₁.heap m) (N : News h₀ L s₁.heap news) (hr : IsRange s₁.heap r 0 4 1 t u v)
    (step : ∀ i : Nat, i < 4 → ∀ t I oI C oC D m₂ h tk (E' : Value → Shared → Prop) ys, NsObj oC m₂ → m₂ x = some (.int (i : Int) t) → Fr h₀ L h m → News h₀ L h ((I, oI) :: (C, oC) :: (D, LCg.lst ys) :: news) →
      wpAny (model prog w) A (isTrue ct (compEnvC scope cl C env) (eval ct (compEnvC scope cl C env))) (fun ok s' => if ok = true then
        wpAny (model prog w) A (eval elt (compEnvC scope cl C env)) (VEnd h₀ L m { s₁ with heap := h, toks := tk } ((I, oI) :: (C, oC) :: (D, LCg.lst ys) :: news) (fun _ => p i = true)) E' s'
        else VEnd h₀ L m { s₁ with heap := h, toks := tk } ((I, oI) :: (C, oC) :: (D, LCg.lst ys) :: news) (fun _ => p i = false) .none s') E' { s₁ with heap := h, toks := tk })
    (fin : ∀ D h' tk ys, ys.length = ((List.range 4).filter p).length → Fr h₀ L h' m → News h₀ L h' ((D, LCg.lst ys) :: news) → Off1 D news → Q (.ref D) { s₁ with heap := h', toks := tk }) :
    CompSrcT prog w A h₀ L m env ct elt x scope cl (fun s₂ => FinE h₀ L m s₂ Q) (.ref r) s₁ := by
  refine CompSrcT.range (n := 4) hh F N hr (by decide) (by decide) (by rw [sizeLine_eq]; decide) fun g => ?_
  have all : ∀ k i ys, i + k = 4 → ys.length = ((List.range i).filter p).length → CompRestT prog w A h₀ L m env ct elt x scope cl { s₁ with heap := g } (fun _ => True) (fun i v => ∃ t, v = .int (0 + (i : Int)) t) (FinE h₀ L m { s₁ with heap := g } Q) k i ys news := by
    intro k
    induction k with
    | zero =>
      intro i ys hi hy
      obtain rfl : i = 4 := by (first | lia | omega)
      exact CompRestT.zero fun D h tk F' N' o => fin D h tk ys hy F' N' o
    | succ k ih =>
      intro i ys hi hy
      refine CompRestT.succ fun v I oI C oC D m₂ h tk E' hv hC hx F' N' off ne => ?_
      obtain ⟨t9, rfl⟩ := hv
      rw [Int.zero_add] at hx
      refine wpAny_mono (step i (by (first | lia | omega)) t9 I oI C oC D m₂ h tk E' ys hC hx F' N') (fun ok s' h₂ => ?_) fun _ _ e => e
      cases ok with
      | true =>
        simp only [if_true] at h₂ ⊢
        refine wpAny_mono h₂ (fun y s₃ h₃ => ?_) fun _ _ e => e
        obtain ⟨h', tk', rfl, F₂, N₂, c⟩ := h₃
        refine ⟨h', tk', news, rfl, F₂, N₂, off, trivial, ih (i + 1) _ (by (first | lia | omega)) ?_⟩
        rw [List.range_succ, List.filter_append, List.length_append, List.length_append, hy]
        simp [c]
      | false =>
        simp only [Bool.false_eq_true, if_false] at h₂ ⊢
        obtain ⟨h', tk', rfl, F₂, N₂, c⟩ := h₂
        refine ⟨h', tk', news, rfl, F₂, N₂, off, trivial, ih (i + 1) _ (by (first | lia | omega)) ?_⟩
        rw [List.range_succ, List.filter_append, List.length_append, hy]
        simp [c]
  exact all 4 0 [] (by (first | lia | omega)) rfl
end
section
variable {M : Model} {A : Around} {env : Env} {E : Value → Shared → Prop} {s : Shared} {Q : Flow → Shared → Prop}
/-- the first five statements by themselves -/
theorem execs_cut5 {a b c d e : Stmt} {rest : List Stmt} {Mid : Flow → Shared → Prop} (h : wpAny M A (execs [a, b, c, d, e] env) Mid E s) (hm : ∀ f s', Mid f s' → f = .next) (h2 : ∀ s', Mid .next s' → wpAny M A (execs rest env) Q E s') :
    wpAny M A (execs (a :: b :: c :: d :: e :: rest) env) Q E s := by
  have one : ∀ (Γ) (hΓ : Γ.In A) (pre : List Stmt) (s : Shared) (p), Sem.wp M Γ (execs pre env) (fun a _ s' => Mid a s') (fun e _ s' => E e s') p s → Sem.wp M Γ (execs (pre ++ rest) env) (fun a _ s' => Q a s') (fun e _ s' => E e s') p s := by
    intro Γ hΓ pre
    induction pre with
    | nil => exact fun s p h => h2 s h Γ p hΓ
    | cons st r ih =>
      intro s p this
      show Sem.wp M Γ (execs (st :: (r ++ rest)) env) _ _ p s
      rw [execs_cons, Sem.wp_bind'] at this ⊢
      refine Sem.wp_mono M Γ _ (fun f p' s' h' => ?_) (fun _ _ _ h' => h') _ _ this
      cases f with
      | next => exact ih s' p' h'
      | ret v => exact absurd (hm _ _ h') (by intro e; cases e)
      | brk => exact absurd (hm _ _ h') (by intro e; cases e)
      | cont => exact absurd (hm _ _ h') (by intro e; cases e)
  exact fun Γ p hΓ => one Γ hΓ [a, b, c, d, e] s p (h Γ p hΓ)
end
end
section
open PySem PySem.W PyProof.Rows PySem.Flt PySem.Spec PySem.Calls
noncomputable abbrev fr3 (k : Int) (tz : Tok) (c : Int) (t : Tok) (hx : Addr) (m₁ m₀ : Str → Option Value) : Str → Option Value := fun z => if z = sK then some (.int k tz) else fr2 c t hx m₁ m₀ z
theorem fr3_of {k c : Int} {tz t : Tok} {hx : Addr} {m₁ m₀ : Str → Option Value} (h : ∀ z, z ≠ sCount → z ∉ W2 → m₁ z = m₀ z) (hc : m₁ sCount = some (.int c t)) (hx' : m₀ sChosen = some (.ref hx)) (hk : m₁ sK = some (.int k tz)) : m₁ = fr3 k tz c t hx m₁ m₀ := by
  funext z
  unfold fr3
  by_cases e : z = sK
  · rw [if_pos e, e, hk]
  · rw [if_neg e, ← fr2_of h hc hx']
/-- what stands behind the first five statements of a turn of the second loop -/
inductive Mid2 (P : Params) (cT cE cP cR cW tD eD pL hx dx hL rL : Nat) (oT oE oP oR oD oF : Obj) (pv : List Value) (pn : Nat) (tkh : Tok) (its : List HI) (hn : Nat) (rv : List Value) (rn : Nat) (rest : Led9) (m₀ : Str → Option Value) (k : Int) (tz : Tok) (c : Int) (h₀ : Heap) (L : Addr) (s : Shared) (I : Nat) (oI : Obj) : Flow → Shared → Prop
  | mk (h' : Heap) (tk : Nat) (m' : Str → Option Value) (oW : Obj) (vW : Option Value) (tc : Tok) (F : Fr h₀ L h' (fr3 k tz c tc hx m' m₀))
      (N : News h₀ L h' ((I, oI) :: (cW, oW) :: (cR, oR) :: (cP, oP) :: (cE, oE) :: (cT, oT) :: (tD, oD) :: (eD, oF) :: (pL, lst pv pn) :: (hx, instObj 210 dx) :: (dx, hdD P tkh hL) :: (hL, lst (its.map HI.val) hn) :: (rL, lst rv rn) :: rest)) (dW : oW.data = .cell vW) :
      Mid2 P cT cE cP cR cW tD eD pL hx dx hL rL oT oE oP oR oD oF pv pn tkh its hn rv rn rest m₀ k tz c h₀ L s I oI .next { s with heap := h', toks := tk }
section
variable {M : Model} {A : Around} {env : Env} {E : Value → Shared → Prop} {s : Shared} {Q : Flow → Shared → Prop} {P : Params} {cT cE cP cR cW tD eD pL hx dx hL rL : Nat} {oT oE oP oR oW oD oF : Obj} {pv : List Value} {pn : Nat} {tkh : Tok} {its : List HI} {hn : Nat} {rv : List Value} {rn : Nat} {rest : Led9} {m₀ : Str → Option Value} {c k : Int} {tz : Tok} {h₀ : Heap} {L : Addr} {I : Nat} {oI : Obj}
theorem cut2 {ns : List Int} {st1 st2 st3 st4 st5 : Stmt} {rs : List Stmt} {y : Nat → Int} {n : Nat} {tz : Tok} {mf : Str → Option Value} (_F : Fr h₀ L s.heap mf) (_hk : mf sK = some (.int (kk n) tz))
    (h : ∀ Qm : Flow → Shared → Prop, (∀ f s', Mid2 P cT cE cP cR cW tD eD pL hx dx hL rL oT oE oP oR oD oF pv pn tkh its hn rv rn rest m₀ (kk n) tz (cnt y (n + 1)) h₀ L s I oI f s' → Qm f s') → wpAny M A (execs [st1, st2, st3, st4, st5] env) Qm E s)
    (_N : News h₀ L s.heap ((I, oI) :: (cW, oW) :: (cR, oR) :: (cP, oP) :: (cE, oE) :: (cT, oT) :: (tD, oD) :: (eD, oF) :: (pL, lst pv pn) :: (hx, instObj 210 dx) :: (dx, hdD P tkh hL) :: (hL, lst (its.map HI.val) hn) :: (rL, lst rv rn) :: rest))
    (_R : Row2 y n rv ns) {kT kE : List (Str × Value)} {Z : Nat} {zs : List Value} {zn : Nat} {s9 : Shared} (_hq : ∀ f s₃, E2 P cT cE cP cR cW tD eD pL hx dx hL rL oT oE oP oR oD oF pv pn tkh y kT kE Z zs zn m₀ h₀ L s9 I oI n f s₃ → Q f s₃)
    (h2 : ∀ (h' : Heap) (tk : Nat) (m' : Str → Option Value) (oW : Obj) (vW : Option Value) (tc : Tok), oW.data = .cell vW → Fr h₀ L h' (fr3 (kk n) tz (cnt y (n + 1)) tc hx m' m₀) →
      News h₀ L h' ((I, oI) :: (cW, oW) :: (cR, oR) :: (cP, oP) :: (cE, oE) :: (cT, oT) :: (tD, oD) :: (eD, oF) :: (pL, lst pv pn) :: (hx, instObj 210 dx) :: (dx, hdD P tkh hL) :: (hL, lst (its.map HI.val) hn) :: (rL, lst rv rn) :: rest) →
      wpAny M A (execs rs env) Q E { s with heap := h', toks := tk }) :
    wpAny M A (execs (st1 :: st2 :: st3 :: st4 :: st5 :: rs) env) Q E s := by
  refine execs_cut5 (h _ fun _ _ x => x) (fun f s' x => by cases x; rfl) fun s' x => ?_
  cases x with
  | mk h' tk m' oW vW tc F N dW => exact h2 h' tk m' oW vW tc dW F N
theorem mid_end {Qm : Flow → Shared → Prop} {h' : Heap} {tk : Nat} {m' : Str → Option Value} {vW : Option Value} {tc : Tok} {all : Led9} (hq : ∀ f s', Mid2 P cT cE cP cR cW tD eD pL hx dx hL rL oT oE oP oR oD oF pv pn tkh its hn rv rn rest m₀ k tz c h₀ L s I oI f s' → Qm f s')
    (F : Fr h₀ L h' m') (N : News h₀ L h' all) (hs : ∀ p ∈ (I, oI) :: (cW, oW) :: (cR, oR) :: (cP, oP) :: (cE, oE) :: (cT, oT) :: (tD, oD) :: (eD, oF) :: (pL, lst pv pn) :: (hx, instObj 210 dx) :: (dx, hdD P tkh hL) :: (hL, lst (its.map HI.val) hn) :: (rL, lst rv rn) :: rest, p ∈ all)
    (dW : oW.data = .cell vW) (hm : ∀ z, z ≠ sCount → z ∉ W2 → m' z = m₀ z) (hc : m' sCount = some (.int c tc)) (hx' : m₀ sChosen = some (.ref hx)) (hk : m' sK = some (.int k tz)) {s₃ : Shared} (e : s₃ = { s with heap := h', toks := tk }) : Qm .next s₃ :=
  e ▸ hq _ _ (.mk h' tk m' oW vW tc (fr3_of hm hc hx' hk ▸ F) (fun p hp => N p (hs p hp)) dW)
theorem cnt_t {y : Nat → Int} {n : Nat} {t : Tok} (h : sdB (ths y n) = true) : some (Value.int ((cnt y n : Int) + 1) t) = some (.int (cnt y (n + 1)) t) := by
  have : cnt y (n + 1) = cnt y n + 1 := by rw [cnt, h]; rfl
  rw [this]; rfl
theorem cnt_f {y : Nat → Int} {n : Nat} {t : Tok} (h : sdB (ths y n) = false) : some (Value.int (cnt y n : Int) t) = some (.int (cnt y (n + 1)) t) := by
  have : cnt y (n + 1) = cnt y n := by rw [cnt, h]; rfl
  rw [this]
end
theorem ints_of {vs ys : List Value} {ns : List Int} {d : Int} (hi : IntsAre vs ns) (hl : ys.length = vs.length) (h : ∀ i y, ys[i]? = some y → ∃ t, y = Value.int (ns.getD i 0 + d) t) : IntsAre ys (ns.map (· + d)) := by
  induction hi generalizing ys with
  | nil =>
    obtain rfl : ys = [] := List.length_eq_zero_iff.mp hl
    exact .nil
  | @cons n t vs ns hi ih =>
    cases ys with
    | nil => cases hl
    | cons y ys =>
      obtain ⟨t', rfl⟩ := h 0 y (by simp)
      exact .cons _ _ (ih (by simpa using hl) fun i y' hy => by have := h (i + 1) y' (by simpa using hy); simpa using this)
section
open LCg LCt
variable {prog : Program} {w : World} {A : Around} {h₀ : Heap} {L : Addr} {m : Str → Option Value} {env : Env} {Q : Value → Shared → Prop} {E : Value → Shared → Prop} {s : Shared}
theorem comp_plus {elt : Expr} {x : Str} {scope : Scope} {cl : List (Str × Addr)} {ax : Addr} {vs : List Value} {ns : List Int} {n : Nat} {news : Led9} {s₁ : Shared}
    (hh : A.handled = none) (F : Fr h₀ L s₁.heap m) (N : News h₀ L s₁.heap news) (hm : (ax, Mine.lst vs n) ∈ news) (hi : IntsAre vs ns) (hsz : vs.length < 2 ^ 20)
    (hsz2 : vs.length ≤ 1000)
    (step : ∀ a t I oI C oC D m₂ h tk (E' : Value → Shared → Prop) ys, NsObj oC m₂ → m₂ x = some (.int a t) → Fr h₀ L h m → News h₀ L h ((I, oI) :: (C, oC) :: (D, LCg.lst ys) :: news) →
      wpAny (model prog w) A (eval elt (compEnvC scope cl C env)) (VEnd h₀ L m { s₁ with heap := h, toks := tk } ((I, oI) :: (C, oC) :: (D, LCg.lst ys) :: news) (fun y => ∃ t', y = .int (a + 64) t')) E' { s₁ with heap := h, toks := tk })
    (fin : ∀ D h' tk ys, IntsAre ys (ns.map (· + 64)) → Fr h₀ L h' m → News h₀ L h' ((D, LCg.lst ys) :: news) → Q (.ref D) { s₁ with heap := h', toks := tk }) :
    CompSrc prog w A h₀ L m env elt x scope cl (fun s₂ => FinE h₀ L m s₂ Q) (.ref ax) s₁ := by
  refine comp_map (fun i y => ∃ t, y = .int (ns.getD i 0 + 64) t) hh F N hm hsz2 (fun i v I oI C oC D m₂ h tk E' ys hv hC hx F' N' => ?_) fun D h' tk ys hl hR F' N' _ => fin D h' tk ys (ints_of hi hl hR) F' N'
  obtain ⟨t, rfl⟩ := hi.int_at i v hv
  exact step _ t I oI C oC D m₂ h tk E' ys hC hx F' N'
theorem wheel_cat {a D : Addr} {vs ys : List Value} {n : Nat} {ns ms : List Int} {news : Led9} (F : Fr h₀ L s.heap m) (N : News h₀ L s.heap ((D, LCg.lst ys) :: news)) (ha : (a, Mine.lst vs n) ∈ news) (h1 : IntsAre vs ns) (h2 : IntsAre ys ms) (hs : ns.length + ms.length ≤ 1000)
    (h : ∀ Z h' ws, IntsAre ws (ns ++ ms) → Fr h₀ L h' m → News h₀ L h' ((Z, Mine.lst ws 0) :: news) → (∀ p ∈ news, p.1 < Z) → Q (.ref Z) { s with heap := h' }) :
    wpAny (model prog w) A (binaryOp .Add (.ref a) (.ref D)) Q E s := by
  refine add_arrays_ints (hsz := by rw [sizeLine_eq]; (first | lia | omega)) F N ⟨_, (N _ (.tail _ ha)).1, rfl, n, rfl⟩ ⟨_, (N _ (.head _)).1, rfl, _, rfl⟩ (by simpa using h1) (by simpa using h2) fun h' F' N' hI => ?_
  refine h _ h' _ hI F' (fun p hp => ?_) fun p hp => Heap.lt_size (N p (.tail _ hp)).1
  rcases List.mem_cons.mp hp with rfl | hp
  · exact N' _ (.head _)
  · exact N' _ (.tail _ (.tail _ hp))
end
theorem row2_sz {y : Nat → Int} {n : Nat} {rv : List Value} {ns : List Int} (R : Row2 y n rv ns) : rv.length = 4 ∧ ns.length = 4 := by
  have := R.isI.length
  have h2 := R.perm.length_eq
  simp [ths] at h2
  (first | lia | omega)
theorem row2_a {y : Nat → Int} {n : Nat} {rv : List Value} {ns : List Int} (R : Row2 y n rv ns) : rv.length < 2 ^ 20 ∧ rv.length ≤ 1000 := by have := row2_sz R; omega
theorem row2_b {y : Nat → Int} {n : Nat} {rv : List Value} {ns : List Int} (R : Row2 y n rv ns) : ns.length + (ns.map (· + 64)).length ≤ 1000 := by have := row2_sz R; rw [List.length_map]; (first | lia | omega)
end
section
open PySem PySem.W PyProof.Rows PySem.Flt PySem.Spec PySem.Calls PySem.SeqAt
/-- from the i-th on, all are less than half a turn ahead -/
noncomputable abbrev PS (ns : List Int) (i : Nat) : Prop := (ns ++ ns.map (· + 64)).getD (i + 3) 0 < ns.getD i 0 + 32
theorem four_list {α : Type} {l : List α} (h : l.length = 4) : ∃ a b c d, l = [a, b, c, d] := by
  match l, h with
  | [a, b, c, d], _ => exact ⟨a, b, c, d, rfl⟩
theorem ps_sided {ns : List Int} (hl : ns.length = 4) (hs : Sorted ns) (hb : ∀ x ∈ ns, 0 ≤ x ∧ x < 64) : (∃ i, i < 4 ∧ PS ns i) ↔ SidedL ns := by
  obtain ⟨a, b, c, d, rfl⟩ := four_list hl
  have s1 : a ≤ b := hs 0 1 (by decide) (by show 1 < 4; decide)
  have s2 : b ≤ c := hs 1 2 (by decide) (by show 2 < 4; decide)
  have s3 : c ≤ d := hs 2 3 (by decide) (by show 3 < 4; decide)
  have ha := hb a (by simp)
  have hd := hb d (by simp)
  rw [← sorted_iff ha.1 s1 s2 s3 hd.2]
  unfold PS
  constructor
  · rintro ⟨i, hi, h⟩
    rcases cs4 hi with rfl | rfl | rfl | rfl
    · exact .inl h
    · exact .inr (.inl h)
    · exact .inr (.inr (.inl h))
    · exact .inr (.inr (.inr h))
  · rintro (h | h | h | h)
    · exact ⟨0, by decide, h⟩
    · exact ⟨1, by decide, h⟩
    · exact ⟨2, by decide, h⟩
    · exact ⟨3, by decide, h⟩
theorem ths_b {y : Nat → Int} {n : Nat} : ∀ x ∈ ths y n, 0 ≤ x ∧ x < 64 := fun x hx => by
  obtain ⟨j, _, rfl⟩ := List.mem_map.mp hx
  exact plc_b _ _
theorem row2_bd {y : Nat → Int} {n : Nat} {rv : List Value} {ns : List Int} (R : Row2 y n rv ns) : ∀ x ∈ ns, 0 ≤ x ∧ x < 64 := fun x hx => ths_b x (R.perm.mem_iff.mp hx)
theorem row2_sided {y : Nat → Int} {n : Nat} {rv : List Value} {ns : List Int} (R : Row2 y n rv ns) : (∃ i, i < 4 ∧ PS ns i) ↔ sdB (ths y n) = true :=
  (ps_sided (row2_sz R).2 R.sorted (row2_bd R)).trans ((SidedL.perm R.perm).trans sdB_iff.symm)
theorem wheel_sorted {ns : List Int} (hl : ns.length = 4) (hs : Sorted ns) (hb : ∀ x ∈ ns, 0 ≤ x ∧ x < 64) : Sorted (ns ++ ns.map (· + 64)) := by
  intro i j hij hj
  rw [List.length_append, List.length_map] at hj
  have one : ∀ k, k < 8 → (ns ++ ns.map (· + 64)).getD k 0 = if k < 4 then ns.getD k 0 else ns.getD (k - 4) 0 + 64 := fun k hk => by
    obtain ⟨a, b, c, d, rfl⟩ := four_list hl
    rcases cs8 hk with rfl | rfl | rfl | rfl | rfl | rfl | rfl | rfl
    · rfl
    · rfl
    · rfl
    · rfl
    · rfl
    · rfl
    · rfl
    · rfl
  have bd : ∀ k, k < 4 → 0 ≤ ns.getD k 0 ∧ ns.getD k 0 < 64 := fun k hk => hb _ (by rw [List.getD_eq_getElem?_getD, List.getElem?_eq_getElem (by (first | lia | omega))]; exact List.getElem_mem _)
  rw [one i (by (first | lia | omega)), one j (by (first | lia | omega))]
  by_cases h1 : i < 4
  · rw [if_pos h1]
    have := bd i h1
    by_cases h2 : j < 4
    · rw [if_pos h2]; exact hs i j hij (by (first | lia | omega))
    · rw [if_neg h2]; have := bd (j - 4) (by (first | lia | omega)); (first | lia | omega)
  · rw [if_neg h1, if_neg (by (first | lia | omega))]
    have := hs (i - 4) (j - 4) (by (first | lia | omega)) (by (first | lia | omega))
    (first | lia | omega)
theorem ps_at {ns : List Int} (hl : ns.length = 4) (hb : ∀ x ∈ ns, 0 ≤ x ∧ x < 64) {i : Nat} (hi : i < 4) {k : Int} (hg : Goes (ns ++ ns.map (· + 64)) (ns.getD i 0 + 32) i k) : k = (i : Int) + 4 ↔ PS ns i := by
  obtain ⟨g1, g2, g3, g4⟩ := hg
  rw [List.length_append, List.length_map, hl] at g2
  have w4 : (ns ++ ns.map (· + 64)).getD (i + 4) 0 = ns.getD i 0 + 64 := by
    obtain ⟨a, b, c, d, rfl⟩ := four_list hl
    rcases cs4 hi with rfl | rfl | rfl | rfl
    · rfl
    · rfl
    · rfl
    · rfl
  unfold PS
  have a1 := g3 (i + 3) (by (first | lia | omega))
  have a2 := g4 (i + 3)
  rw [List.length_append, List.length_map, hl] at a2
  have b1 := g3 (i + 4) (by (first | lia | omega))
  constructor
  · intro e
    exact a1 (by (first | lia | omega))
  · intro h
    have := a2
    rw [w4] at b1
    (first | lia | omega)
theorem ps_yes {y : Nat → Int} {n : Nat} {rv : List Value} {ns : List Int} (R : Row2 y n rv ns) {i : Nat} (hi : i < 4) {k : Int} (hg : Goes (ns ++ ns.map (· + 64)) (ns.getD i 0 + 32) i k) (h : k = (i : Int) + 4) : PS ns i := (ps_at (row2_sz R).2 (row2_bd R) hi hg).mp h
theorem ps_no {y : Nat → Int} {n : Nat} {rv : List Value} {ns : List Int} (R : Row2 y n rv ns) {i : Nat} (hi : i < 4) {k : Int} (hg : Goes (ns ++ ns.map (· + 64)) (ns.getD i 0 + 32) i k) (h : ¬ k = (i : Int) + 4) : ¬ PS ns i := fun q => h ((ps_at (row2_sz R).2 (row2_bd R) hi hg).mpr q)
section
open LCg LCt
variable {prog : Program} {w : World} {A : Around} {h₀ : Heap} {L : Addr} {m : Str → Option Value} {env : Env} {Q : Value → Shared → Prop} {E : Value → Shared → Prop} {s : Shared}
theorem comp_sided {ct elt : Expr} {x : Str} {scope : Scope} {cl : List (Str × Addr)} {r : Addr} {t u v : Tok} {news : Led9} {s₁ : Shared} {y : Nat → Int} {n : Nat} {rv : List Value} {ns : List Int} (R : Row2 y n rv ns)
    (hh : A.handled = none) (F : Fr h₀ L s₁.heap m) (N : News h₀ L s₁.heap news) (hr : IsRange s₁.heap r 0 4 1 t u v)
    (step : ∀ i : Nat, i < 4 → ∀ t I oI C oC D m₂ h tk (E' : Value → Shared → Prop) ys, NsObj oC m₂ → m₂ x = some (.int (i : Int) t) → Fr h₀ L h m → News h₀ L h ((I, oI) :: (C, oC) :: (D, LCg.lst ys) :: news) →
      wpAny (model prog w) A (isTrue ct (compEnvC scope cl C env) (eval ct (compEnvC scope cl C env))) (fun ok s' => if ok = true then
        wpAny (model prog w) A (eval elt (compEnvC scope cl C env)) (VEnd h₀ L m { s₁ with heap := h, toks := tk } ((I, oI) :: (C, oC) :: (D, LCg.lst ys) :: news) (fun _ => PS ns i)) E' s'
        else VEnd h₀ L m { s₁ with heap := h, toks := tk } ((I, oI) :: (C, oC) :: (D, LCg.lst ys) :: news) (fun _ => ¬ PS ns i) .none s') E' { s₁ with heap := h, toks := tk })
    (fin : ∀ b D h' tk ys, sdB (ths y n) = b → (ys = [] ↔ b = false) → ys.length ≤ 4 → Fr h₀ L h' m → News h₀ L h' ((D, LCg.lst ys) :: news) → Q (.ref D) { s₁ with heap := h', toks := tk }) :
    CompSrcT prog w A h₀ L m env ct elt x scope cl (fun s₂ => FinE h₀ L m s₂ Q) (.ref r) s₁ := by
  refine comp_filt (fun i => decide (PS ns i)) hh F N hr (fun i hi t I oI C oC D m₂ h tk E' ys hC hx F' N' => wpAny_mono (step i hi t I oI C oC D m₂ h tk E' ys hC hx F' N') (fun ok s' q => ?_) fun _ _ e => e) fun D h' tk ys hy F' N' _ => fin _ D h' tk ys rfl ?_ ?_ F' N'
  · cases ok with
    | true =>
      simp only [if_true] at q ⊢
      exact wpAny_mono q (fun _ _ x => x.mono fun _ z => decide_eq_true z) fun _ _ e => e
    | false =>
      simp only [Bool.false_eq_true, if_false] at q ⊢
      exact q.mono fun _ z => decide_eq_false z
  · rw [← List.length_eq_zero_iff, hy, List.length_eq_zero_iff, List.filter_eq_nil_iff, ← Bool.not_eq_true, ← row2_sided R]
    simp only [List.mem_range, decide_eq_true_eq]
    exact ⟨fun h ⟨i, hi, p⟩ => h i hi p, fun h i hi p => h ⟨i, hi, p⟩⟩
  · rw [hy]; exact Nat.le_trans (List.length_filter_le _ _) (by simp)
theorem ne_nil {D Z : Addr} {ys : List Value} {n k : Nat} {b : Bool} {news : Led9} (N : News h₀ L s.heap news) (hD : (D, Mine.lst ys n) ∈ news) (hZ : (Z, Mine.lst [] k) ∈ news) (hy : ys = [] ↔ b = false) (hu : A.units < cLine) (h : Q (.bool b) s) :
    wpAny (model prog w) A (compareOp .NotEq (.ref D) (.ref Z)) Q E s := by
  have l1 : s.heap.IsList D ys.toArray := ⟨_, (N _ hD).1, rfl, n, rfl⟩
  have l2 : s.heap.IsList Z ([] : List Value).toArray := ⟨_, (N _ hZ).1, rfl, k, rfl⟩
  cases b with
  | false =>
    obtain rfl := hy.mpr rfl
    exact RcNeAt.lists (e := fun _ => true) l1 l2 rfl hu (fun j h1 _ => absurd h1 (by simp)) prog w E Q h
  | true =>
    have hne : ys ≠ [] := fun e => by have := hy.mp e; cases this
    refine RcNeAt.lists_lengths l1 l2 ?_ hu prog w E Q h
    cases ys with
    | nil => exact absurd rfl hne
    | cons a r => rfl
theorem eq_nil {D Z : Addr} {ys : List Value} {n k : Nat} {b : Bool} {news : Led9} (N : News h₀ L s.heap news) (hD : (D, Mine.lst ys n) ∈ news) (hZ : (Z, Mine.lst [] k) ∈ news) (hy : ys = [] ↔ b = true) (hu : A.units < cLine) (h : Q (.bool b) s) :
    wpAny (model prog w) A (compareOp .Eq (.ref D) (.ref Z)) Q E s := by
  have l1 : s.heap.IsList D ys.toArray := ⟨_, (N _ hD).1, rfl, n, rfl⟩
  have l2 : s.heap.IsList Z ([] : List Value).toArray := ⟨_, (N _ hZ).1, rfl, k, rfl⟩
  cases b with
  | true =>
    obtain rfl := hy.mpr rfl
    exact RcAt.lists (e := fun _ => true) l1 l2 rfl hu (fun j h1 _ => absurd h1 (by simp)) prog w E Q h
  | false =>
    have hne : ys ≠ [] := fun e => by have := hy.mp e; cases this
    refine RcAt.lists_lengths l1 l2 ?_ hu prog w E Q h
    cases ys with
    | nil => exact absurd rfl hne
    | cons a r => rfl
theorem row_item {value slice : PySem.Expr} {l : Addr} {vs : List Value} {ns : List Int} {n i : Nat} {u : Tok} {news : Led9} (N : News h₀ L s.heap news) (hm : (l, Mine.lst vs n) ∈ news) (hi : IntsAre vs ns)
    (h0 : i < 4) (hl : vs.length = 4 ∧ ns.length = 4) (h : ∀ t, Q (.int (ns.getD i 0) t) s)
    (hs : subscripted slice false (.ref l) (.int (i : Int) u) = operate [.ref l, .int (i : Int) u] (getItem (.ref l) (.int (i : Int) u))) :
    wpAny (model prog w) A (subscriptTail value slice (.ref l) (.int (i : Int) u)) Q E s :=
  my_item N hm hi (by (first | lia | omega)) (by (first | lia | omega)) (by (first | lia | omega)) (fun t => by have := h t; rwa [Int.toNat_natCast]) hs
end
section
variable {prog : Program} {w : World} {p : Program} {loose : List Str} {mean : ExcName → Option Value} {mg mb : Str → Option Value}
theorem use_bis3 {news : Led9} {la : Addr} {ws : List Value} {ns : List Int} {k : Nat} {x : Int} {t1 t2 : Tok} {i : Nat} {y : Nat → Int} {n : Nat} {rv : List Value} (hm : (la, lst ws k) ∈ news) (hW : IntsAre ws (ns ++ ns.map (· + 64))) (R : Row2 y n rv ns) (hi : i < 4)
  {dp un : Nat} {gd : Option (List Code)} {cn : Str} {cs : Scope} {a : Addr} {ccd : Value} {cl : List (Str × Addr)} {outer : List Env} {A₀ : Around} {base h₀ : Heap} {L : Addr} {m : Str → Option Value} {s : Shared} {Q E : Value → Shared → Prop}
  (B : Below A₀ base outer h₀) (F : Fr h₀ L s.heap m) (X : (hd.heap_39 w.params).In h₀) (N : News h₀ L s.heap news) (T : Top p loose mean mg mb h₀) (hk : cs.kind = .function) (hd9 : dp + 3 < recursionLimit) (hu : un + 8 * 3 < cLine)
  (ret : ∀ k t h' tk', Goes (ns ++ ns.map (· + 64)) x i k → Fr h₀ L h' m → News h₀ L h' news → Q (.int k t) { s with heap := h', toks := tk' }) :
  wpAny (model prog w) (ktrTop dp un gd cn cs L a ccd cl outer) (call (.ref 77) [.ref la, .int x t1, .int (i : Int) t2]) Q E s := by
  have hl := row2_sz R
  have hlen : (ns ++ ns.map (· + 64)).length = 8 := by rw [List.length_append, List.length_map, hl.2]
  refine c_bisect3 news la ws _ k x t1 hm hW (by rw [hW.length, hlen]; decide) (wheel_sorted hl.2 R.sorted (row2_bd R)) (i : Int) t2 (by rw [hlen]; (first | lia | omega)) dp un gd cn cs a ccd cl outer A₀ base h₀ L m s Q E B F X N T hk hd9 hu ?_
  rintro r own h' tk' ⟨rfl, k', t', rfl, hg⟩ F' N' _
  exact ret k' t' h' tk' hg F' N'
end
end
section
open PySem PySem.W PyProof.Rows PySem.Flt PySem.Spec PySem.Calls
theorem fillK1 (w : World) (h : Heap) : PySem.Challenge.rw_pm0065_01.Holds → (hd.heap_39 w.params).In h → True := by
  k_fill
  intros; trivial
section
variable {prog : Program} {w : World} {A : Around} {E : Value → Shared → Prop} {s : Shared} {h₀ : Heap} {L : Addr} {m : Str → Option Value} {env : Env}
noncomputable def atI (its : List HI) (j : Nat) : HI := (its[j]?).getD ⟨0, Str.ofString "", 0, Str.ofString "", 0, Str.ofString ""⟩
theorem atI_of {its : List HI} {j : Nat} (h : j < its.length) : atI its j = its[j] := by unfold atI; rw [List.getElem?_eq_getElem h]; rfl
theorem map_range {α : Type} (f : HI → α) (its : List HI) : its.map f = (List.range its.length).map fun j => f (atI its j) := by
  refine List.ext_getElem (by simp) fun i h1 h2 => ?_
  rw [List.length_map] at h1
  simp [atI_of h1]
theorem keys_iter {ax : Addr} {its : List HI} {k : Nat} {news : Led9} {elt : Expr} {x₁ x₂ : Str × Pos} {scope : Scope} {cl : List (Str × Addr)} {Q : Value → Shared → Prop}
    (hm : (ax, lst (its.map HI.val) k) ∈ news) (hit : ∀ i ∈ its, i.ent ∈ news) (hsz : its.length ≤ 1000) (hh : A.handled = none) (F : Fr h₀ L s.heap m) (N : News h₀ L s.heap news)
    (step : ∀ nm t1 tx t2 all C oC m₂ h tk (E' : Value → Shared → Prop), LCg.NsObj oC m₂ → m₂ x₁.1 = some (.str nm t1) → m₂ x₂.1 = some (.str tx t2) → Fr h₀ L h m → News h₀ L h ((C, oC) :: all) →
      wpAny (model prog w) A (eval elt (compEnvC scope cl C env)) (TEnd h₀ L m { s with heap := h, toks := tk } ((C, oC) :: all) (fun y own => own = [] ∧ y = .str nm t1)) E' { s with heap := h, toks := tk })
    (fin : ∀ D h tk, Fr h₀ L h m → News h₀ L h ((D, LCg.lst (its.map fun it => .str it.nm it.t1)) :: news) → (∀ p ∈ news, p.1 < D) → Q (.ref D) { s with heap := h, toks := tk }) :
    wpAny (model prog w) A (pyIter (.ref ax)) (fun it s₂ => SrcN prog w A h₀ L m env elt [x₁, x₂] scope cl Q it s₂) E s := by
  rw [map_range HI.val] at hm
  have hl : s.heap.IsList ax ((List.range its.length).map fun j => Value.ref (atI its j).a).toArray := ⟨_, (N _ hm).1, rfl, k, rfl⟩
  have lt : ∀ p ∈ news, p.1 < s.heap.objs.size := fun p hp => Heap.lt_size (N p hp).1
  have hts : ∀ j, j < its.length → ((atI its j).a, tup [.str (atI its j).nm (atI its j).t1, .str (atI its j).tx (atI its j).t2]) ∈ news := fun j hj => by
    rw [atI_of hj]; exact hit _ (List.getElem_mem hj)
  refine wpAny_pyIter_list hl ?_
  refine ⟨_, _, _, its.length, fun j => [.str (atI its j).nm (atI its j).t1, .str (atI its j).tx (atI its j).t2], LSt s.heap.objs.size ax (fun j => (atI its j).a) _ its.length,
    fun i ys nw => nw = news ∧ ys = (List.range i).map fun j => .str (atI its j).nm (atI its j).t1, news, rfl, hh, list_src hh (Nat.ne_of_lt (lt _ hm)) (fun j hj => Nat.ne_of_lt (lt _ (hts j hj))), hsz, fun _ _ => rfl,
    ⟨⟨_, Heap.get?_push_size _ rfl, rfl, rfl⟩, hl.push _, fun j hj => IsTup.push ⟨_, (N _ (hts j hj)).1, rfl, _, rfl⟩ _⟩, ?_, F.push _,
    (fun p hp => ⟨Heap.get?_push_of_some _ (N p hp).1, (N p hp).2⟩), (fun p hp h => absurd (lt p hp) (by rw [List.mem_singleton.mp h]; exact Nat.lt_irrefl _)), ⟨rfl, rfl⟩, ?_, ?_⟩
  · intro b hb
    simp only [List.mem_append, List.mem_cons, List.not_mem_nil, or_false, List.mem_map, List.mem_range] at hb
    rcases hb with (rfl | rfl) | ⟨j, hj, rfl⟩
    · exact ⟨Nat.ne_of_gt F.ns.lt, next_is_new F⟩
    · exact (N _ hm).2
    · exact (N _ (hts j hj)).2
  · rintro i ys nw rest C oC m₂ h tk E' hi ⟨rfl, rfl⟩ hC hv F' N'
    refine wpAny_mono (step _ _ _ _ _ C oC m₂ h tk E' hC (hv 0 _ _ rfl rfl) (hv 1 _ _ rfl rfl) F' N') (fun y s₄ h₄ => ?_) fun _ _ e => e
    obtain ⟨h', tk', own, rfl, F₂, N₂, l, rfl, rfl⟩ := h₄
    exact ⟨h', tk', [], rfl, F₂, N₂, l, rfl, by rw [List.range_succ, List.map_append]; rfl⟩
  · rintro D h tk ys nw F' N' _ lD ⟨rfl, rfl⟩
    rw [← map_range (fun it => Value.str it.nm it.t1)] at N'
    exact fin D h tk F' N' lD
end
local macro_rules | `(tactic| k_mem) => `(tactic| first | assumption | exact List.mem_cons_of_mem _ (by assumption))
set_option maxHeartbeats 1000000 in
theorem c_keys {prog : Program} {w : World} {p : Program} {loose : List Str} {mean : ExcName → Option Value} {mg mb : Str → Option Value} (news : Led9) (hx dx H : Addr) (tk : Tok) (its : List HI) (n : Nat)
  (hI : (hx, instObj 210 dx) ∈ news) (hD : (dx, hdD w.params tk H) ∈ news) (hm : (H, lst (its.map HI.val) n) ∈ news) (hit : ∀ i ∈ its, i.ent ∈ news) (hsz : its.length ≤ 1000) :
  PureC prog w (hd.heap_39 w.params) p loose mean mg mb 6 162 news [.ref hx] (fun res own => ∃ D, res = .ref D ∧ own = [(D, LCg.lst (its.map fun it => .str it.nm it.t1))]) := by
  unfold PureC
  intro dp un gd cn cs a ccd cl outer A₀ base h₀ L m s Q E B F X N T hk hd9 hu hret
  refine wpAny_call ?_
  k_dflt (first | (refine' code_def ?ce_k1 ?ce_k2 ?ce_k3 ?ce_k4 ?ce_k5 ?ce_kA ?ce_kF ?ce_kK ?ce_k6 ?ce_k7 ?ce_k8 ?ce_k9 ?ce_kB ?_ ?ce_c2 ?ce_c3 ?ce_c4 ?ce_c5; (case ce_kA => exact rfl); (case ce_kF => exact rfl); (case ce_kK => assumption); (case ce_k1 => k_asm); (case ce_k2 => k_asm); (case ce_k3 => k_asm); (case ce_k4 => k_asm); (case ce_k5 => k_asm); (case ce_k6 => k_is); (case ce_k7 => k_is); (case ce_k8 => ktr_room); (case ce_k9 => first | exact BindsTo.of_eq rfl | exact binds_K (by k_in) rfl (by k_is) rfl rfl rfl | (refine' kp_binds ?ce_kx ?ce_ke; (case ce_kx => k_in); (case ce_ke => exact fun _ => rfl))); (case ce_c5 => decide); (case ce_kB => exact locs rfl); (case ce_c2 => exact rfl); (case ce_c3 => exact rfl); (case ce_c4 => exact rfl); k_whole; intro g' L' h' FG' F' N' B' X' T'; (try dsimp only); (try k_fold)) | (refine' code_defC ?ce_k1 ?ce_k2 ?ce_k3 ?ce_k4 ?ce_k5 ?ce_kA ?ce_kF ?ce_kK ?ce_k6 ?ce_k7 ?ce_k8 ?ce_k9 ?ce_kB ?ce_kD ?_ ?ce_c2 ?ce_c3 ?ce_c4; (case ce_kA => exact rfl); (case ce_kF => exact rfl); (case ce_kK => assumption); (case ce_k1 => k_asm); (case ce_k2 => k_asm); (case ce_k3 => k_asm); (case ce_k4 => k_asm); (case ce_k5 => k_asm); (case ce_k6 => k_is); (case ce_k7 => k_is); (case ce_k8 => ktr_room); (case ce_k9 => first | exact BindsTo.of_eq rfl | exact binds_K (by k_in) rfl (by k_is) rfl rfl rfl | (refine' kp_binds ?ce_kx ?ce_ke; (case ce_kx => k_in); (case ce_ke => exact fun _ => rfl))); (case ce_kB => exact rfl); (case ce_kD => decide +kernel); (case ce_c2 => exact rfl); (case ce_c3 => exact rfl); (case ce_c4 => exact rfl); k_whole; intro g' L' h' tk' cells' FG' F' N' Y' B' X' T' l1; (try k_lt l1); k_cells Y'; (try simp only [List.cons_append, List.nil_append] at N'); (try dsimp only); (try k_fold)))
  (repeat' (first
    | (k_unfold; (try dsimp only))
    | (k_end; wrow_close)
    | (k_here; (with_reducible show wpAny _ _ (pyIter (Value.ref _)) _ _ _); (with_reducible show wpAny _ _ (pyIter (Value.ref _)) (fun it s₂ => SrcN _ _ _ _ _ _ _ _ [_, _] _ _ _ it s₂) _ _); (with_unfolding_all refine' keys_iter (by with_reducible assumption) (by with_reducible assumption) (by with_reducible assumption) (by exact rfl) (by k_asm) (by k_asm) ?_ ?_))
    | (k_here; (with_reducible show wpAny _ _ (eval (PySem.Expr.ListComp _ _ _ _) _) _ _ _); (with_reducible show wpAny _ _ (eval (Expr.ListComp _ [⟨Expr.Tuple [_, _] _ _, _, _, _⟩] _ _) _) _ _ _); with_unfolding_all (refine' tcomp [(_, _), (_, _)] (by k_dflt (k_asm)) (by with_unfolding_all rfl) (by k_dflt (decide)) (by k_dflt (rfl)) (by k_dflt (decide)) (by k_dflt (decide)) (by k_dflt (decide)) ?_))
    | walk1
    | (dsimp only; walk1)
    | (leave1; (try dsimp only))))
  all_goals first
    | (refine' tend0 ?F ?N ?k; (case F => k_asm); (case N => k_asm); (case k => exact ⟨rfl, rfl⟩))
    | (refine' c_end hret ?F ?N ?l ?o; (case F => k_asm); (case N => k_asm); (case l => assumption); (case o => exact ⟨_, rfl, rfl⟩))
end
section
open PySem PySem.W PyProof.Rows PySem.Flt PySem.Spec PySem.Calls PySem.SeqAt
noncomputable def gx (n p : Nat) : Nat × Bool := (gs n).getD p (0, false)
theorem gs_all : ∀ n : Fin 17, (gs n.1).length = 4 ∧ ((gs n.1).map (·.1)).Perm (List.range 4) ∧ ∀ p : Fin 4, (gx n.1 p.1).1 < 4 ∧ (gx n.1 p.1).2 = chs n.1 (gx n.1 p.1).1 := by decide +kernel
theorem gs_len {n : Nat} (h : n < 17) : (gs n).length = 4 := (gs_all ⟨n, h⟩).1
theorem gx_lt {n p : Nat} (h : n < 17) (hp : p < 4) : (gx n p).1 < 4 := ((gs_all ⟨n, h⟩).2.2 ⟨p, hp⟩).1
theorem gs_map {α : Type} {n : Nat} (h : n < 17) (f : Nat × Bool → α) : (gs n).map f = (List.range 4).map fun p => f (gx n p) := by
  have hl := gs_len h
  refine List.ext_getElem (by simp [hl]) fun i h1 h2 => ?_
  rw [List.length_map, hl] at h1
  simp [gx, List.getD_eq_getElem?_getD, hl, h1]
theorem th_perm {y : Nat → Int} {n : Nat} (h : n < 17) : ((List.range 4).map fun p => plc (y (gx n p).1) (gx n p).2).Perm (ths y n) := by
  have e : ((List.range 4).map fun p => plc (y (gx n p).1) (gx n p).2) = ((gs n).map (·.1)).map fun j => plc (y j) (chs n j) := by
    rw [gs_map h, List.map_map]
    refine List.map_congr_left fun p hp => ?_
    rw [((gs_all ⟨n, h⟩).2.2 ⟨p, List.mem_range.mp hp⟩).2]
    rfl
  rw [e]
  exact (gs_all ⟨n, h⟩).2.1.map _
/-- the ends of a choice, in the table's order -/
structure EndsAt (y : Nat → Int) (n : Nat) (kE : List (Str × Value)) (rest : Led9) (ts : Nat → Addr) (cf : Nat → Nat → UInt64) (kf : Nat → Nat → Tok) : Prop where
  at' : ∀ p, p < 4 → valueAt kE (nm (gx n p).1 (gx n p).2) = some (.ref (ts p)) ∧ (ts p, p3 (cf p) (kf p)) ∈ rest
  col : ∀ p, p < 4 → ColE (y (gx n p).1) (gx n p).2 (cf p)
theorem ends_of {y : Nat → Int} {n : Nat} {kT kE : List (Str × Value)} {rest : Led9} (T : Tab1 y 4 kT kE rest) (h : n < 17) : ∃ ts cf kf, EndsAt y n kE rest ts cf kf := by
  have q : ∀ p, ∃ a fl t, p < 4 → valueAt kE (nm (gx n p).1 (gx n p).2) = some (.ref a) ∧ (a, p3 fl t) ∈ rest ∧ ColE (y (gx n p).1) (gx n p).2 fl := fun p => by
    by_cases hp : p < 4
    · obtain ⟨a, fl, t, x⟩ := T.dE _ (gx_lt h hp) (gx n p).2
      exact ⟨a, fl, t, fun _ => x⟩
    · exact ⟨0, fun _ => 0, fun _ => 0, fun z => absurd z hp⟩
  exact ⟨fun p => (q p).choose, fun p => (q p).choose_spec.choose, fun p => (q p).choose_spec.choose_spec.choose, fun p hp => ⟨((q p).choose_spec.choose_spec.choose_spec hp).1, ((q p).choose_spec.choose_spec.choose_spec hp).2.1⟩, fun p hp => ((q p).choose_spec.choose_spec.choose_spec hp).2.2⟩
theorem hd2_len {y : Nat → Int} {n : Nat} {its : List HI} {rest : Led9} (H : Hd2 y n its rest) (h : n < 17) : its.length = 4 := by
  have := congrArg List.length H.eq
  simpa [gs_len h] using this
theorem hd2_at {y : Nat → Int} {n : Nat} {its : List HI} {rest : Led9} (H : Hd2 y n its rest) (h : n < 17) {p : Nat} (hp : p < 4) : ∃ it, its[p]? = some it ∧ it.nm = nm (gx n p).1 (gx n p).2 ∧ it.low = nm (gx n p).1 false ∧ it.tx = itx (plc (y (gx n p).1) (gx n p).2) := by
  have e := H.eq
  rw [gs_map h] at e
  have e2 := congrArg (fun l => l[p]?) e
  simp only [List.getElem?_map, List.getElem?_range hp, Option.map_some] at e2
  cases hi : its[p]? with
  | none => rw [hi] at e2; cases e2
  | some it =>
    rw [hi] at e2
    have e3 := Option.some.inj e2
    exact ⟨it, rfl, congrArg (·.1) e3, congrArg (·.2.1) e3, congrArg (·.2.2) e3⟩
section
open LCg LCt
variable {prog : Program} {w : World} {A : Around} {h₀ : Heap} {L : Addr} {m : Str → Option Value} {env : Env} {Q : Value → Shared → Prop} {E : Value → Shared → Prop} {s : Shared}
theorem comp_cols {elt : Expr} {x : Str} {scope : Scope} {cl : List (Str × Addr)} {ax : Addr} {its : List HI} {news rest : Led9} {s₁ : Shared} {y : Nat → Int} {n : Nat} {kE : List (Str × Value)} {ts : Nat → Addr} {cf : Nat → Nat → UInt64} {kf : Nat → Nat → Tok}
    (hE : EndsAt y n kE rest ts cf kf) (H : Hd2 y n its rest) (hn : n < 17) (hh : A.handled = none) (F : Fr h₀ L s₁.heap m) (N : News h₀ L s₁.heap news) (hm : (ax, LCg.lst (its.map fun it => .str it.nm it.t1)) ∈ news)
    (step : ∀ p t I oI C oC D m₂ h tk (E' : Value → Shared → Prop) ys, valueAt kE (nm (gx n p).1 (gx n p).2) = some (.ref (ts p)) → NsObj oC m₂ → m₂ x = some (.str (nm (gx n p).1 (gx n p).2) t) → Fr h₀ L h m → News h₀ L h ((I, oI) :: (C, oC) :: (D, LCg.lst ys) :: news) →
      wpAny (model prog w) A (eval elt (compEnvC scope cl C env)) (VEnd h₀ L m { s₁ with heap := h, toks := tk } ((I, oI) :: (C, oC) :: (D, LCg.lst ys) :: news) (fun y => y = .ref (ts p))) E' { s₁ with heap := h, toks := tk })
    (fin : ∀ D h' tk, Fr h₀ L h' m → News h₀ L h' ((D, Mine.lst [.ref (ts 0), .ref (ts 1), .ref (ts 2), .ref (ts 3)] 4) :: news) → Q (.ref D) { s₁ with heap := h', toks := tk }) :
    CompSrc prog w A h₀ L m env elt x scope cl (fun s₂ => FinE h₀ L m s₂ Q) (.ref ax) s₁ := by
  have hl := hd2_len H hn
  refine comp_map (vs := its.map fun it => .str it.nm it.t1) (n := (its.map fun it => Value.str it.nm it.t1).length) (fun p y => y = .ref (ts p)) hh F N hm (by rw [List.length_map]; (first | lia | omega)) (fun i v I oI C oC D m₂ h tk E' ys hv hC hx F' N' => ?_) fun D h' tk ys hy hR F' N' _ => ?_
  · have hi : i < 4 := by
      rw [List.getElem?_map] at hv
      cases e : its[i]? with
      | none => rw [e] at hv; cases hv
      | some it => have := (List.getElem?_eq_some_iff.mp e).1; (first | lia | omega)
    obtain ⟨it, e, e1, _, _⟩ := hd2_at H hn hi
    rw [List.getElem?_map, e] at hv
    obtain rfl : Value.str it.nm it.t1 = v := Option.some.inj hv
    rw [e1] at hx
    exact step i it.t1 I oI C oC D m₂ h tk E' ys (hE.at' i hi).1 hC hx F' N'
  · rw [List.length_map, hl] at hy
    have : ys = [.ref (ts 0), .ref (ts 1), .ref (ts 2), .ref (ts 3)] := by
      obtain ⟨a, b, c, d, rfl⟩ := four_list hy
      rw [hR 0 a rfl, hR 1 b rfl, hR 2 c rfl, hR 3 d rfl]
    subst this
    exact fin D h' tk F' N'
end
section
variable {prog : Program} {w : World} {p : Program} {loose : List Str} {mean : ExcName → Option Value} {mg mb : Str → Option Value}
theorem use_keys {news : Led9} {hx dx H : Addr} {tk : Tok} {its : List HI} {k : Nat} {y : Nat → Int} {n : Nat} {rest : Led9} (hI : (hx, instObj 210 dx) ∈ news) (hD : (dx, hdD w.params tk H) ∈ news) (hm : (H, lst (its.map HI.val) k) ∈ news) (hH : Hd2 y n its rest) (hn : n < 17) (hs : ∀ p ∈ rest, p ∈ news)
  {dp un : Nat} {gd : Option (List Code)} {cn : Str} {cs : Scope} {a : Addr} {ccd : Value} {cl : List (Str × Addr)} {outer : List Env} {A₀ : Around} {base h₀ : Heap} {L : Addr} {m : Str → Option Value} {s : Shared} {Q E : Value → Shared → Prop}
  (B : Below A₀ base outer h₀) (F : Fr h₀ L s.heap m) (X : (hd.heap_39 w.params).In h₀) (N : News h₀ L s.heap news) (T : Top p loose mean mg mb h₀) (hk : cs.kind = .function) (hd9 : dp + 6 < recursionLimit) (hu : un + 8 * 6 < cLine)
  (ret : ∀ D h' tk', Fr h₀ L h' m → News h₀ L h' ((D, LCg.lst (its.map fun it => .str it.nm it.t1)) :: news) → Q (.ref D) { s with heap := h', toks := tk' }) :
  wpAny (model prog w) (ktrTop dp un gd cn cs L a ccd cl outer) (call (.ref 162) [.ref hx]) Q E s := by
  refine c_keys news hx dx H tk its k hI hD hm (fun i hi => hs _ (hH.mem i hi)) (by rw [hd2_len hH hn]; decide) dp un gd cn cs a ccd cl outer A₀ base h₀ L m s Q E B F X N T hk hd9 hu ?_
  rintro r own h' tk' ⟨D, rfl, rfl⟩ F' N' _
  exact ret D h' tk' F' N'
theorem use_mix {news : Led9} {La : Addr} {k : Nat} {y : Nat → Int} {n : Nat} {kE : List (Str × Value)} {rest : Led9} {ts : Nat → Addr} {cf : Nat → Nat → UInt64} {kf : Nat → Nat → Tok} {b : Bool} (hE : EndsAt y n kE rest ts cf kf) (hn : n < 17) (hb : sdB (ths y n) = b) (hm : (La, lst [.ref (ts 0), .ref (ts 1), .ref (ts 2), .ref (ts 3)] k) ∈ news) (hs : ∀ p ∈ rest, p ∈ news)
  {dp un : Nat} {gd : Option (List Code)} {cn : Str} {cs : Scope} {a : Addr} {ccd : Value} {cl : List (Str × Addr)} {outer : List Env} {A₀ : Around} {base h₀ : Heap} {L : Addr} {m : Str → Option Value} {s : Shared} {Q E : Value → Shared → Prop}
  (B : Below A₀ base outer h₀) (F : Fr h₀ L s.heap m) (X : (hd.heap_39 w.params).In h₀) (N : News h₀ L s.heap news) (T : Top p loose mean mg mb h₀) (hk : cs.kind = .function) (hd9 : dp + 6 < recursionLimit) (hu : un + 8 * 6 < cLine)
  (ret0 : b = true → ∀ T k h' tk', Fr h₀ L h' m → News h₀ L h' ((T, lst [] k) :: news) → Q (.ref T) { s with heap := h', toks := tk' })
  (ret1 : b = false → ∀ T f t h' tk', Grey f → (∀ c, t c ≠ 0) → Fr h₀ L h' m → News h₀ L h' ((T, lst (f3 f t) 3) :: news) → Q (.ref T) { s with heap := h', toks := tk' }) :
  wpAny (model prog w) (ktrTop dp un gd cn cs L a ccd cl outer) (call (.ref 219) [.ref La]) Q E s := by
  have P := pts_of (y := y) (ax := fun p => (gx n p).1) (en := fun p => (gx n p).2) hE.col
  have e : sdB (ths y n) = true ↔ ¬ BadL ((List.range 4).map fun p => plc (y (gx n p).1) (gx n p).2) := by
    rw [sdB_iff, ← SidedL.perm (th_perm hn)]
    constructor
    · exact sided_not_bad fun x hx => ths_b x ((th_perm hn).mem_iff.mp hx)
    · intro h
      have hp := List.mergeSort_perm ((List.range 4).map fun p => plc (y (gx n p).1) (gx n p).2) (fun a b => decide (a ≤ b))
      have hsort := List.pairwise_mergeSort (le := fun a b : Int => decide (a ≤ b)) (fun a b c => by simp; (first | lia | omega)) (fun a b => by simp; (first | lia | omega)) ((List.range 4).map fun p => plc (y (gx n p).1) (gx n p).2)
      have hl := hp.length_eq
      rw [List.length_map, List.length_range] at hl
      obtain ⟨a, b, c, d, e⟩ := four_list hl
      rw [e] at hp hsort
      simp only [List.pairwise_cons, List.mem_cons, List.not_mem_nil, or_false, decide_eq_true_eq] at hsort
      have bd : ∀ x ∈ [a, b, c, d], 0 ≤ x ∧ x < 64 := fun x hx => ths_b x ((th_perm hn).mem_iff.mp (hp.mem_iff.mp hx))
      have h1 := hsort.1 b (.inl rfl)
      have h2 := hsort.2.1 c (.inl rfl)
      have h3 := hsort.2.2.1 d rfl
      have ba := bd a (by simp)
      have bdd := bd d (by simp)
      rw [← SidedL.perm hp, ← sorted_iff ba.1 h1 h2 h3 bdd.2]
      exact sorted_sided ba.1 h1 h2 h3 bdd.2 (fun q => h ((BadL.perm hp).mp q))
  refine c_mix news La ts k cf kf hm (fun j hj => hs _ (hE.at' j hj).2) dp un gd cn cs a ccd cl outer A₀ base h₀ L m s Q E B F X N T hk hd9 hu ?_
  have no : BadL ((List.range 4).map fun p => plc (y (gx n p).1) (gx n p).2) → b = false := fun h => by
    cases hb' : b with
    | false => rfl
    | true => exact absurd h (e.mp (hb.trans hb'))
  have mem : ∀ {p}, p < 4 → plc (y (gx n p).1) (gx n p).2 ∈ (List.range 4).map fun p => plc (y (gx n p).1) (gx n p).2 := fun hp => List.mem_map.mpr ⟨_, List.mem_range.mpr hp, rfl⟩
  rintro r own h' tk' (⟨T, k, rfl, rfl, hj⟩ | ⟨T, i, j, t, ht, hij, hj4, h2, rfl, rfl⟩ | ⟨T, i, j, k, t, ht, hki, hij, hj4, h3, rfl, rfl⟩) F' N' _
  · exact ret0 (hb ▸ e.mpr ((bad_iff P).mp hj)) T k h' tk' F' N'
  · have an := (P.two (by (first | lia | omega)) hj4).mp h2
    exact ret1 (no (.inl ⟨_, mem (by (first | lia | omega)), _, mem hj4, an⟩)) T _ t h' tk' (grey_two P (by (first | lia | omega)) hj4 an) ht F' N'
  · have cy := (P.three (by (first | lia | omega)) hj4 (by (first | lia | omega))).mp h3
    refine ret1 (no (.inr ?_)) T _ t h' tk' (grey_three P (by (first | lia | omega)) hj4 (by (first | lia | omega)) cy) ht F' N'
    rcases cy with c | c
    · exact ⟨_, mem (p := i) (by (first | lia | omega)), _, mem hj4, _, mem (p := k) (by (first | lia | omega)), c⟩
    · exact ⟨_, mem (p := k) (by (first | lia | omega)), _, mem hj4, _, mem (p := i) (by (first | lia | omega)), c⟩
end
end
section
open PySem PySem.W PyProof.Rows PySem.Flt PySem.Spec PySem.Calls PySem.SeqAt PySem.Float64
section
variable {prog : Program} {w : World} {A : Around} {h₀ : Heap} {L : Addr} {m : Str → Option Value} {Q : Value → Shared → Prop} {E : Value → Shared → Prop} {s : Shared}
theorem f3_item {value slice : PySem.Expr} {T : Addr} {f : Nat → UInt64} {t : Nat → Tok} {k : Nat} {u : Tok} {i : Int} {news : Led9} (N : News h₀ L s.heap news) (hm : (T, Mine.lst (f3 f t) k) ∈ news) (hi : i = 0 ∨ i = 1 ∨ i = 2) (h : Q (.float (f i.toNat) (t i.toNat)) s)
    (hs : subscripted slice false (.ref T) (.int i u) = operate [.ref T, .int i u] (getItem (.ref T) (.int i u))) :
    wpAny (model prog w) A (subscriptTail value slice (.ref T) (.int i u)) Q E s := by
  have hL : s.heap.IsList T (f3 f t).toArray := ⟨_, (N _ hm).1, rfl, k, rfl⟩
  refine tail_any hL.typeIs slot_list_getitem.lookup (wpAny_getItem_list hL (by omega) (by omega) (x := .float (f i.toNat) (t i.toNat)) ?_ h) hs
  rcases hi with rfl | rfl | rfl <;> rfl
theorem grey_cmp {f : Nat → UInt64} (h : Grey f) : (Float64.cmp (mn3 (f 0) (f 1) (f 2)) (mx3 (f 0) (f 1) (f 2)) == some .eq) = true ∧ Float64.cmp (Float64.div (Float64.add (mx3 (f 0) (f 1) (f 2)) (mn3 (f 0) (f 1) (f 2))) f2) (f 0) = some .eq := by
  obtain ⟨K, v, hK, hv, hf⟩ := h
  have e0 := hf 0 (by decide)
  have e1 := hf 1 (by decide)
  have e2 := hf 2 (by decide)
  have M := mx3_ex e0 e1 e2
  have m' := mn3_ex e0 e1 e2
  rw [show max (max v v) v = v by (first | lia | omega)] at M
  rw [show min (min v v) v = v by (first | lia | omega)] at m'
  refine ⟨by rw [ex_uniq m' M]; rfl, ?_⟩
  have sum := add_ex (by (first | lia | omega)) M m' (by (first | lia | omega))
  have d := div_ex (K := K) (J := 0) (I := K) (c := v) (by (first | lia | omega)) (by (first | lia | omega)) (by decide) sum f2_ex (by decide) (by (first | lia | omega)) (by rw [Nat.add_zero]; congr 1; (first | lia | omega))
  exact ex_uniq d e0
theorem cmp_zero : Float64.cmp (0 : UInt64) 0 = some .eq := by decide +kernel
end
section
variable {prog : Program} {w : World} {p : Program} {loose : List Str} {mean : ExcName → Option Value} {mg mb : Str → Option Value}
theorem use_grey {news : Led9} {f : Nat → UInt64} {t : Nat → Tok} (hg : Grey f) (ht : ∀ c, t c ≠ 0)
  {dp un : Nat} {gd : Option (List Code)} {cn : Str} {cs : Scope} {a : Addr} {ccd : Value} {cl : List (Str × Addr)} {outer : List Env} {A₀ : Around} {base h₀ : Heap} {L : Addr} {m : Str → Option Value} {s : Shared} {Q E : Value → Shared → Prop}
  (B : Below A₀ base outer h₀) (F : Fr h₀ L s.heap m) (X : (hd.heap_39 w.params).In h₀) (N : News h₀ L s.heap news) (T : Top p loose mean mg mb h₀) (hk : cs.kind = .function) (hd9 : dp + 3 < recursionLimit) (hu : un + 8 * 3 < cLine) (hp : 0 < s.toks)
  (ret : ∀ T l t1 t2 t3 h' tk', 0 < tk' → t1 ≠ 0 → t2 ≠ 0 → t3 ≠ 0 → Float64.cmp l (f 0) = some .eq → Fr h₀ L h' m → News h₀ L h' ((T, tup [.float 0 t1, .float l t2, .float 0 t3]) :: news) → Q (.ref T) { s with heap := h', toks := tk' }) :
  wpAny (model prog w) (ktrTop dp un gd cn cs L a ccd cl outer) (call (.ref 45) [.float (f 0) (t 0), .float (f 1) (t 1), .float (f 2) (t 2)]) Q E s := by
  have g := grey_cmp hg
  refine wpAny_with_toks (n := 1) hp (c_hls_grey news (f 0) (f 1) (f 2) (t 0) (t 1) (t 2) (ht 0) (ht 1) (ht 2) _ _ _ rfl rfl rfl g.1 dp un gd cn cs a ccd cl outer A₀ base h₀ L m s _ _ B F X N T hk hd9 hu ?_)
  rintro r own h' tk' ⟨T, t1, t2, t3, z1, z2, z3, rfl, rfl⟩ F' N' _ hq
  exact ret T _ t1 t2 t3 h' tk' hq z1 z2 z3 g.2 F' N'
end
end
section
open PySem PySem.W PyProof.Rows PySem.Flt PySem.Spec PySem.Calls PySem.SeqAt
theorem kk_lt (n : Nat) : kk n < 4 := by
  rcases Nat.lt_or_ge n 16 with h | h
  · exact (by decide : ∀ i : Fin 16, kk i.1 < 4) ⟨n, h⟩
  · unfold kk; rw [List.getD_eq_getElem?_getD, List.getElem?_eq_none h]; decide
theorem hd2_mem {y : Nat → Int} {n : Nat} {its : List HI} {rest : Led9} (H : Hd2 y n its rest) (hn : n < 17) {it : HI} (hit : it ∈ its) : ∃ j e, j < 4 ∧ e = chs n j ∧ it.nm = nm j e ∧ it.low = nm j false ∧ it.tx = itx (plc (y j) e) := by
  obtain ⟨p, hp, e⟩ := List.getElem_of_mem hit
  have hl := hd2_len H hn
  obtain ⟨it', e', a, b, c⟩ := hd2_at H hn (p := p) (by (first | lia | omega))
  rw [List.getElem?_eq_getElem hp] at e'
  obtain rfl : its[p] = it' := Option.some.inj e'
  subst e
  exact ⟨_, _, gx_lt hn (by (first | lia | omega)), ((gs_all ⟨n, hn⟩).2.2 ⟨p, by (first | lia | omega)⟩).2, a, b, c⟩
theorem hd2_nm {y : Nat → Int} {n : Nat} {its : List HI} {rest : Led9} (H : Hd2 y n its rest) (hn : n < 17) : ∀ it ∈ its, Nm it.nm it.low := fun it hit => by
  obtain ⟨j, e, hj, _, a, b, _⟩ := hd2_mem H hn hit
  rw [a, b]; exact nm_Nm hj
theorem hd2_find {y : Nat → Int} {n : Nat} {its : List HI} {rest : Led9} (H : Hd2 y n its rest) (hn : n < 17) {k : Nat} (hk : k < 4) : ∃ i0, its.find? (fun i => i.low == nm k false) = some i0 ∧ i0.tx = itx (plc (y k) (chs n k)) := by
  cases hf : its.find? (fun i => i.low == nm k false) with
  | some i0 =>
    have h1 := List.find?_some hf
    have h2 := List.mem_of_find?_eq_some hf
    obtain ⟨j, e, hj, he, _, b, c⟩ := hd2_mem H hn h2
    have h1' := eq_of_beq h1
    rw [b] at h1'
    have := low_inj hj hk h1'
    subst this; subst he
    exact ⟨i0, rfl, c⟩
  | none =>
    have hp := (gs_all ⟨n, hn⟩).2.1
    have hm : k ∈ (gs n).map (·.1) := hp.mem_iff.mpr (List.mem_range.mpr hk)
    rw [gs_map hn] at hm
    obtain ⟨p, hp', e⟩ := List.mem_map.mp hm
    obtain ⟨it, e', _, b, _⟩ := hd2_at H hn (List.mem_range.mp hp')
    have := List.find?_eq_none.mp hf it (List.mem_of_getElem? e')
    rw [b, e] at this
    simp at this
theorem hd2_next {y : Nat → Int} {n : Nat} {its : List HI} {rest : Led9} {T : Addr} {t1 t2 : Tok} (H : Hd2 y n its rest) (hn : n < 17) :
    Hd2 y (n + 1) ((its.filter fun i => i.low != nm (kk n) false) ++ [⟨T, nm (kk n) (!chs n (kk n)), t1, itx (plc (y (kk n)) (!chs n (kk n))), t2, nm (kk n) false⟩])
      ((T, tup [.str (nm (kk n) (!chs n (kk n))) t1, .str (itx (plc (y (kk n)) (!chs n (kk n)))) t2]) :: rest) := by
  refine ⟨?_, fun it hit => ?_⟩
  · rw [gs, List.map_append, List.map_append]
    congr 1
    have e1 : (its.filter fun i => i.low != nm (kk n) false).map (fun it => (it.nm, it.low, it.tx)) = (its.map (fun it => (it.nm, it.low, it.tx))).filter fun q => q.2.1 != nm (kk n) false := by
      rw [List.filter_map]; rfl
    rw [e1, H.eq, List.filter_map]
    congr 1
    refine List.filter_congr fun q hq => ?_
    have hq4 : q.1 < 4 := by
      have := (gs_all ⟨n, hn⟩).2.1.mem_iff.mp (List.mem_map.mpr ⟨q, hq, rfl⟩)
      exact List.mem_range.mp this
    show (nm q.1 false != nm (kk n) false) = (q.1 != kk n)
    by_cases e : q.1 = kk n
    · rw [e, bne_self_eq_false, bne_self_eq_false]
    · have : nm q.1 false ≠ nm (kk n) false := fun h => e (low_inj hq4 (kk_lt n) h)
      exact (bne_iff_ne.mpr this).trans (bne_iff_ne.mpr e).symm
  · rcases List.mem_append.mp hit with h | h
    · exact .tail _ (H.mem it ((List.mem_filter.mp h).1))
    · rw [List.mem_singleton.mp h]; exact .head _
/-- the row without the turning axis -/
structure RowM (y : Nat → Int) (n : Nat) (rv : List Value) (ns : List Int) : Prop where
  isI : IntsAre rv ns
  sorted : Sorted ns
  perm : (plc (y (kk n)) (chs n (kk n)) :: ns).Perm (ths y n)
theorem range_k : ∀ k : Fin 4, (List.range 4).Perm (k.1 :: (List.range 4).filter (· != k.1)) := by decide
theorem ths_k (y : Nat → Int) (n : Nat) {k : Nat} (hk : k < 4) : (ths y n).Perm (plc (y k) (chs n k) :: ((List.range 4).filter (· != k)).map fun j => plc (y j) (chs n j)) := by
  have := (range_k ⟨k, hk⟩).map fun j => plc (y j) (chs n j)
  exact this
theorem rowM_next {y : Nat → Int} {n : Nat} {rv rv' : List Value} {ns ns' : List Int} (R : RowM y n rv ns) (h1 : IntsAre rv' ns') (h2 : Sorted ns') (h3 : ns'.Perm (plc (y (kk n)) (!chs n (kk n)) :: ns)) : Row2 y (n + 1) rv' ns' := by
  refine ⟨h1, h2, h3.trans ?_⟩
  have hk := kk_lt n
  have a := (ths_k y n hk).symm.trans R.perm.symm
  have b := a.cons_inv
  have c := (ths_k y (n + 1) hk).symm
  have e1 : chs (n + 1) (kk n) = !chs n (kk n) := by rw [chs, if_pos rfl]
  have e2 : ((List.range 4).filter (· != kk n)).map (fun j => plc (y j) (chs (n + 1) j)) = ((List.range 4).filter (· != kk n)).map (fun j => plc (y j) (chs n j)) := by
    refine List.map_congr_left fun j hj => ?_
    have := (List.mem_filter.mp hj).2
    rw [chs, if_neg (by simpa using this)]
  rw [e1, e2] at c
  exact (b.symm.cons _).trans c
theorem cut_at : ∀ (l : List Value) (k : Nat) (hk : k < l.length), kl_cut l k = some (l.take k, l[k], l.drop (k + 1))
  | [], _, h => absurd h (Nat.not_lt_zero _)
  | x :: r, 0, _ => rfl
  | x :: r, k + 1, h => by
    have := cut_at r k (by simpa using h)
    unfold kl_cut
    rw [this]
    rfl
theorem del_at (ns : List Int) (k i : Nat) (hk : k ≤ ns.length) : (ns.take k ++ ns.drop (k + 1)).getD i 0 = if i < k then ns.getD i 0 else ns.getD (i + 1) 0 := by
  rw [List.getD_eq_getElem?_getD, List.getD_eq_getElem?_getD, List.getD_eq_getElem?_getD, List.getElem?_append, List.length_take, Nat.min_eq_left hk]
  by_cases h : i < k
  · rw [if_pos h, if_pos h, List.getElem?_take, if_pos h]
  · rw [if_neg h, if_neg h, List.getElem?_drop]
    congr 2
    omega
theorem pop_row {y : Nat → Int} {n : Nat} {rv : List Value} {ns : List Int} {k : Int} (R : Row2 y n rv ns) (hg : Goes ns (plc (y (kk n)) (chs n (kk n))) 0 k) :
    0 ≤ k ∧ k < 4 ∧ RowM y n (rv.take k.toNat ++ rv.drop (k.toNat + 1)) (ns.take k.toNat ++ ns.drop (k.toNat + 1)) := by
  obtain ⟨a, b, c, d⟩ := hg
  have hl := row2_sz R
  have hm : plc (y (kk n)) (chs n (kk n)) ∈ ns := R.perm.mem_iff.mpr (List.mem_map.mpr ⟨kk n, List.mem_range.mpr (kk_lt n), rfl⟩)
  obtain ⟨j, hj, e⟩ := List.getElem_of_mem hm
  have ej : ns.getD j 0 = plc (y (kk n)) (chs n (kk n)) := by rw [List.getD_eq_getElem?_getD, List.getElem?_eq_getElem hj]; exact e
  have hkj : k ≤ j := by
    rcases Int.lt_or_le (j : Int) k with q | q
    · have := c j (by (first | lia | omega)) q; (first | lia | omega)
    · exact q
  have d1 := d k.toNat (by (first | lia | omega)) (by (first | lia | omega))
  have s1 := R.sorted k.toNat j (by (first | lia | omega)) hj
  have ek : ns.getD k.toNat 0 = plc (y (kk n)) (chs n (kk n)) := by (first | lia | omega)
  have hk : k.toNat < ns.length := by (first | lia | omega)
  refine ⟨a, by (first | lia | omega), (R.isI.take _).append (R.isI.drop _), fun i i' hi hi' => ?_, ?_⟩
  · rw [List.length_append, List.length_take, List.length_drop] at hi'
    rw [del_at _ _ _ (by (first | lia | omega)), del_at _ _ _ (by (first | lia | omega))]
    have h1 := R.sorted i i' hi
    have h2 := R.sorted i (i' + 1) (by (first | lia | omega))
    have h3 := R.sorted (i + 1) (i' + 1) (by (first | lia | omega))
    by_cases q1 : i < k.toNat
    · rw [if_pos q1]
      by_cases q2 : i' < k.toNat
      · rw [if_pos q2]; exact h1 (by (first | lia | omega))
      · rw [if_neg q2]; exact h2 (by (first | lia | omega))
    · rw [if_neg q1, if_neg (by (first | lia | omega))]; exact h3 (by (first | lia | omega))
  · refine List.Perm.trans ?_ R.perm
    rw [← ek, List.getD_eq_getElem?_getD, List.getElem?_eq_getElem hk]
    refine List.perm_middle.symm.trans ?_
    rw [Option.getD_some, List.getElem_cons_drop, List.take_append_drop]
theorem rowM_sz {y : Nat → Int} {n : Nat} {rv : List Value} {ns : List Int} (R : RowM y n rv ns) : rv.length < 2 ^ 20 := by
  have h1 := R.isI.length
  have h2 := R.perm.length_eq
  simp [ths] at h2
  (first | lia | omega)
section
variable {prog : Program} {w : World} {A : Around} {h₀ : Heap} {L : Addr} {m : Str → Option Value} {Q : Value → Shared → Prop} {E : Value → Shared → Prop} {s : Shared}
theorem my_pop {l : Addr} {rv : List Value} {ns : List Int} {c : Nat} {y : Nat → Int} {n : Nat} {k : Int} {u : Tok} {led : Led9} {g : Obj → Led9} (F : Fr h₀ L s.heap m) (N : News h₀ L s.heap led) (U : UpdF l (lst rv c) led g) (R : Row2 y n rv ns) (hg : Goes ns (plc (y (kk n)) (chs n (kk n))) 0 k)
    (h : ∀ h' v rv' ns', RowM y n rv' ns' → Fr h₀ L h' m → News h₀ L h' (g (lst rv' (c + 1))) → Q v { s with heap := h' }) : wpAny (model prog w) A (call (.builtin "list.pop") [.ref l, .int k u]) Q E s := by
  obtain ⟨h0, h4, RM⟩ := pop_row R hg
  have hl := row2_sz R
  refine kl_popAt (its := rv.toArray) (n := c) (k := k.toNat) (p := rv.take k.toNat) (q := rv.drop (k.toNat + 1)) (y := rv[k.toNat]'(by (first | lia | omega))) F N (fitsIdx h0 (by (first | lia | omega))) ?_ (cut_at rv k.toNat (by (first | lia | omega))) (updF_upd U _) (by show rv.length ≤ _; rw [sizeLine_eq]; (first | lia | omega)) fun h' F' N' => h h' _ _ _ RM F' N'
  rw [List.size_toArray]
  unfold seqIndex?
  simp
  (first | lia | omega)
theorem eq_txt {a b : Bool} {x : Int} : (itx (plc x a) = itx (plc x b)) ↔ a = b := by
  constructor
  · intro h
    have t1 := text64 ⟨(plc x a).toNat, by have := plc_b x a; (first | lia | omega)⟩
    have t2 := text64 ⟨(plc x b).toNat, by have := plc_b x b; (first | lia | omega)⟩
    have e1 : (((plc x a).toNat : Nat) : Int) = plc x a := by have := plc_b x a; (first | lia | omega)
    have e2 : (((plc x b).toNat : Nat) : Int) = plc x b := by have := plc_b x b; (first | lia | omega)
    simp only [e1, e2] at t1 t2
    have : plc x a = plc x b := Option.some.inj (t1.1.symm.trans ((congrArg PySem.intText? h).trans t2.1))
    have hP := fm64 x
    unfold plc at this
    rw [Int.fmod_eq_emod_of_nonneg _ (by decide)] at this
    cases a <;> cases b <;> simp at this ⊢ <;> (first | lia | omega)
  · rintro rfl; rfl
theorem eq_name {M : Model} {env : Env} {ea eb : PySem.Expr} {c : Prop} [Decidable c] {Q' : Value → Shared → Prop} {k : Nat} {e : Bool} {x : Int} {tg ts : Tok} (hc : c ↔ itx (plc x e) = itx (plc x false)) (h1 : Q' (.str (nm k true) tg) s → wpAny M A (eval ea env) Q' E s) (h2 : Q' (.str (nm k false) ts) s → wpAny M A (eval eb env) Q' E s) (h : ∀ t, Q' (.str (nm k (!e)) t) s) : if c then wpAny M A (eval ea env) Q' E s else wpAny M A (eval eb env) Q' E s := by
  by_cases q : c
  · rw [if_pos q]
    have := eq_txt.mp (hc.mp q)
    subst this
    exact h1 (h tg)
  · rw [if_neg q]
    have : e = true := by
      cases e with
      | true => rfl
      | false => exact absurd (hc.mpr rfl) q
    subst this
    exact h2 (h ts)
end
section
variable {prog : Program} {w : World} {p : Program} {loose : List Str} {mean : ExcName → Option Value} {mg mb : Str → Option Value}
theorem use_get {news : Led9} {hx dx H : Addr} {tk : Tok} {its : List HI} {c : Nat} {y : Nat → Int} {n k : Nat} {e : Bool} {rest : Led9} {t1 : Tok} (hI : (hx, instObj 210 dx) ∈ news) (hD : (dx, hdD w.params tk H) ∈ news) (hm : (H, lst (its.map HI.val) c) ∈ news) (hH : Hd2 y n its rest) (hn : n < 17) (hk : k < 4) (hs : ∀ p ∈ rest, p ∈ news)
  {dp un : Nat} {gd : Option (List Code)} {cn : Str} {cs : Scope} {a : Addr} {ccd : Value} {cl : List (Str × Addr)} {outer : List Env} {A₀ : Around} {base h₀ : Heap} {L : Addr} {m : Str → Option Value} {s : Shared} {Q E : Value → Shared → Prop}
  (B : Below A₀ base outer h₀) (F : Fr h₀ L s.heap m) (X : (hd.heap_39 w.params).In h₀) (N : News h₀ L s.heap news) (T : Top p loose mean mg mb h₀) (hk' : cs.kind = .function) (hd9 : dp + 6 < recursionLimit) (hu : un + 8 * 6 < cLine)
  (ret : ∀ t h' tk', Fr h₀ L h' m → News h₀ L h' news → Q (.str (itx (plc (y k) (chs n k))) t) { s with heap := h', toks := tk' }) :
  wpAny (model prog w) (ktrTop dp un gd cn cs L a ccd cl outer) (call (.ref 157) [.ref hx, .str (nm k e) t1]) Q E s := by
  obtain ⟨i0, hf, ht⟩ := hd2_find hH hn hk
  refine c_get news hx dx H tk its c _ _ t1 i0 hI hD hm (fun i hi => hs _ (hH.mem i hi)) (hd2_nm hH hn) (nm_Nm hk) (clean_nm _ hk) hf dp un gd cn cs a ccd cl outer A₀ base h₀ L m s Q E B F X N T hk' hd9 hu ?_
  rintro r own h' tk' ⟨rfl, rfl⟩ F' N' _
  rw [ht]
  exact ret _ h' tk' F' N'
end
end
section
open PySem PySem.W PyProof.Rows PySem.Flt PySem.Spec PySem.Calls PySem.SeqAt
theorem hd2_sz {y : Nat → Int} {n : Nat} {its : List HI} {rest : Led9} (H : Hd2 y n its rest) (hn : n < 17) : its.length ≤ 1000 := by rw [hd2_len H hn]; decide
theorem tab_up {y : Nat → Int} {kT kE : List (Str × Value)} {rest : Led9} {x : Addr × Obj} (T : Tab1 y 4 kT kE rest) : Tab1 y 4 kT kE (x :: rest) := ⟨T.dT, fun j hj e => by obtain ⟨a, fl, t, p, q, r⟩ := T.dE j hj e; exact ⟨a, fl, t, p, .tail _ q, r⟩, T.zT, T.zE⟩
section
variable {prog : Program} {w : World} {A : Around} {h₀ : Heap} {L : Addr} {E : Value → Shared → Prop} {s : Shared}
theorem tx_item {value slice : PySem.Expr} {tD : Addr} {oD : Obj} {y : Nat → Int} {kT kE : List (Str × Value)} {rest news : Led9} {k : Nat} {e : Bool} {u : Tok} {Q : Value → Shared → Prop} (T : Tab1 y 4 kT kE rest) (hk : k < 4) (N : News h₀ L s.heap news) (hm : (tD, oD) ∈ news) (hd : oD.IsDictOf (strKind prog w) kT)
    (h : ∀ t, Q (.str (itx (plc (y k) e)) t) { s with toks := s.toks + 1 })
    (hs : subscripted slice false (.ref tD) (.str (nm k e) u) = operate [.ref tD, .str (nm k e) u] (getItem (.ref tD) (.str (nm k e) u))) (hg : ∀ r, letTemporaryGo value (.ref tD) r = pure ()) : wpAny (model prog w) A (subscriptTail value slice (.ref tD) (.str (nm k e) u)) Q E s := by
  obtain ⟨t, ht⟩ := T.dT k hk e
  exact kda_item (knd := PySem.strKind _ _) N hm hd (strKind_is _ _ _ _) ht (h t) hs hg
end
section
variable {P : Params} {cT cE cP cR cW tD eD pL hx dx hL rL : Nat} {oT oE oP oR oW oD oF : Obj} {pv : List Value} {pn : Nat} {tkh : Tok} {its its' : List HI} {hn' : Nat} {rv rv' : List Value} {rn' : Nat} {rest : Led9} {m₀ : Str → Option Value} {h₀ : Heap} {L : Addr} {s : Shared} {I : Nat} {oI : Obj}
  {y : Nat → Int} {n : Nat} {ns ns' : List Int} {kT kE : List (Str × Value)} {Z : Nat} {zs : List Value} {zn : Nat} {Qv : Flow → Shared → Prop}
theorem e2_end {h' : Heap} {tk : Nat} {m' : Str → Option Value} {vW : Option Value} {tc : Tok} {all : Led9} {T : Nat} {t1 t2 : Tok} (hq : ∀ f s₃, E2 P cT cE cP cR cW tD eD pL hx dx hL rL oT oE oP oR oD oF pv pn tkh y kT kE Z zs zn m₀ h₀ L s I oI n f s₃ → Qv f s₃)
    (F : Fr h₀ L h' m') (N : News h₀ L h' all) (hs : ∀ p ∈ (I, oI) :: (cW, oW) :: (cR, oR) :: (cP, oP) :: (cE, oE) :: (cT, oT) :: (tD, oD) :: (eD, oF) :: (pL, lst pv pn) :: (hx, instObj 210 dx) :: (dx, hdD P tkh hL) :: (hL, lst (((its.filter fun i => i.low != nm (kk n) false) ++ [(⟨T, nm (kk n) (!chs n (kk n)), t1, itx (plc (y (kk n)) (!chs n (kk n))), t2, nm (kk n) false⟩ : HI)]).map HI.val) hn') :: (rL, lst rv' rn') :: rest, p ∈ all)
    (hT : (T, tup [.str (nm (kk n) (!chs n (kk n))) t1, .str (itx (plc (y (kk n)) (!chs n (kk n)))) t2]) ∈ all) (hI : @LT.lt Nat _ rL I) (hIT : @LT.lt Nat _ I T)
    (dW : oW.data = .cell vW) (hR : Above rL rest) (off : ∀ p ∈ rest, @Ne Nat p.1 I) (hZ : (Z, lst zs zn) ∈ rest) (hn : n < 16) (hm : ∀ z, z ≠ sCount → z ∉ W2 → m' z = m₀ z) (hc : m' sCount = some (.int (cnt y (n + 1)) tc)) (Tb : Tab1 y 4 kT kE rest) (H : Hd2 y n its rest)
    (R : RowM y n rv ns) (r1 : IntsAre rv' ns') (r2 : Sorted ns') (r3 : ns'.Perm (plc (y (kk n)) (!chs n (kk n)) :: ns)) {s₃ : Shared} (e : s₃ = { s with heap := h', toks := tk }) : Qv .next s₃ := by
  subst e
  refine hq _ _ (.mk h' tk m' oW _ hn' rv' rn' _ ns' vW tc F (fun p hp => ?_) dW ?_ ?_ (.tail _ hZ) hm hc (tab_up Tb) (hd2_next (T := T) (t1 := t1) (t2 := t2) H (Nat.lt_succ_of_lt hn)) (rowM_next R r1 r2 r3))
  · rcases List.mem_cons.mp hp with rfl | hp
    · exact N _ (hs _ (.head _))
    · have : p = (T, tup [.str (nm (kk n) (!chs n (kk n))) t1, .str (itx (plc (y (kk n)) (!chs n (kk n)))) t2]) ∨ p ∈ (I, oI) :: (cW, oW) :: (cR, oR) :: (cP, oP) :: (cE, oE) :: (cT, oT) :: (tD, oD) :: (eD, oF) :: (pL, lst pv pn) :: (hx, instObj 210 dx) :: (dx, hdD P tkh hL) :: (hL, lst (((its.filter fun i => i.low != nm (kk n) false) ++ [(⟨T, nm (kk n) (!chs n (kk n)), t1, itx (plc (y (kk n)) (!chs n (kk n))), t2, nm (kk n) false⟩ : HI)]).map HI.val) hn') :: (rL, lst rv' rn') :: rest := by
        exact (mem_ins [_, _, _, _, _, _, _, _, _, _, _, _] hp).imp id fun h => .tail _ h
      rcases this with rfl | h
      · exact N _ hT
      · exact N _ (hs _ h)
  · intro p hp
    rcases List.mem_cons.mp hp with rfl | hp
    · exact Nat.lt_trans hI hIT
    · exact hR p hp
  · intro p hp
    rcases List.mem_cons.mp hp with rfl | hp
    · exact Nat.ne_of_gt hIT
    · exact off p hp
end
section
variable {prog : Program} {w : World} {p : Program} {loose : List Str} {mean : ExcName → Option Value} {mg mb : Str → Option Value}
theorem use_get2 {news : Led9} {hx dx H : Addr} {tk : Tok} {its : List HI} {c : Nat} {y : Nat → Int} {n : Nat} {e : Bool} {rest : Led9} {t1 ta tb : Tok} {T : Addr} (hI : (hx, instObj 210 dx) ∈ news) (hD : (dx, hdD w.params tk H) ∈ news)
  (hm : (H, lst (((its.filter fun i => i.low != nm (kk n) false) ++ [(⟨T, nm (kk n) (!chs n (kk n)), ta, itx (plc (y (kk n)) (!chs n (kk n))), tb, nm (kk n) false⟩ : HI)]).map HI.val) c) ∈ news) (hH : Hd2 y n its rest) (hn : n < 16) (hs : ∀ p ∈ rest, p ∈ news)
  (hT : (T, tup [.str (nm (kk n) (!chs n (kk n))) ta, .str (itx (plc (y (kk n)) (!chs n (kk n)))) tb]) ∈ news)
  {dp un : Nat} {gd : Option (List Code)} {cn : Str} {cs : Scope} {a : Addr} {ccd : Value} {cl : List (Str × Addr)} {outer : List Env} {A₀ : Around} {base h₀ : Heap} {L : Addr} {m : Str → Option Value} {s : Shared} {Q E : Value → Shared → Prop}
  (B : Below A₀ base outer h₀) (F : Fr h₀ L s.heap m) (X : (hd.heap_39 w.params).In h₀) (N : News h₀ L s.heap news) (T' : Top p loose mean mg mb h₀) (hk' : cs.kind = .function) (hd9 : dp + 6 < recursionLimit) (hu : un + 8 * 6 < cLine)
  (ret : ∀ t h' tk', Fr h₀ L h' m → News h₀ L h' news → Q (.str (itx (plc (y (kk n)) (!chs n (kk n)))) t) { s with heap := h', toks := tk' }) :
  wpAny (model prog w) (ktrTop dp un gd cn cs L a ccd cl outer) (call (.ref 157) [.ref hx, .str (nm (kk n) e) t1]) Q E s := by
  refine use_get hI hD hm (hd2_next hH (Nat.lt_succ_of_lt hn)) (Nat.succ_lt_succ hn) (kk_lt n) (fun q hq => ?_) B F X N T' hk' hd9 hu fun t h' tk' F' N' => ?_
  · rcases List.mem_cons.mp hq with rfl | hq
    · exact hT
    · exact hs q hq
  · have : chs (n + 1) (kk n) = !chs n (kk n) := by rw [chs, if_pos rfl]
    rw [this]
    exact ret t h' tk' F' N'
end
end
section
open PySem PySem.W PyProof.Rows PySem.Flt PySem.Spec PySem.Calls PySem.SeqAt
theorem fillK2 (w : World) (h : Heap) : PySem.Challenge.rw_pm0065_01.Holds → (hd.heap_39 w.params).In h → True := by
  k_fill
  intros; trivial
theorem pick_all (l : List Value) : kms_pick l none none = l := by
  unfold kms_pick kms_lo kms_hi
  simp
local macro_rules | `(tactic| k_mem) => `(tactic| first | assumption | exact List.mem_cons_of_mem _ (by assumption))
set_option maxHeartbeats 400000 in
theorem c_items {prog : Program} {w : World} {p : Program} {loose : List Str} {mean : ExcName → Option Value} {mg mb : Str → Option Value} (news : Led9) (hx dx H : Addr) (tk : Tok) (its : List HI) (n : Nat)
  (hI : (hx, instObj 210 dx) ∈ news) (hD : (dx, hdD w.params tk H) ∈ news) (hm : (H, lst (its.map HI.val) n) ∈ news) (hsz : its.length ≤ 1000) :
  PureC prog w (hd.heap_39 w.params) p loose mean mg mb 6 174 news [.ref hx] (fun res own => ∃ D, res = .ref D ∧ own = [(D, lst (its.map HI.val) 0)]) := by
  unfold PureC
  intro dp un gd cn cs a ccd cl outer A₀ base h₀ L m s Q E B F X N T hk hd9 hu hret
  refine wpAny_call ?_
  k_dflt (first | (refine' code_def ?ce_k1 ?ce_k2 ?ce_k3 ?ce_k4 ?ce_k5 ?ce_kA ?ce_kF ?ce_kK ?ce_k6 ?ce_k7 ?ce_k8 ?ce_k9 ?ce_kB ?_ ?ce_c2 ?ce_c3 ?ce_c4 ?ce_c5; (case ce_kA => exact rfl); (case ce_kF => exact rfl); (case ce_kK => assumption); (case ce_k1 => k_asm); (case ce_k2 => k_asm); (case ce_k3 => k_asm); (case ce_k4 => k_asm); (case ce_k5 => k_asm); (case ce_k6 => k_is); (case ce_k7 => k_is); (case ce_k8 => ktr_room); (case ce_k9 => first | exact BindsTo.of_eq rfl | exact binds_K (by k_in) rfl (by k_is) rfl rfl rfl | (refine' kp_binds ?ce_kx ?ce_ke; (case ce_kx => k_in); (case ce_ke => exact fun _ => rfl))); (case ce_c5 => decide); (case ce_kB => exact locs rfl); (case ce_c2 => exact rfl); (case ce_c3 => exact rfl); (case ce_c4 => exact rfl); k_whole; intro g' L' h' FG' F' N' B' X' T'; (try dsimp only); (try k_fold)) | (refine' code_defC ?ce_k1 ?ce_k2 ?ce_k3 ?ce_k4 ?ce_k5 ?ce_kA ?ce_kF ?ce_kK ?ce_k6 ?ce_k7 ?ce_k8 ?ce_k9 ?ce_kB ?ce_kD ?_ ?ce_c2 ?ce_c3 ?ce_c4; (case ce_kA => exact rfl); (case ce_kF => exact rfl); (case ce_kK => assumption); (case ce_k1 => k_asm); (case ce_k2 => k_asm); (case ce_k3 => k_asm); (case ce_k4 => k_asm); (case ce_k5 => k_asm); (case ce_k6 => k_is); (case ce_k7 => k_is); (case ce_k8 => ktr_room); (case ce_k9 => first | exact BindsTo.of_eq rfl | exact binds_K (by k_in) rfl (by k_is) rfl rfl rfl | (refine' kp_binds ?ce_kx ?ce_ke; (case ce_kx => k_in); (case ce_ke => exact fun _ => rfl))); (case ce_kB => exact rfl); (case ce_kD => decide +kernel); (case ce_c2 => exact rfl); (case ce_c3 => exact rfl); (case ce_c4 => exact rfl); k_whole; intro g' L' h' tk' cells' FG' F' N' Y' B' X' T' l1; (try k_lt l1); k_cells Y'; (try simp only [List.cons_append, List.nil_append] at N'); (try dsimp only); (try k_fold)))
  (repeat' (first
    | (k_unfold; (try dsimp only))
    | (k_end; wrow_close)
    | (k_here; (with_reducible show wpAny _ _ (subscriptTail (PySem.Expr.Name _ _) (PySem.Expr.Slice _ _ _ _) (Value.ref _) (Value.ref _)) _ _ _); k_dflt (refine' kms_slice_lit (by k_asm) (by k_asm) (by exact ⟨_, (by assumption : News _ _ _ _) _ (by assumption) |>.1, rfl, _, rfl⟩) (by kmk_part) (by kmk_part) (by exact pick_all _) ?_ (by with_unfolding_all rfl) (by exact fun _ => rfl) (by (rw [List.size_toArray, List.length_map, sizeLine_eq]; omega))); intro D' h' F' N' l1)
    | walk1
    | (dsimp only; walk1)
    | (leave1; (try dsimp only))))
  all_goals (refine' c_end hret ?F ?N ?l ?o; (case F => k_asm); (case N => k_asm); (case l => assumption); (case o => exact ⟨_, rfl, rfl⟩))
end
section
open PySem PySem.W PyProof.Rows PySem.Flt PySem.Spec PySem.Calls PySem.SeqAt
/-- the axes of the last row -/
noncomputable def pj (p : Nat) : Nat := [2, 1, 0, 3].getD p 0
theorem pj_lt (p : Nat) : pj p < 4 := by
  rcases Nat.lt_or_ge p 4 with h | h
  · exact (by decide : ∀ i : Fin 4, pj i.1 < 4) ⟨p, h⟩
  · unfold pj; rw [List.getD_eq_getElem?_getD, List.getElem?_eq_none h]; decide
theorem pj_gx : ∀ p : Fin 4, gx 16 p.1 = (pj p.1, false) := by decide +kernel
noncomputable abbrev cbad : Str := Str.ofString "cbad"
theorem cbad_at : ∀ i : Fin 4, (cbad.cps[i.1]?).map (fun c => (⟨#[c]⟩ : Str)) = some (nm (pj i.1) false) := by decide +kernel
theorem cbad_sz : cbad.cps.size = 4 := by decide
/-- a pair of the last row -/
noncomputable abbrev pairO (y : Nat → Int) (j : Nat) (t1 t2 : Tok) : Obj := tup [.str (nm j false) t1, .str (itx (plc (y j) false)) t2]
noncomputable def Sub (a b : Led9) : Prop := ∀ q ∈ a, q ∈ b
theorem Sub.mem {a b : Led9} (h : Sub a b) {x : Addr × Obj} (hx : x ∈ a) : x ∈ b := h x hx
section
open LCg LCt
variable {prog : Program} {w : World} {A : Around} {h₀ : Heap} {L : Addr} {m : Str → Option Value} {env : Env} {Q : Value → Shared → Prop} {E : Value → Shared → Prop} {s : Shared}
/-- a comprehension over a written text, its end -/
noncomputable def SrcStr (prog : Program) (w : World) (A : Around) (h₀ : Heap) (L : Addr) (m : Str → Option Value) (env : Env) (elt : Expr) (x : Str) (scope : Scope) (cl : List (Str × Addr)) (Fin : Shared → List Value → Led9 → Prop) (xv : Value) (s₁ : Shared) : Prop :=
  ∃ tx t news, xv = .str tx t ∧ A.handled = none ∧ Fr h₀ L s₁.heap m ∧ News h₀ L s₁.heap news ∧ tx.cps.size ≤ 1000 ∧
    ∀ g, CompRest prog w A h₀ L m env elt x scope cl { s₁ with heap := g } (fun _ => True) (SignAt tx) (Fin { s₁ with heap := g }) tx.cps.size 0 [] news
theorem ListComp_S {elt iter : Expr} {x : Str} {px : Pos} {scope : Scope} {cl : List (Str × Addr)} {pos : Pos} (_F₀ : Fr h₀ L s.heap m)
    (hclos : closureFor scope env = pure cl) (hcell : ∀ y ∈ scope.names, y.2 ≠ .cell) (hkind : scope.kind = .function)
    (hnames : ∀ y ∈ scope.names, y.2 = .local → scope.names.lookup y.1 = some .local) (hx : scope.names.lookup x = some .local)
    (h : wpAny (model prog w) A (eval iter env) (SrcStr prog w A h₀ L m env elt x scope cl (fun s₂ => FinE h₀ L m s₂ Q)) E s)
    (hs : ∀ x, foldedSetIterable iter env x = pure x := by intro _; rfl) :
    wpAny (model prog w) A (eval (.ListComp elt [⟨.Name x px, iter, [], 0⟩] scope pos) env) Q E s := by
  rw [eval_ListComp]
  refine wpAny_comprehension_free (use := none) rfl hs hclos hkind hnames (wpAny_mono h (fun xv s₁ h₁ => ?_) fun _ _ e => e)
  obtain ⟨tx, t, news, rfl, hh, F, N, hsz, R⟩ := h₁
  have fin : ∀ {St : Nat → Heap → Prop} {T : String} (_ : Walks prog w A s₁.heap.objs.size [s₁.heap.objs.size] [s₁.heap.objs.size] tx.cps.size (SignAt tx) St) (_ : ∀ i h, St i h ↔ h.IsStrIter s₁.heap.objs.size T tx t i) (o : Obj) (_ : St 0 (s₁.heap.push o)),
      wpAny (model prog w) A (newList []) (fun acc s₃ => wpAny (model prog w) A (newFunctionEnv scope env.globals cl [] env.qual none .none (some env)) (fun cenv s₄ =>
        codeAny (model prog w) A (.compStart (.ListComp elt [⟨.Name x px, iter, [], 0⟩] scope pos) 0 (.ref s₁.heap.objs.size) acc { cenv with scope := relabel scope env }) (compPost (model prog w) A E none Q acc cenv.locals) s₄) E s₃) E { s₁ with heap := s₁.heap.push o } := by
    intro St T W hSt o st0
    have up : ∀ b o', s₁.heap.get? b = some o' → (s₁.heap.push o).get? b = some o' := fun b o e => Heap.get?_push_of_some _ e
    refine block_U W (by rw [sizeLine_eq]; (first | lia | omega)) (fun i h st => by obtain ⟨o, e, _⟩ := (hSt i h).mp st; exact ⟨o, e⟩) (fun i h h' o' nw st e1 e2 _ _ _ => (hSt i h').mpr ?_) hcell hkind hx st0 (fun b hb => ?_)
      (F.keeps up) (N.grown up) (Nat.ne_of_lt F.ns.lt) (next_is_new F) (fun p hp => Nat.ne_of_lt (Heap.lt_size (N p hp).1)) trivial (R _) ?_
    · obtain ⟨o2, e3, r⟩ := (hSt i h).mp st
      obtain rfl : o' = o2 := Option.some.inj (e1.symm.trans e3)
      exact ⟨o', e2, r⟩
    · show b < (s₁.heap.push _).objs.size
      rw [Heap.size_push, List.mem_singleton.mp hb]
      exact Nat.lt_succ_self _
    · intro D C h tk m' ys news' F' N' o1 hn hC₀ hD₀ hCL hDL hCD offC fin
      refine ⟨m', hn, fun h'' hs'' => fin D h'' tk (F'.change hs'' hCL hC₀) (fun p hp => ?_) o1⟩
      refine ⟨hs''.extBut _ _ ?_ (N' p hp).1, (N' p hp).2⟩
      rcases List.mem_cons.mp hp with rfl | hp
      · exact Ne.symm hCD
      · exact offC p hp
  cases ha : tx.cps.all (· < 128)
  · exact wpAny_pyIter_wide ha (fin (Walks.strWide hh _ tx t) (fun _ _ => Iff.rfl) _ ⟨_, Heap.get?_push_size _ rfl, rfl, rfl⟩)
  · exact wpAny_pyIter_ascii ha (fin (Walks.strAscii hh _ tx t) (fun _ _ => Iff.rfl) _ ⟨_, Heap.get?_push_size _ rfl, rfl, rfl⟩)
theorem comp_cbad {elt : Expr} {x : Str} {scope : Scope} {cl : List (Str × Addr)} {t0 : Tok} {news : Led9} {s₁ : Shared} {y : Nat → Int}
    (hh : A.handled = none) (F : Fr h₀ L s₁.heap m) (N : News h₀ L s₁.heap news)
    (step : ∀ p t all C oC m₂ h tk (E' : Value → Shared → Prop), NsObj oC m₂ → m₂ x = some (.str (nm (pj p) false) t) → Fr h₀ L h m → Sub news all → News h₀ L h ((C, oC) :: all) →
      wpAny (model prog w) A (eval elt (compEnvC scope cl C env)) (TEnd h₀ L m { s₁ with heap := h, toks := tk } ((C, oC) :: all) (fun y' own => ∃ T t1 t2, y' = .ref T ∧ own = [(T, pairO y (pj p) t1 t2)])) E' { s₁ with heap := h, toks := tk })
    (fin : ∀ D h' tk (ts : Nat → Addr) (ta tb : Nat → Tok) all, Fr h₀ L h' m → News h₀ L h' ((D, Mine.lst [.ref (ts 0), .ref (ts 1), .ref (ts 2), .ref (ts 3)] 4)   :: all) → Sub news all → (∀ p, p < 4 → (ts p, pairO y (pj p) (ta p) (tb p)) ∈ all) → Q (.ref D) { s₁ with heap := h', toks := tk }) :
    SrcStr prog w A h₀ L m env elt x scope cl (fun s₂ => FinE h₀ L m s₂ Q) (.str cbad t0) s₁ := by
  refine ⟨cbad, t0, news, rfl, hh, F, N, by rw [cbad_sz]; decide, fun g => ?_⟩
  have all : ∀ k i ys nw, i + k = 4 → (∃ (ts : Nat → Addr) (ta tb : Nat → Tok), ys = (List.range i).map (fun j => .ref (ts j)) ∧ (∀ q ∈ news, q ∈ nw) ∧ ∀ p, p < i → (ts p, pairO y (pj p) (ta p) (tb p)) ∈ nw) →
      CompRest prog w A h₀ L m env elt x scope cl { s₁ with heap := g } (fun _ => True) (SignAt cbad) (FinE h₀ L m { s₁ with heap := g } Q) k i ys nw := by
    intro k
    induction k with
    | zero =>
      rintro i ys nw hi ⟨ts, ta, tb, rfl, hs, hp⟩
      obtain rfl : i = 4 := by (first | lia | omega)
      exact CompRest.zero fun D h tk F' N' o => fin D h tk ts ta tb nw F' N' hs hp
    | succ k ih =>
      rintro i ys nw hi ⟨ts, ta, tb, rfl, hs, hp⟩
      refine CompRest.succ fun v I oI C oC D m₂ h tk E' hv hC hx F' N' off ne => ?_
      obtain ⟨c, u, hc, rfl⟩ := hv
      have hci := cbad_at ⟨i, by (first | lia | omega)⟩
      rw [hc] at hci
      have hci : (⟨#[c]⟩ : Str) = nm (pj i) false := Option.some.inj hci
      rw [hci] at hx
      have N2 : News h₀ L h ((C, oC) :: (I, oI) :: (D, LCg.lst ((List.range i).map fun j => .ref (ts j))) :: nw) := fun p hp => N' p (by
        rcases List.mem_cons.mp hp with rfl | hp
        · exact .tail _ (.head _)
        · rcases List.mem_cons.mp hp with rfl | hp
          · exact .head _
          · exact .tail _ (.tail _ hp))
      refine wpAny_mono (step i u _ C oC m₂ h tk E' hC hx F' (fun q hq => .tail _ (.tail _ (hs q hq))) N2) (fun y' s₃ h₃ => ?_) fun _ _ e => e
      obtain ⟨h', tk', own, rfl, F₂, N₂, l, T, t1, t2, rfl, rfl⟩ := h₃
      have lT := l _ (.head _)
      have om := off.mem
      refine ⟨h', tk', (T, pairO y (pj i) t1 t2) :: nw, rfl, F₂, fun p hp => N₂ p ?_, Off3.of fun p hp => ?_, trivial, ih (i + 1) _ _ (by (first | lia | omega)) ⟨fun j => if j = i then T else ts j, fun j => if j = i then t1 else ta j, fun j => if j = i then t2 else tb j, ?_, fun q hq => .tail _ (hs q hq), fun p hp' => ?_⟩⟩
      · simp only [List.singleton_append, List.mem_cons] at hp ⊢
        rcases hp with h | h | h | h | h <;> simp only [h, true_or, or_true]
      · rcases List.mem_cons.mp hp with rfl | hp
        · exact ⟨Nat.ne_of_gt (lT (I, oI) (.tail _ (.head _))), Nat.ne_of_gt (lT (C, oC) (.head _)), Nat.ne_of_gt (lT (D, _) (.tail _ (.tail _ (.head _))))⟩
        · exact om p hp
      · rw [List.range_succ, List.map_append]
        congr 1
        · refine List.map_congr_left fun c hc => ?_
          show Value.ref _ = Value.ref (if c = i then T else ts c)
          rw [if_neg (Nat.ne_of_lt (List.mem_range.mp hc))]
        · simp
      · dsimp only
        by_cases e : p = i
        · subst e; simp only [if_true]; exact .head _
        · simp only [e, if_false]; exact .tail _ (hp p (by (first | lia | omega)))
  have := all 4 0 [] news (by (first | lia | omega)) ⟨fun _ => 0, fun _ => 0, fun _ => 0, rfl, fun _ h => h, fun _ h => absurd h (Nat.not_lt_zero _)⟩
  rw [cbad_sz]
  exact this
end
end
section
open PySem PySem.W PyProof.Rows PySem.Flt PySem.Spec PySem.Calls PySem.SeqAt
section
variable {prog : Program} {w : World} {p : Program} {loose : List Str} {mean : ExcName → Option Value} {mg mb : Str → Option Value}
theorem use_items {news : Led9} {hx dx H : Addr} {tk : Tok} {its : List HI} {c : Nat} {y : Nat → Int} {n : Nat} {rest : Led9} (hI : (hx, instObj 210 dx) ∈ news) (hD : (dx, hdD w.params tk H) ∈ news) (hm : (H, lst (its.map HI.val) c) ∈ news) (hH : Hd2 y n its rest) (hn : n < 17)
  {dp un : Nat} {gd : Option (List Code)} {cn : Str} {cs : Scope} {a : Addr} {ccd : Value} {cl : List (Str × Addr)} {outer : List Env} {A₀ : Around} {base h₀ : Heap} {L : Addr} {m : Str → Option Value} {s : Shared} {Q E : Value → Shared → Prop}
  (B : Below A₀ base outer h₀) (F : Fr h₀ L s.heap m) (X : (hd.heap_39 w.params).In h₀) (N : News h₀ L s.heap news) (T : Top p loose mean mg mb h₀) (hk : cs.kind = .function) (hd9 : dp + 6 < recursionLimit) (hu : un + 8 * 6 < cLine)
  (ret : ∀ D h' tk', Fr h₀ L h' m → News h₀ L h' ((D, lst (its.map HI.val) 0) :: news) → Q (.ref D) { s with heap := h', toks := tk' }) :
  wpAny (model prog w) (ktrTop dp un gd cn cs L a ccd cl outer) (call (.ref 174) [.ref hx]) Q E s := by
  refine c_items news hx dx H tk its c hI hD hm (hd2_sz hH hn) dp un gd cn cs a ccd cl outer A₀ base h₀ L m s Q E B F X N T hk hd9 hu ?_
  rintro r own h' tk' ⟨D, rfl, rfl⟩ F' N' _
  exact ret D h' tk' F' N'
end
section
variable {prog : Program} {w : World} {A : Around} {h₀ : Heap} {L : Addr} {m : Str → Option Value} {Q : Value → Shared → Prop} {E : Value → Shared → Prop} {s : Shared}
theorem pair_same {A : Around} {a b : Addr} {y : Nat → Int} {j : Nat} {t1 t2 u1 u2 : Tok} {all : Led9} (N : News h₀ L s.heap all) (ha : (a, pairO y j t1 t2) ∈ all) (hb : (b, pairO y j u1 u2) ∈ all) (hu : A.units < cLine) : EqAt A s (.ref a) (.ref b) true := by
  by_cases e : a = b
  · subst e; exact EqAt.same _
  · refine EqAt.of_refs e ?_
    refine RcAt.tuples (e := fun _ => true) (items := [Value.str (nm j false) t1, .str (itx (plc (y j) false)) t2].toArray) (items2 := [Value.str (nm j false) u1, .str (itx (plc (y j) false)) u2].toArray) ⟨_, (N _ ha).1, rfl, _, rfl⟩ ⟨_, (N _ hb).1, rfl, _, rfl⟩ hu fun i h1 h2 => ?_
    match i, h1, h2 with
    | 0, _, _ =>
      have := EqAt.str_str (A := A.in1) (s := s) (nm j false) t1 (nm j false) u1
      rw [beq_self_eq_true] at this
      exact this
    | 1, _, _ =>
      have := EqAt.str_str (A := A.in1) (s := s) (itx (plc (y j) false)) t2 (itx (plc (y j) false)) u2
      rw [beq_self_eq_true] at this
      exact this
theorem items_ne {D Z : Addr} {its : List HI} {c k : Nat} {y : Nat → Int} {ts : Nat → Addr} {ta tb : Nat → Tok} {rest all led : Led9} (N : News h₀ L s.heap led) (hD : (D, lst (its.map HI.val) c) ∈ led) (hZ : (Z, lst [.ref (ts 0), .ref (ts 1), .ref (ts 2), .ref (ts 3)] k) ∈ led)
    (H : Hd2 y 16 its rest) (hp : ∀ p, p < 4 → (ts p, pairO y (pj p) (ta p) (tb p)) ∈ all) (hr : Sub rest led) (hs : Sub all led) (hu : A.units + 1 < cLine) (h : Q (.bool false) s) :
    wpAny (model prog w) A (compareOp .NotEq (.ref D) (.ref Z)) Q E s := by
  have hl := hd2_len H (by decide)
  have l1 : s.heap.IsList D (its.map HI.val).toArray := ⟨_, (N _ hD).1, rfl, _, rfl⟩
  have l2 : s.heap.IsList Z [Value.ref (ts 0), .ref (ts 1), .ref (ts 2), .ref (ts 3)].toArray := ⟨_, (N _ hZ).1, rfl, _, rfl⟩
  have sz : (its.map HI.val).toArray.size = 4 := by rw [List.size_toArray, List.length_map, hl]
  have main : RcNeAt A s (.ref D) (.ref Z) (!(List.range (its.map HI.val).toArray.size).all fun _ => true) := by
    refine RcNeAt.lists l1 l2 (by rw [sz]; rfl) (Nat.lt_of_succ_lt hu) fun i h1 h2 => ?_
    have hi : i < 4 := by omega
    obtain ⟨it, e, e1, _, e3⟩ := hd2_at H (by decide) hi
    have q := pj_gx ⟨i, hi⟩
    rw [q] at e1 e3
    have em := N _ (hr _ (H.mem it (List.mem_of_getElem? e)))
    have e4 : (its.map HI.val).toArray[i] = .ref it.a := by
      rw [List.getElem_toArray, List.getElem_map]
      have : its[i]'(by omega) = it := by rw [List.getElem?_eq_getElem (by omega)] at e; exact Option.some.inj e
      rw [this]
    have e5 : [Value.ref (ts 0), .ref (ts 1), .ref (ts 2), .ref (ts 3)].toArray[i] = .ref (ts i) := by
      rcases cs4 hi with rfl | rfl | rfl | rfl
      · rfl
      · rfl
      · rfl
      · rfl
    rw [e4, e5]
    have f1 : (it.a, pairO y (pj i) it.t1 it.t2) ∈ led := by
      have := hr _ (H.mem it (List.mem_of_getElem? e))
      unfold HI.ent at this
      rw [e1, e3] at this
      exact this
    exact pair_same N f1 (hs _ (hp i hi)) hu
  rw [sz] at main
  exact main prog w E Q h
theorem plc_item {value slice : PySem.Expr} {l : Addr} {pv : List Value} {n i : Nat} {u : Tok} {y : Nat → Int} {news : Led9} (N : News h₀ L s.heap news) (hm : (l, lst pv n) ∈ news) (hp : Plc1 y 4 pv)
    (h0 : i < 4) (h : ∀ t, Q (.int (plc (y i) false) t) s)
    (hs : subscripted slice false (.ref l) (.int (i : Int) u) = operate [.ref l, .int (i : Int) u] (getItem (.ref l) (.int (i : Int) u))) :
    wpAny (model prog w) A (subscriptTail value slice (.ref l) (.int (i : Int) u)) Q E s := by
  have hl : pv.length = 4 := by rw [hp.isI.length]; simp
  refine my_item N hm hp.isI (by (first | lia | omega)) (by simp; (first | lia | omega)) (by (first | lia | omega)) (fun t => ?_) hs
  have e : ((List.range 4).map fun j => plc (y j) false).getD (i : Int).toNat 0 = plc (y i) false := by
    rw [Int.toNat_natCast, List.getD_eq_getElem?_getD, List.getElem?_map, List.getElem?_range h0]; rfl
  rw [e]
  exact h t
end
/-- no line of an earlier axis -/
noncomputable def newLn (y : Nat → Int) (k : Nat) : Bool := decide (∀ j, j < k → lnA y j ≠ lnA y k)
theorem new_eq {y : Nat → Int} {k : Nat} (hk : k < 4) {ms : List Int} (hms : ms = ((List.range k).map fun j => lnA y j)) : (!(ms.any (· == lnA y k))) = newLn y k := by
  subst hms
  unfold newLn
  rw [Bool.eq_iff_iff]
  simp only [Bool.not_eq_true', List.any_eq_false, List.mem_map, List.mem_range, beq_iff_eq, decide_eq_true_eq]
  constructor
  · intro h j hj e
    exact h _ ⟨j, hj, rfl⟩ e
  · rintro h x ⟨j, hj, rfl⟩ e
    exact h j hj e
theorem take_ln {y : Nat → Int} {k : Nat} (hk : k < 4) : ((((List.range 4).map fun j => plc (y j) false).take k).map (·.fmod 32)) = (List.range k).map fun j => lnA y j := by
  rw [← List.map_take, List.map_map, List.take_range, Nat.min_eq_left (by (first | lia | omega))]
  rfl
end
section
open PySem PySem.W PyProof.Rows PySem.Flt PySem.Spec PySem.Calls PySem.SeqAt
theorem tend_new {h₀ : Heap} {L : Addr} {m : Str → Option Value} {s : Shared} {all : Led9} {K : Value → Led9 → Prop} {y : Value} {h h' : Heap} {tk : Nat} {o : Obj} (F : Fr h₀ L h' m) (N : News h₀ L h' ((h.objs.size, o) :: all)) (N0 : News h₀ L h all) (k : K y [(h.objs.size, o)]) :
    TEnd h₀ L m s all K y { s with heap := h', toks := tk } := tend [(h.objs.size, o)] F N (ord1 fun p hp => Heap.lt_size (N0 p hp).1) k
theorem vend2 {h₀ : Heap} {L : Addr} {m : Str → Option Value} {s : Shared} {led : Led9} {a b : Addr × Obj} {R : Value → Prop} {y : Value} {h' : Heap} {tk : Nat} (F : Fr h₀ L h' m) (N : News h₀ L h' (a :: b :: led)) (c : R y) : VEnd h₀ L m s led R y { s with heap := h', toks := tk } :=
  vend F (fun p hp => N p (.tail _ (.tail _ hp))) c
theorem ints_mod {vs ys : List Value} {ns : List Int} (hi : IntsAre vs ns) (hl : ys.length = vs.length) (h : ∀ i y, ys[i]? = some y → ∃ t, y = Value.int ((ns.getD i 0).fmod 32) t) : IntsAre ys (ns.map (·.fmod 32)) := by
  induction hi generalizing ys with
  | nil =>
    obtain rfl : ys = [] := List.length_eq_zero_iff.mp hl
    exact .nil
  | @cons n t vs ns hi ih =>
    cases ys with
    | nil => cases hl
    | cons y ys =>
      obtain ⟨t', rfl⟩ := h 0 y (by simp)
      exact .cons _ _ (ih (by simpa using hl) fun i y' hy => by have := h (i + 1) y' (by simpa using hy); simpa using this)
theorem pick_take (l : List Value) (k : Nat) : kms_pick l none (some (k : Int)) = l.take k := by
  unfold kms_pick kms_lo kms_hi
  have : ¬ ((k : Int) < 0) := by (first | lia | omega)
  simp [this]
theorem plc_take {y : Nat → Int} {pv : List Value} (h : Plc1 y 4 pv) (k : Nat) : IntsAre (pv.take k) (((List.range 4).map fun j => plc (y j) false).take k) := h.isI.take k
theorem plc_len {y : Nat → Int} {pv : List Value} (h : Plc1 y 4 pv) : pv.length = 4 := by rw [h.isI.length]; simp
section
open LCg LCt
variable {prog : Program} {w : World} {A : Around} {h₀ : Heap} {L : Addr} {m : Str → Option Value} {env : Env} {Q : Value → Shared → Prop} {E : Value → Shared → Prop} {s : Shared}
theorem comp_mod {elt : Expr} {x : Str} {scope : Scope} {cl : List (Str × Addr)} {ax : Addr} {k n : Nat} {news : Led9} {s₁ : Shared} {y : Nat → Int} {pv : List Value} (hp : Plc1 y 4 pv) (hk : k < 4)
    (hh : A.handled = none) (F : Fr h₀ L s₁.heap m) (N : News h₀ L s₁.heap news) (hm : (ax, Mine.lst (pv.take k) n) ∈ news)
    (step : ∀ a t I oI C oC D m₂ h tk (E' : Value → Shared → Prop) ys, NsObj oC m₂ → m₂ x = some (.int a t) → Fr h₀ L h m → News h₀ L h ((I, oI) :: (C, oC) :: (D, LCg.lst ys) :: news) →
      wpAny (model prog w) A (eval elt (compEnvC scope cl C env)) (VEnd h₀ L m { s₁ with heap := h, toks := tk } ((I, oI) :: (C, oC) :: (D, LCg.lst ys) :: news) (fun y => ∃ t', y = .int (a.fmod 32) t')) E' { s₁ with heap := h, toks := tk })
    (fin : ∀ D h' tk ys, IntsAre ys ((List.range k).map fun j => lnA y j) → Fr h₀ L h' m → News h₀ L h' ((D, LCg.lst ys) :: news) → Q (.ref D) { s₁ with heap := h', toks := tk }) :
    CompSrc prog w A h₀ L m env elt x scope cl (fun s₂ => FinE h₀ L m s₂ Q) (.ref ax) s₁ := by
  have hi := plc_take hp k
  refine comp_map (fun i y' => ∃ t, y' = .int (((((List.range 4).map fun j => plc (y j) false).take k).getD i 0).fmod 32) t) hh F N hm (by have := plc_len hp; rw [List.length_take]; (first | lia | omega)) (fun i v I oI C oC D m₂ h tk E' ys hv hC hx F' N' => ?_) fun D h' tk ys hl hR F' N' _ => fin D h' tk ys (by rw [← take_ln hk]; exact ints_mod hi hl hR) F' N'
  obtain ⟨t, rfl⟩ := hi.int_at i v hv
  exact step _ t I oI C oC D m₂ h tk E' ys hC hx F' N'
theorem comp_new {ct elt : Expr} {x : Str} {scope : Scope} {cl : List (Str × Addr)} {r : Addr} {t u v : Tok} {news : Led9} {s₁ : Shared} {y : Nat → Int} {pv : List Value} (_hp : Plc1 y 4 pv)
    (hh : A.handled = none) (F : Fr h₀ L s₁.heap m) (N : News h₀ L s₁.heap news) (hr : IsRange s₁.heap r 0 4 1 t u v)
    (step : ∀ i : Nat, i < 4 → ∀ t I oI C oC D m₂ h tk (E' : Value → Shared → Prop) ys, NsObj oC m₂ → m₂ x = some (.int (i : Int) t) → Fr h₀ L h m → News h₀ L h ((I, oI) :: (C, oC) :: (D, LCg.lst ys) :: news) →
      wpAny (model prog w) A (isTrue ct (compEnvC scope cl C env) (eval ct (compEnvC scope cl C env))) (fun ok s' => if ok = true then
        wpAny (model prog w) A (eval elt (compEnvC scope cl C env)) (VEnd h₀ L m { s₁ with heap := h, toks := tk } ((I, oI) :: (C, oC) :: (D, LCg.lst ys) :: news) (fun _ => newLn y i = true)) E' s'
        else VEnd h₀ L m { s₁ with heap := h, toks := tk } ((I, oI) :: (C, oC) :: (D, LCg.lst ys) :: news) (fun _ => newLn y i = false) .none s') E' { s₁ with heap := h, toks := tk })
    (fin : ∀ D h' tk ys, ys.length = ((List.range 4).filter (newLn y)).length → Fr h₀ L h' m → News h₀ L h' ((D, LCg.lst ys) :: news) → Q (.ref D) { s₁ with heap := h', toks := tk }) :
    CompSrcT prog w A h₀ L m env ct elt x scope cl (fun s₂ => FinE h₀ L m s₂ Q) (.ref r) s₁ :=
  comp_filt (newLn y) hh F N hr step fun D h' tk ys hy F' N' _ => fin D h' tk ys hy F' N'
theorem not_in {D : Addr} {ys : List Value} {k : Nat} {y : Nat → Int} {i : Nat} {u : Tok} {news : Led9} (N : News h₀ L s.heap news) (hD : (D, Mine.lst ys k) ∈ news) (hi : IntsAre ys ((List.range i).map fun j => lnA y j)) (h4 : i < 4) (h : Q (.bool (newLn y i)) s) :
    wpAny (model prog w) A (compareOp .NotIn (.int ((plc (y i) false).fmod 32) u) (.ref D)) Q E s :=
  notin_list_ints ⟨_, (N _ hD).1, rfl, _, rfl⟩ hi (by rw [show (plc (y i) false).fmod 32 = lnA y i from rfl, new_eq h4 rfl]; exact h)
theorem len_new {D : Addr} {ys : List Value} {k : Nat} {y : Nat → Int} {news : Led9} (N : News h₀ L s.heap news) (hD : (D, Mine.lst ys k) ∈ news) (hy : ys.length = ((List.range 4).filter (newLn y)).length) (h : Q (.int (((List.range 4).filter (newLn y)).length : Int) (s.toks + 1)) { s with toks := s.toks + 1 + 1 }) :
    wpAny (model prog w) A (call (.builtin "len") [.ref D]) Q E s :=
  my_len N hD (by rw [hy]; exact Nat.lt_of_le_of_lt (List.length_filter_le _ _) (by simp)) (by rw [hy]; exact h)
theorem wendel_eq (y : Nat → Int) : (cnt y 16 : Int) = 2 * (((List.range 4).filter (newLn y)).length : Int) := by
  have := wendel y
  unfold newLn
  (first | lia | omega)
theorem eq_cnt {y : Nat → Int} {t u : Tok} (h : Q (.bool true) s) : wpAny (model prog w) A (compareOp .Eq (.int (cnt y 16 : Int) t) (.int (2 * (((List.range 4).filter (newLn y)).length : Int)) u)) Q E s := by
  refine eq_int ?_
  rw [wendel_eq, beq_self_eq_true]
  exact h
end
end
section
open PySem PySem.W PyProof.Rows PySem.Flt PySem.Spec PySem.Calls
def Stop9 : Prop := True
def Slim9 : Prop := True
def Tail9 : Prop := True
theorem useN {M : Model} {A : Around} {α : Type} {t : Sem α} {Q : α → Shared → Prop} {E : Value → Shared → Prop} {s : Shared} {h₀ : Heap} {L : Addr} {news : Led9} (N : News h₀ L s.heap news) (k : News h₀ L s.heap news → wpAny M A t Q E s) : wpAny M A t Q E s := k N
theorem nz_any {t : Nat → Tok} {k : Nat} (h : ∀ j, t j ≠ 0) : t k ≠ 0 := h k
theorem lt_head {q : Addr × Obj} {r : Led9} {d : Addr} (h : ∀ p ∈ q :: r, p.1 < d) : @LT.lt Nat _ q.1 d := h q (.head _)
local macro_rules | `(tactic| k_qdec) => `(tactic| first | (rw [PySem.W.Fast.te2458874890965802552]; decide +kernel) | (rw [PySem.W.Fast.te17448422675489707002, PySem.W.Fast.te821141287760084731]; decide +kernel))
theorem fillJ (w : World) (h : Heap) : PySem.Challenge.rw_pm0065_01.Holds → (hd.heap_39 w.params).In h → True := by
  k_fill
  intros; trivial
local macro_rules | `(tactic| k_all) => `(tactic| first | (with_reducible assumption) | (refine above_ne (by with_reducible assumption) ?_; (try dsimp only); first | (refine Nat.le_of_lt ?_; (repeat (first | (with_reducible assumption) | exact Nat.lt_succ_self _ | (refine' Nat.lt_trans ?_ ?_; rotate_left; with_reducible assumption) | (refine' Nat.lt_trans ?_ ?_; rotate_right; with_reducible assumption) | (refine Nat.lt_succ_of_lt ?_))); done) | omega))
local macro_rules | `(tactic| k_ne) => `(tactic| ((with_reducible rename Slim9 => hsl9); (refine neN ?_); (try dsimp only); first | (refine Nat.ne_of_gt ?_; (repeat (first | (with_reducible assumption) | exact Nat.lt_succ_self _ | (refine' Nat.lt_trans ?_ ?_; rotate_left; with_reducible assumption) | (refine' Nat.lt_trans ?_ ?_; rotate_right; with_reducible assumption) | (refine Nat.lt_succ_of_lt ?_))); done) | (refine Nat.ne_of_lt ?_; (repeat (first | (with_reducible assumption) | exact Nat.lt_succ_self _ | (refine' Nat.lt_trans ?_ ?_; rotate_left; with_reducible assumption) | (refine' Nat.lt_trans ?_ ?_; rotate_right; with_reducible assumption) | (refine Nat.lt_succ_of_lt ?_))); done) | omega))
local macro_rules | `(tactic| k_lt $h) => `(tactic| ((with_reducible rename Slim9 => hsl9); replace $h := lt_head $h; (try dsimp only at $h:ident)))
local macro_rules | `(tactic| k_mem) => `(tactic| ((with_reducible rename Tail9 => htl9); first | exact List.Mem.head _ | (refine' List.Mem.tail _ ?_; k_mem) | (refine Sub.mem (by with_reducible assumption) ?_; k_mem)))
set_option maxHeartbeats 8000000 in
theorem W0 : PySem.Challenge.rw_pm0065_01.Holds := hd (by
  k_go0
  (rename Shared => sb9)
  (all_goals try k_fold)
  (have slim9 : Slim9 := trivial)
  repeat' ((fail_if_success (with_reducible rename Stop9 => hs9)); first
    | (k_unfold; (try dsimp only))
    | (k_end; wrow_close)
    | (k_here; first
      | ((with_reducible show wpAny _ _ (exec (PySem.Stmt.For (PySem.Expr.Name _ _) (PySem.Expr.BinOp _ _ _ _) _ _ _) _) _ _ _); ((rename Fr _ _ _ _ => lF'); (with_unfolding_all refine' For_turns lF' ?_); k_whole))
      | ((with_reducible show wpAny _ _ (binaryOp PySem.Operator.Add (Value.ref _) (Value.ref _)) _ _ _); (k_dflt (refine' law_cat (by k_asm) (by k_asm) (by k_mem) (by k_mem) (by assumption) (by assumption) ?_); intro Z' h' y' t' F' N' l1; (try k_lt l1)))
      | ((with_reducible show wpAny _ _ (pyIter (Value.ref _)) _ _ _); ((with_reducible show wpAny _ _ (pyIter (Value.ref _)) (fun it s₂ => TurnsAt _ _ _ _ _ (PySem.Expr.Name _ _) _ _ _ it s₂) _ _); (with_unfolding_all refine' law_start (by with_unfolding_all rfl) (by with_unfolding_all k_asm) (by with_unfolding_all k_asm) (by with_unfolding_all rfl) (by with_unfolding_all rfl) (by with_unfolding_all rfl) (by with_unfolding_all rfl) (by with_unfolding_all rfl) (by k_dflt k_mem) (by k_dflt k_mem) (by k_dflt k_mem) (by k_dflt k_mem) (by k_dflt k_mem) (by k_dflt assumption) (by k_dflt assumption) (by k_dflt assumption) (by k_dflt assumption) (by with_unfolding_all assumption) (by k_dflt k_mem) (by k_dflt k_mem) (by k_dflt assumption) (by k_dflt assumption) (by k_dflt k_mem) (by k_dflt k_mem) (by with_unfolding_all rfl) (by k_dflt k_mem) (by k_dflt k_mem) (by k_dflt k_mem) (by k_dflt k_mem) (by k_dflt (((try dsimp only); omega))) (by k_dflt (((try dsimp only); omega))) ?_ ?_); all_goals (intro hA8; (have hA9 := Adr.l hA8); (have q0 := hA9.1); (have q1 := hA9.2.1); (have q2 := hA9.2.2.1); (have q3 := hA9.2.2.2.1); (have q4 := hA9.2.2.2.2.1); (have q5 := hA9.2.2.2.2.2.1); (have q6 := hA9.2.2.2.2.2.2.1); (have q7 := hA9.2.2.2.2.2.2.2.1); (have q8 := hA9.2.2.2.2.2.2.2.2.1); (have q9 := hA9.2.2.2.2.2.2.2.2.2.1); (have q10 := hA9.2.2.2.2.2.2.2.2.2.2); intros; (have stop9 : Stop9 := trivial))))
      | ((with_reducible show wpAny _ _ (execs (_ :: _) _) _ _ _); ((with_reducible refine gen_toks ?_); intro tk9 hp9; (with_reducible refine wpAny_execs_cons ?_); (try dsimp only); k_fold))
      | ((with_reducible show wpAny _ _ (execs [] _) _ _ _); ((with_reducible refine gen_toks ?_); intro tk9 hp9))
      | ((with_reducible show wpAny _ _ (subscriptTail _ _ _ _) _ _ _); ((with_reducible show wpAny _ _ (subscriptTail (PySem.Expr.List _ _) (PySem.Expr.Slice _ _ none _) (Value.ref _) (Value.ref _)) _ _ _); k_dflt (refine kba_turn (value' := PySem.Expr.Name (PySem.Str.ofString "x") ⟨0, 0, 0, 0⟩) (fun _ => rfl) ?_; refine' kmk_slice_ints (by k_asm) (by k_asm) (by kmk_list) (by kmk_part) (by kmk_part) (by exact dflt_ints) (by exact kmk_from dflt_ints (by omega)) (by exact rfl) ?_ (by with_unfolding_all rfl) (by exact fun _ => rfl) (by exact Nat.le_of_ble_eq_true rfl)); intro D' ws' h' F' N' l1 hI' hC' hL'; (try k_lt l1))))
    | walk1
    | (dsimp only; walk1)
    | (leave1; (try dsimp only)))
  · (with_reducible rename Stop9 => hs9; clear hs9); revert sb9; intro sb9; intros
    exact (by
      repeat' ((fail_if_success (with_reducible rename Stop9 => hs9)); first
        | (k_unfold; (try dsimp only))
        | (k_end; wrow_close)
        | (k_here; first
          | ((with_reducible show wpAny _ _ (compareOp PySem.CmpOp.NotEq (Value.ref _) (Value.ref _)) _ _ _); ((k_dflt (refine' tup_ne (by k_asm) (by k_mem) (by k_mem) (by exact none_booked (by k_asm) (by k_asm)) (by (first | assumption | exact Nat.succ_ne_zero _ | exact Nat.ne_of_gt (by assumption) | exact nz_any (by assumption))) (by (first | assumption | exact Nat.succ_ne_zero _ | exact Nat.ne_of_gt (by assumption) | exact nz_any (by assumption))) (by (first | assumption | exact Nat.succ_ne_zero _ | exact Nat.ne_of_gt (by assumption) | exact nz_any (by assumption))) (by (first | assumption | exact Nat.succ_ne_zero _ | exact Nat.ne_of_gt (by assumption) | exact nz_any (by assumption))) (by (first | assumption | exact Nat.succ_ne_zero _ | exact Nat.ne_of_gt (by assumption) | exact nz_any (by assumption))) (by (first | assumption | exact Nat.succ_ne_zero _ | exact Nat.ne_of_gt (by assumption) | exact nz_any (by assumption))) (by (first | with_unfolding_all decide | ktr_units)) (by (first | exact near_c1 (by assumption) | exact far_c1 (by assumption))) (by (first | exact near_c2 (by assumption) | exact far_c2 (by assumption))) (by (first | exact near_c3 (by assumption) | exact far_c3 (by assumption) (by assumption))) ?_))))
          | ((with_reducible show wpAny _ _ (binaryOp PySem.Operator.Add (Value.float _ _) (Value.int _ _)) _ _ _); (k_dflt (refine' my_addfi (by with_unfolding_all rfl) (by exact tau_f _) ?_)))
          | ((with_reducible show wpAny _ _ (binaryOp PySem.Operator.Div (Value.int _ _) (Value.int _ _)) _ _ _); (k_dflt (refine' my_div (by with_unfolding_all rfl) (by (first | exact dv1 _ | exact dv2 _ | exact dv3 _ | exact dv5 _ | exact dv6 (by assumption))) ?_)))
          | ((with_reducible show wpAny _ _ (setItem (Value.ref _) (Value.str _ _) _) _ _ _); first
            | (k_dflt (refine' kda_set (knd := PySem.strKind _ _) (by k_asm) (by k_asm) (by k_updF) (by assumption) (strKind_is _ _ _ _) (by (first | exact tab_zT (by assumption) (by assumption) | exact tab_zE (by assumption) (by assumption) | exact tab_zT1 (by assumption) (by assumption) | exact tab_zE1 (by assumption) (by assumption))) ?_); intro h' o' F' N' hd'; (try dsimp only at N'))
            | (k_dflt (refine' my_seti (by k_asm) (by k_asm) (by k_inst) (by k_is) (by k_is) (by k_is) ?_; k_whole)))
          | ((with_reducible show wpAny _ _ (PySem.call (Value.ref _) _ _) _ _ _); first
            | ((with_reducible show wpAny _ _ (PySem.call (Value.ref 68) _) _ _ _); (have stop9 : Stop9 := trivial))
            | ((with_reducible show wpAny _ _ (PySem.call (Value.ref 157) _) _ _ _); (refine useN (by k_dflt k_asm) ?_); intro lN9; (with_unfolding_all refine' c_get _ _ _ _ _ _ _ _ _ _ _ (by k_dflt (k_mem)) (by k_dflt (k_mem)) (by k_dflt (k_mem)) (by k_dflt (exact its_snoc (by repeat (first | (with_reducible exact hd_ent (by assumption)) | refine its_up ?_)) (by k_mem))) (by k_dflt (exact hd_nm2 (by assumption) (by assumption))) (by k_dflt (exact nm_Nm (by assumption))) (by k_dflt (exact clean_nm _ (by assumption))) (by k_dflt (exact hd_find (by assumption) (by assumption))) _ _ _ _ _ _ _ _ _ _ _ _ _ _ _ _ _ (by k_dflt k_asm) (by k_dflt k_asm) (by k_dflt k_asm) lN9 (by k_dflt k_asm) (by with_unfolding_all rfl) (by k_dflt ktr_room) (by k_dflt ktr_units) ?_); intro r9 own9 h9 tk9 ho9 F9 N9 l9; obtain ⟨e9, e8⟩ := ho9; subst e9; subst e8; (simp only [List.nil_append] at N9); (try dsimp only))
            | ((with_reducible show wpAny _ _ (PySem.call (Value.ref 123) _) _ _ _); (refine useN (by k_dflt k_asm) ?_); intro lN9; (with_unfolding_all refine' use_set (by k_dflt (k_mem)) (by k_dflt (k_mem)) (by k_dflt (k_updF)) (by k_dflt (k_mem)) (by k_dflt ((repeat (first | (with_reducible exact hd_ent (by assumption)) | refine its_up ?_)))) (by k_dflt (exact hd_nm (by assumption) (by assumption))) (by k_dflt (exact hd_sz (by assumption) (by assumption))) (by k_dflt (exact nm_Nm (by assumption))) (by k_dflt (exact clean_nm _ (by assumption))) (by k_dflt (exact clean_nm _ (by assumption))) (by k_dflt (exact clean_txt _ (plc_b _ _))) (by k_dflt (exact hd_filt (by assumption) (by assumption))) (by k_dflt k_asm) (by k_dflt k_asm) (by k_dflt k_asm) lN9 (by k_dflt k_asm) (by with_unfolding_all rfl) (by k_dflt ktr_room) (by k_dflt ktr_units) ?_); intro T9 n9 h9 tk9 F9 N9 l9; (try dsimp only at N9 l9); (try k_lt l9))
            | ((with_reducible show wpAny _ _ (PySem.call (Value.ref 45) _) _ _ _); (refine useN (by k_dflt k_asm) ?_); intro lN9; (with_unfolding_all refine' u_far _ (by k_dflt (first | assumption | exact Nat.succ_ne_zero _ | exact Nat.ne_of_gt (by assumption) | exact nz_any (by assumption))) (by k_dflt (first | assumption | exact Nat.succ_ne_zero _ | exact Nat.ne_of_gt (by assumption) | exact nz_any (by assumption))) (by k_dflt (first | assumption | exact Nat.succ_ne_zero _ | exact Nat.ne_of_gt (by assumption) | exact nz_any (by assumption))) (by k_dflt (assumption)) _ _ _ _ _ _ _ _ _ _ _ _ _ _ _ _ _ (by k_dflt k_asm) (by k_dflt k_asm) (by k_dflt k_asm) lN9 (by k_dflt k_asm) (by with_unfolding_all rfl) (by k_dflt ktr_room) (by k_dflt ktr_units) ?_); (intro r9 own9 h9 tk9 ho9 F9 N9 l9; obtain ⟨T9, c9, ct9, hc9, hz9, e9, e8⟩ := ho9; subst e9; subst e8; (have l8 := l9 _ (List.Mem.head _)); clear l9; (simp only [List.cons_append, List.nil_append] at N9); (try k_lt l8); (try dsimp only)))
            | ((with_reducible show wpAny _ _ (PySem.call (Value.ref 52) _) _ _ _); (refine useN (by k_dflt k_asm) ?_); intro lN9; (with_unfolding_all refine' u_near _ (by k_dflt (first | assumption | exact Nat.succ_ne_zero _ | exact Nat.ne_of_gt (by assumption) | exact nz_any (by assumption))) (by k_dflt (first | assumption | exact Nat.succ_ne_zero _ | exact Nat.ne_of_gt (by assumption) | exact nz_any (by assumption))) (by k_dflt (first | assumption | exact Nat.succ_ne_zero _ | exact Nat.ne_of_gt (by assumption) | exact nz_any (by assumption))) (by k_dflt (assumption)) _ _ _ _ _ _ _ _ _ _ _ _ _ _ _ _ _ (by k_dflt k_asm) (by k_dflt k_asm) (by k_dflt k_asm) lN9 (by k_dflt k_asm) (by with_unfolding_all rfl) (by k_dflt ktr_room) (by k_dflt ktr_units) ?_); (intro r9 own9 h9 tk9 ho9 F9 N9 l9; obtain ⟨T9, c9, ct9, hc9, hz9, e9, e8⟩ := ho9; subst e9; subst e8; (have l8 := l9 _ (List.Mem.head _)); clear l9; (simp only [List.cons_append, List.nil_append] at N9); (try k_lt l8); (try dsimp only)))
            | ((with_reducible show wpAny _ _ (PySem.call (Value.ref 59) _) _ _ _); (refine useN (by k_dflt k_asm) ?_); intro lN9; (with_unfolding_all refine' u_hsv _ (by k_dflt (first | assumption | exact Nat.succ_ne_zero _ | exact Nat.ne_of_gt (by assumption) | exact nz_any (by assumption))) (by k_dflt (first | assumption | exact Nat.succ_ne_zero _ | exact Nat.ne_of_gt (by assumption) | exact nz_any (by assumption))) (by k_dflt (first | assumption | exact Nat.succ_ne_zero _ | exact Nat.ne_of_gt (by assumption) | exact nz_any (by assumption))) (by k_dflt (exact hue_ex _)) (by k_dflt (exact share_ex _)) (by k_dflt (exact level_ex _)) _ _ _ _ _ _ _ _ _ _ _ _ _ _ _ _ _ (by k_dflt k_asm) (by k_dflt k_asm) (by k_dflt k_asm) lN9 (by k_dflt k_asm) (by with_unfolding_all rfl) (by k_dflt ktr_room) (by k_dflt ktr_units) ?_); (intro r9 own9 h9 tk9 ho9 F9 N9 l9; obtain ⟨T9, c9, ct9, hc9, hz9, e9, e8⟩ := ho9; subst e9; subst e8; (have l8 := l9 _ (List.Mem.head _)); clear l9; (simp only [List.cons_append, List.nil_append] at N9); (try k_lt l8); (try dsimp only))))
          | ((with_reducible show wpAny _ _ (PySem.call (Value.type "int") _ _) _ _ _); first
            | ((with_reducible show wpAny _ _ (PySem.call _ [Value.str _ _]) _ _ _); k_dflt (refine' my_intt (by exact plc_b _ _) ?_))
            | ((with_reducible show wpAny _ _ (PySem.call _ [Value.float _ _]) _ _ _); k_dflt (refine' my_intf (by with_unfolding_all rfl) (by (first | exact int_near (by assumption) | exact int_far (by assumption))) (by exact plc_b _ _) ?_)))
          | ((with_reducible show wpAny _ _ (PySem.call (Value.builtin "list.append") _ _) _ _ _); (k_dflt (refine' law_append (by k_asm) (by k_asm) (by k_updF) (by exact plc_z (by assumption) (by assumption)) ?_); intro h' F' N'; (try dsimp only at N')))
          | ((with_reducible show wpAny _ _ (PySem.call (Value.type "str") _ _) _ _ _); ((with_reducible show wpAny _ _ (PySem.call _ [Value.int _ _]) _ _ _); k_dflt (refine' my_str (by exact plc_b _ _) ?_)))
          | ((with_reducible show wpAny _ _ (PySem.call (Value.builtin "chr") _ _) _ _ _); (k_dflt (first | (refine' my_chrS (by (first | assumption | exact kk_lt _)) ?_) | (refine' my_chrG (by (first | assumption | exact kk_lt _)) ?_))))
          | ((with_reducible show wpAny _ _ (PySem.call (Value.builtin "len") _ _) _ _ _); (k_dflt (refine' law_len (by k_asm) (by k_mem) (by assumption) (by assumption) ?_)))
          | ((with_reducible show wpAny _ _ (PySem.call (Value.builtin "min") _ _) _ _ _); ((with_reducible show wpAny _ _ (PySem.call _ [Value.int _ _, Value.int _ _]) _ _ _); (with_unfolding_all refine' my_min (by with_unfolding_all rfl) (by k_dflt k_asm) (by k_dflt k_asm) (by k_dflt (first | exact Nat.succ_pos _ | assumption | ((try dsimp only); omega))) ?_); intro h' tk' mn' t' hmn' hp9 F' N'))
          | ((with_reducible show wpAny _ _ (assign (PySem.Expr.Tuple _ _ _) _ _) _ _ _); ((with_reducible show wpAny _ _ (assign (PySem.Expr.Tuple _ _ _) _ (Value.ref _)) _ _ _); k_dflt (refine' unpackN_ (by k_asm) (by k_asm) (by exact my_isTup (by k_asm) (by k_mem)) (by exact rfl) (by exact rfl) (by exact rfl) ?_); intro h' F' N'))
          | ((with_reducible show wpAny _ _ (execs (_ :: _) _) _ _ _); ((with_reducible refine gen_toks ?_); intro tk9 hp9; (with_reducible refine wpAny_execs_cons ?_); (try dsimp only); k_fold))
          | ((with_reducible show wpAny _ _ (execs [] _) _ _ _); ((with_reducible refine gen_toks ?_); intro tk9 hp9))
          | ((with_reducible show wpAny _ _ (subscriptTail _ _ _ _) _ _ _); first
            | ((with_reducible show wpAny _ _ (subscriptTail _ _ (Value.ref _) (Value.str _ _)) _ _ _); k_dflt (refine' kda_item (knd := PySem.strKind _ _) (by k_asm) (by k_mem) (by assumption) (strKind_is _ _ _ _) (by exact stored_two (by assumption)) ?_))
            | ((with_reducible show wpAny _ _ (subscriptTail _ _ (Value.ref _) (Value.int 0 _)) _ _ _); k_dflt (refine' my_item0 (by k_asm) (by k_mem) ?_ (by with_unfolding_all rfl)))))
        | walk1
        | (dsimp only; walk1)
        | (leave1; (try dsimp only)))
      (with_reducible rename Stop9 => hs9; clear hs9); revert sb9; intro sb9; intros
      exact (by
        repeat' ((fail_if_success (with_reducible rename Stop9 => hs9)); first
          | (k_unfold; (try dsimp only))
          | (k_end; wrow_close)
          | (k_here; first
            | ((with_reducible show wpAny _ _ (PySem.call (Value.ref _) _ _) _ _ _); ((with_reducible show wpAny _ _ (PySem.call (Value.ref 68) _) _ _ _); (refine useN (by k_dflt k_asm) ?_); intro lN9; (with_unfolding_all refine' use_insort (by k_dflt (k_mem)) (by k_dflt (k_updF)) (by k_dflt (exact Row1.isI (by assumption))) (by k_dflt (exact Row1.sorted (by assumption))) (by k_dflt (exact row_sz (by assumption) (by assumption))) (by k_dflt k_asm) (by k_dflt k_asm) (by k_dflt k_asm) lN9 (by k_dflt k_asm) (by with_unfolding_all rfl) (by k_dflt ktr_room) (by k_dflt ktr_units) ?_); intro rv9 ns9 h9 tk9 hI9 hS9 hP9 F9 N9; (try dsimp only at N9); (try dsimp only)))
            | ((with_reducible show wpAny _ _ (execs (_ :: _) _) _ _ _); ((with_reducible refine gen_toks ?_); intro tk9 hp9; (with_reducible refine wpAny_execs_cons ?_); (try dsimp only); k_fold))
            | ((with_reducible show wpAny _ _ (execs [] _) _ _ _); ((with_reducible refine gen_toks ?_); intro tk9 hp9)))
          | walk1
          | (dsimp only; walk1)
          | (leave1; (try dsimp only)))
        (k_dflt (refine' gp1_end (pre := [_, _, _, _, _, _, _, _, _, _, _, _, _]) ?gq_hq ?gq_F ?gq_N ?gq_pre ?gq_hi ?gq_hI ?gq_hIr ?gq_hR ?gq_hZ ?gq_dT ?gq_dE ?gq_dP ?gq_dR ?gq_dW ?gq_kD ?gq_kF ?gq_hm ?gq_H1 ?gq_H2 ?gq_H3 ?gq_H4 ?gq_hc ?gq_h1 ?gq_h2 ?gq_hT ?gq_r1 ?gq_r2 ?gq_r3 ?gq_e; (case gq_hq => assumption); (case gq_F => assumption); (case gq_N => assumption); (case gq_hi => assumption); (case gq_hI => with_reducible assumption); (case gq_hIr => with_reducible assumption); (case gq_hR => with_reducible assumption); (case gq_hZ => with_reducible assumption); (case gq_dT => assumption); (case gq_dE => assumption); (case gq_dP => assumption); (case gq_dR => assumption); (case gq_dW => assumption); (case gq_kD => with_reducible assumption); (case gq_kF => with_reducible assumption); (case gq_H1 => with_reducible assumption); (case gq_H2 => with_reducible assumption); (case gq_H3 => with_reducible assumption); (case gq_H4 => with_reducible assumption); (case gq_hc => with_reducible assumption); (case gq_h1 => k_mem); (case gq_h2 => k_mem); (case gq_hT => k_mem); (case gq_r1 => with_reducible assumption); (case gq_r2 => with_reducible assumption); (case gq_r3 => with_reducible assumption); (case gq_pre => (repeat (first | exact True.intro | (refine And.intro (by with_reducible assumption) ?_)))); (case gq_e => exact rfl); (case gq_hm => (intro z hz; (repeat (first | exact rfl | refine (if_neg (w1_ne hz (by decide))).trans ?_ | refine ite_ch (by with_reducible assumption) ?_))))))))
  · (with_reducible rename Stop9 => hs9; clear hs9); revert sb9; intro sb9; intros
    exact (by
      (with_reducible rename Slim9 => hsl9; clear hsl9)
      repeat' ((fail_if_success (with_reducible rename Stop9 => hs9)); first
        | (k_unfold; (try dsimp only))
        | (k_end; wrow_close)
        | (k_here; first
          | ((with_reducible show wpAny _ _ (exec (PySem.Stmt.For (PySem.Expr.Name _ _) (PySem.Expr.List _ _) _ _ _) _) _ _ _); ((rename Fr _ _ _ _ => lF'); (with_reducible refine For_turns lF' ?_ (by k_dflt (exact fun _ => rfl)) (by k_dflt passes_own))))
          | ((with_reducible show wpAny _ _ (pyIter (Value.ref _)) _ _ _); ((with_reducible show wpAny _ _ (pyIter (Value.ref _)) (fun it s₂ => TurnsAt _ _ _ _ _ (PySem.Expr.Name _ _) _ _ _ it s₂) _ _); k_dflt (refine' law_loop2 (by with_unfolding_all rfl) (by k_asm) (by k_asm) (by exact rfl) (by (repeat (first | exact IntsAre.nil | refine IntsAre.cons _ _ ?_))) (by with_reducible assumption) (by omega) (by with_reducible assumption) (by with_reducible assumption) (by exact if_pos rfl) (by with_unfolding_all rfl) (by with_reducible assumption) (by with_reducible assumption) (by with_reducible assumption) ?_ ?_); (all_goals (intros; (have stop9 : Stop9 := trivial)))))
          | ((with_reducible show wpAny _ _ (execs (_ :: _) _) _ _ _); ((with_reducible refine gen_toks ?_); intro tk9 hp9; (with_reducible refine wpAny_execs_cons ?_); (try dsimp only); k_fold))
          | ((with_reducible show wpAny _ _ (execs [] _) _ _ _); ((with_reducible refine gen_toks ?_); intro tk9 hp9)))
        | walk1
        | (dsimp only; walk1)
        | (leave1; (try dsimp only)))
      · (with_reducible rename Stop9 => hs9; clear hs9); revert sb9; intro sb9; intros
        exact (by
          (have slim9 : Slim9 := trivial)
          repeat' ((fail_if_success (with_reducible rename Stop9 => hs9)); first
            | (k_unfold; (try dsimp only))
            | (k_end; wrow_close)
            | (k_here; first
              | ((with_reducible show wpAny _ _ (binaryOp PySem.Operator.Add (Value.ref _) (Value.ref _)) _ _ _); (k_dflt (refine' wheel_cat (by k_asm) (by k_asm) (by k_mem) (by exact Row2.isI (by with_reducible assumption)) (by with_reducible assumption) (by exact row2_b (by with_reducible assumption)) ?_); intro Z' h' ws' hI' F' N' l1; (try k_lt l1)))
              | ((with_reducible show wpAny _ _ (eval (PySem.Expr.ListComp _ _ _ _) _) _ _ _); ((with_reducible show wpAny _ _ (eval (PySem.Expr.ListComp (PySem.Expr.BinOp _ _ _ _) _ _ _) _) _ _ _); k_dflt (refine LCg.ListComp_U (F₀ := by k_asm) (by with_unfolding_all rfl) (by decide) (by rfl) (by decide) (by rfl) ?_)))
              | ((with_reducible show wpAny _ _ (execs (_ :: _) _) _ _ _); first
                | ((with_reducible show wpAny _ _ (execs (_ :: _ :: _ :: _ :: _ :: PySem.Stmt.Assign [PySem.Expr.Tuple _ _ _] _ _ :: _) _) _ _ _); k_dflt (refine' cut2 (by k_asm) (by with_unfolding_all rfl) ?_ (by k_asm) (by with_reducible assumption) (by assumption) ?_); (all_goals (intros; (have stop9 : Stop9 := trivial))))
                | ((with_reducible refine gen_toks ?_); intro tk9 hp9; (with_reducible refine wpAny_execs_cons ?_); (try dsimp only); k_fold))
              | ((with_reducible show wpAny _ _ (execs [] _) _ _ _); ((with_reducible refine gen_toks ?_); intro tk9 hp9))
              | ((with_reducible show LCg.CompSrc _ _ _ _ _ _ _ _ _ _ _ _ _ _); (k_dflt (refine' comp_plus (by exact rfl) (by k_asm) (by k_asm) (by k_mem) (by exact Row2.isI (by with_reducible assumption)) (by exact (row2_a (by with_reducible assumption)).1) (by exact (row2_a (by with_reducible assumption)).2) ?_ ?_))))
            | ((with_reducible show VEnd _ _ _ _ _ _ _ _); (refine' vend (by k_dflt (k_asm)) (by k_dflt (k_asm)) (by k_dflt (exact ⟨_, rfl⟩))))
            | walk1
            | (dsimp only; walk1)
            | (leave1; (try dsimp only)))
          · (with_reducible rename Stop9 => hs9; clear hs9); revert sb9; intro sb9; intros
            exact (by
              repeat' ((fail_if_success (with_reducible rename Stop9 => hs9)); first
                | (k_unfold; (try dsimp only))
                | (k_end; wrow_close)
                | (k_here; first
                  | ((with_reducible show wpAny _ _ (subscriptTail (PySem.Expr.Name _ _) (PySem.Expr.Name _ _) (Value.ref _) (Value.int _ _)) _ _ _); (k_dflt (refine' row_item (by k_asm) (by k_mem) (by exact Row2.isI (by with_reducible assumption)) (by with_reducible assumption) (by exact row2_sz (by with_reducible assumption)) ?_ (by with_unfolding_all rfl)); intro t'))
                  | ((with_reducible show wpAny _ _ (compareOp PySem.CmpOp.NotEq (Value.ref _) (Value.ref _)) _ _ _); first
                    | ((k_dflt (refine' tup_ne (by k_asm) (by k_mem) (by k_mem) (by exact none_booked (by k_asm) (by k_asm)) (by (first | assumption | exact Nat.succ_ne_zero _ | exact Nat.ne_of_gt (by assumption) | exact nz_any (by assumption))) (by (first | assumption | exact Nat.succ_ne_zero _ | exact Nat.ne_of_gt (by assumption) | exact nz_any (by assumption))) (by (first | assumption | exact Nat.succ_ne_zero _ | exact Nat.ne_of_gt (by assumption) | exact nz_any (by assumption))) (by (first | assumption | exact Nat.succ_ne_zero _ | exact Nat.ne_of_gt (by assumption) | exact nz_any (by assumption))) (by (first | assumption | exact Nat.succ_ne_zero _ | exact Nat.ne_of_gt (by assumption) | exact nz_any (by assumption))) (by (first | assumption | exact Nat.succ_ne_zero _ | exact Nat.ne_of_gt (by assumption) | exact nz_any (by assumption))) (by (first | with_unfolding_all decide | ktr_units)) (by exact cmp_zero) (by assumption) (by exact cmp_zero) ?_)))
                    | (k_dflt (refine' ne_nil (by k_asm) (by k_mem) (by k_mem) (by with_reducible assumption) (by (first | with_unfolding_all decide | ktr_units)) ?_)))
                  | ((with_reducible show wpAny _ _ (compareOp PySem.CmpOp.Eq (Value.ref _) (Value.ref _)) _ _ _); (k_dflt (first | (refine' eq_nil (b := true) (by k_asm) (by k_mem) (by k_mem) (by exact ⟨fun _ => rfl, fun _ => rfl⟩) (by (first | with_unfolding_all decide | ktr_units)) ?_) | (refine' eq_nil (b := false) (by k_asm) (by k_mem) (by k_mem) (by exact ⟨fun h => (by cases h), fun h => (by cases h)⟩) (by (first | with_unfolding_all decide | ktr_units)) ?_))))
                  | ((with_reducible show wpAny _ _ (binaryOp PySem.Operator.Add (Value.ref _) (Value.ref _)) _ _ _); (k_dflt (refine' wheel_cat (by k_asm) (by k_asm) (by k_mem) (by exact Row2.isI (by with_reducible assumption)) (by with_reducible assumption) (by exact row2_b (by with_reducible assumption)) ?_); intro Z' h' ws' hI' F' N' l1; (try k_lt l1)))
                  | ((with_reducible show wpAny _ _ (PySem.call (Value.ref _) _ _) _ _ _); first
                    | ((with_reducible show wpAny _ _ (PySem.call (Value.ref 45) _) _ _ _); (refine useN (by k_dflt k_asm) ?_); intro lN9; (with_unfolding_all refine' use_grey (by with_reducible assumption) (by with_reducible assumption) (by k_dflt k_asm) (by k_dflt k_asm) (by k_dflt k_asm) lN9 (by k_dflt k_asm) (by with_unfolding_all rfl) (by k_dflt ktr_room) (by k_dflt ktr_units) (by k_dflt (first | assumption | exact Nat.succ_pos _)) ?_); intro T9 l9 ta9 tb9 tc9 h9 tk9 hp9 za9 zb9 zc9 hc9 F9 N9; (try dsimp only))
                    | ((with_reducible show wpAny _ _ (PySem.call (Value.ref 219) _) _ _ _); (refine useN (by k_dflt k_asm) ?_); intro lN9; (with_unfolding_all refine' use_mix (by with_reducible assumption) (by k_dflt (exact Nat.lt_succ_of_lt (by with_reducible assumption))) (by with_reducible assumption) (by k_dflt (k_mem)) (by k_dflt ((repeat (first | exact fun _ hq => hq | refine sub_mem ?_)))) (by k_dflt k_asm) (by k_dflt k_asm) (by k_dflt k_asm) lN9 (by k_dflt k_asm) (by with_unfolding_all rfl) (by k_dflt ktr_room) (by k_dflt ktr_units) ?_ ?_); all_goals (intro e9; subst e9; intros; (try dsimp only)))
                    | ((with_reducible show wpAny _ _ (PySem.call (Value.ref 162) _) _ _ _); (rename Hd2 _ _ _ _ => hd9); (refine useN (by k_dflt k_asm) ?_); intro lN9; (with_unfolding_all refine' use_keys (by k_dflt (k_mem)) (by k_dflt (k_mem)) (by k_dflt (k_mem)) (by with_reducible assumption) (by k_dflt (exact Nat.lt_succ_of_lt (by with_reducible assumption))) (by k_dflt ((repeat (first | exact fun _ hq => hq | refine sub_mem ?_)))) (by k_dflt k_asm) (by k_dflt k_asm) (by k_dflt k_asm) lN9 (by k_dflt k_asm) (by with_unfolding_all rfl) (by k_dflt ktr_room) (by k_dflt ktr_units) ?_); intro D9 h9 tk9 F9 N9; (try dsimp only))
                    | ((with_reducible show wpAny _ _ (PySem.call (Value.ref 77) [_, _, _]) _ _ _); (refine useN (by k_dflt k_asm) ?_); intro lN9; (with_unfolding_all refine' use_bis3 (by k_dflt (k_mem)) (by with_reducible assumption) (by with_reducible assumption) (by with_reducible assumption) (by k_dflt k_asm) (by k_dflt k_asm) (by k_dflt k_asm) lN9 (by k_dflt k_asm) (by with_unfolding_all rfl) (by k_dflt ktr_room) (by k_dflt ktr_units) ?_); intro kk9 t9 h9 tk9 hg9 F9 N9; (try dsimp only)))
                  | ((with_reducible show wpAny _ _ (eval (PySem.Expr.ListComp _ _ _ _) _) _ _ _); first
                    | ((with_reducible show wpAny _ _ (eval (PySem.Expr.ListComp (PySem.Expr.Subscript _ _ _) _ _ _) _) _ _ _); k_dflt (refine LCg.ListComp_U (F₀ := by k_asm) (by with_unfolding_all rfl) (by decide) (by rfl) (by decide) (by rfl) ?_); (rename Tab1 _ _ _ _ _ => hT9); (rename _ < 16 => hn9); obtain ⟨ts9, cf9, kf9, hE9⟩ := ends_of hT9 (Nat.lt_succ_of_lt hn9))
                    | ((with_reducible show wpAny _ _ (eval (PySem.Expr.ListComp _ [PySem.Comprehension.mk _ _ [_] _] _ _) _) _ _ _); k_dflt (refine LCt.ListComp_T (F₀ := by k_asm) (by with_unfolding_all rfl) (by decide) (by rfl) (by decide) (by rfl) ?_))
                    | ((with_reducible show wpAny _ _ (eval (PySem.Expr.ListComp (PySem.Expr.BinOp _ _ _ _) _ _ _) _) _ _ _); k_dflt (refine LCg.ListComp_U (F₀ := by k_asm) (by with_unfolding_all rfl) (by decide) (by rfl) (by decide) (by rfl) ?_)))
                  | ((with_reducible show wpAny _ _ (execs (_ :: _) _) _ _ _); ((with_reducible refine gen_toks ?_); intro tk9 hp9; (with_reducible refine wpAny_execs_cons ?_); (try dsimp only); k_fold))
                  | ((with_reducible show wpAny _ _ (execs [] _) _ _ _); ((with_reducible refine gen_toks ?_); intro tk9 hp9))
                  | ((with_reducible show wpAny _ _ (subscriptTail _ _ _ _) _ _ _); first
                    | ((with_reducible show wpAny _ _ (subscriptTail _ _ (Value.ref _) (Value.int _ _)) _ _ _); k_dflt (refine' f3_item (by k_asm) (by k_mem) (by (first | exact .inl rfl | exact .inr (.inl rfl) | exact .inr (.inr rfl))) ?_ (by with_unfolding_all rfl)))
                    | ((with_reducible show wpAny _ _ (subscriptTail _ _ (Value.ref _) (Value.str _ _)) _ _ _); k_dflt (refine' kda_item (knd := PySem.strKind _ _) (by k_asm) (by k_mem) (by assumption) (strKind_is _ _ _ _) (by with_reducible assumption) ?_)))
                  | ((with_reducible show LCg.CompSrc _ _ _ _ _ _ _ _ _ _ _ _ _ _); first
                    | (k_dflt (refine' comp_cols (by with_reducible assumption) (by with_reducible assumption) (by exact Nat.lt_succ_of_lt (by with_reducible assumption)) (by exact rfl) (by k_asm) (by k_asm) (by k_mem) ?_ ?_))
                    | (k_dflt (refine' comp_plus (by exact rfl) (by k_asm) (by k_asm) (by k_mem) (by exact Row2.isI (by with_reducible assumption)) (by exact (row2_a (by with_reducible assumption)).1) (by exact (row2_a (by with_reducible assumption)).2) ?_ ?_)))
                  | ((with_reducible show LCt.CompSrcT _ _ _ _ _ _ _ _ _ _ _ _ _ _ _); (k_dflt (refine' comp_sided (by with_reducible assumption) (by exact rfl) (by k_asm) (by k_asm) (by assumption) ?_ ?_))))
                | ((with_reducible show VEnd _ _ _ _ _ _ _ _); (refine' vend (by k_dflt (k_asm)) (by k_dflt (k_asm)) (by k_dflt (exact rfl))))
                | ((with_reducible show VEnd _ _ _ _ _ _ _ _); (refine' vend (by k_dflt (k_asm)) (by k_dflt (k_asm)) (by k_dflt (first | exact ps_yes (by with_reducible assumption) (by with_reducible assumption) (by with_reducible assumption) (by with_reducible assumption) | exact ps_no (by with_reducible assumption) (by with_reducible assumption) (by with_reducible assumption) (by with_reducible assumption)))))
                | ((with_reducible show VEnd _ _ _ _ _ _ _ _); (refine' vend (by k_dflt (k_asm)) (by k_dflt (k_asm)) (by k_dflt (exact ⟨_, rfl⟩))))
                | walk1
                | (dsimp only; walk1)
                | (leave1; (try dsimp only)))
              all_goals (k_dflt (refine' mid_end ?mq_hq ?mq_F ?mq_N ?mq_hs ?mq_dW ?mq_hm ?mq_hc ?mq_hx ?mq_hk ?mq_e; (case mq_hq => assumption); (case mq_F => k_asm); (case mq_N => k_asm); (case mq_hs => (repeat (first | exact fun _ hp => hp | refine sub_mem ?_))); (case mq_dW => assumption); (case mq_hx => with_reducible assumption); (case mq_hk => with_unfolding_all rfl); (case mq_e => exact rfl); (case mq_hc => first | exact cnt_t (by with_reducible assumption) | exact cnt_f (by with_reducible assumption)); (case mq_hm => (intro z hz1 hz2; (repeat (first | exact rfl | refine (if_neg hz1).trans ?_ | refine (if_neg (w1_ne hz2 (by decide))).trans ?_ | refine ite_ch (by with_reducible assumption) ?_)))))))
          · (with_reducible rename Stop9 => hs9; clear hs9); revert sb9; intro sb9; intros
            exact (by
              repeat' ((fail_if_success (with_reducible rename Stop9 => hs9)); first
                | (k_unfold; (try dsimp only))
                | (k_end; wrow_close)
                | (k_here; first
                  | ((with_reducible show wpAny _ _ (setItem (Value.ref _) (Value.str _ _) _) _ _ _); (k_dflt (refine' my_seti (by k_asm) (by k_asm) (by k_inst) (by k_is) (by k_is) (by k_is) ?_; k_whole)))
                  | ((with_reducible show wpAny _ _ (PySem.call (Value.ref _) _ _) _ _ _); first
                    | ((with_reducible show wpAny _ _ (PySem.call (Value.ref 68) _) _ _ _); (refine useN (by k_dflt k_asm) ?_); intro lN9; (with_unfolding_all refine' use_insort (by k_dflt (k_mem)) (by k_dflt (k_updF)) (by k_dflt (exact RowM.isI (by with_reducible assumption))) (by k_dflt (exact RowM.sorted (by with_reducible assumption))) (by k_dflt (exact rowM_sz (by with_reducible assumption))) (by k_dflt k_asm) (by k_dflt k_asm) (by k_dflt k_asm) lN9 (by k_dflt k_asm) (by with_unfolding_all rfl) (by k_dflt ktr_room) (by k_dflt ktr_units) ?_); intro rv9 ns9 h9 tk9 hI9 hS9 hP9 F9 N9; (try dsimp only at N9); (try dsimp only))
                    | ((with_reducible show wpAny _ _ (PySem.call (Value.ref 157) _) _ _ _); (rename Hd2 _ _ _ _ => hd9); (refine useN (by k_dflt k_asm) ?_); intro lN9; (with_unfolding_all refine' use_get2 (by k_dflt (k_mem)) (by k_dflt (k_mem)) (by k_dflt (k_mem)) (by with_reducible assumption) (by with_reducible assumption) (by k_dflt ((repeat (first | exact fun _ hq => hq | refine sub_mem ?_)))) (by k_dflt (k_mem)) (by k_dflt k_asm) (by k_dflt k_asm) (by k_dflt k_asm) lN9 (by k_dflt k_asm) (by with_unfolding_all rfl) (by k_dflt ktr_room) (by k_dflt ktr_units) ?_); intro t9 h9 tk9 F9 N9; (try dsimp only))
                    | ((with_reducible show wpAny _ _ (PySem.call (Value.ref 123) _) _ _ _); (rename Hd2 _ _ _ _ => hd9); (refine useN (by k_dflt k_asm) ?_); intro lN9; (with_unfolding_all refine' use_set (by k_dflt (k_mem)) (by k_dflt (k_mem)) (by k_dflt (k_updF)) (by k_dflt (k_mem)) (by k_dflt ((repeat (first | (with_reducible exact Hd2.mem (by assumption)) | refine its_up ?_)))) (by k_dflt (exact hd2_nm (by with_reducible assumption) (Nat.lt_succ_of_lt (by with_reducible assumption)))) (by k_dflt (exact hd2_sz (by with_reducible assumption) (Nat.lt_succ_of_lt (by with_reducible assumption)))) (by k_dflt (exact nm_Nm (kk_lt _))) (by k_dflt (exact clean_nm _ (kk_lt _))) (by k_dflt (exact clean_nm _ (kk_lt _))) (by k_dflt (exact clean_txt _ (plc_b _ _))) (by k_dflt (exact rfl)) (by k_dflt k_asm) (by k_dflt k_asm) (by k_dflt k_asm) lN9 (by k_dflt k_asm) (by with_unfolding_all rfl) (by k_dflt ktr_room) (by k_dflt ktr_units) ?_); intro T9 n9 h9 tk9 F9 N9 l9; (try dsimp only at N9 l9); (try k_lt l9))
                    | ((with_reducible show wpAny _ _ (PySem.call (Value.ref 77) [_, _]) _ _ _); (refine useN (by k_dflt k_asm) ?_); intro lN9; (with_unfolding_all refine' c_bisect2 _ _ _ _ _ _ _ (by k_dflt (k_mem)) (by k_dflt (exact Row2.isI (by with_reducible assumption))) (by k_dflt (exact Nat.lt_trans (row2_a (by with_reducible assumption)).1 (by decide))) (by k_dflt (exact Row2.sorted (by with_reducible assumption))) _ _ _ _ _ _ _ _ _ _ _ _ _ _ _ _ _ (by k_dflt k_asm) (by k_dflt k_asm) (by k_dflt k_asm) lN9 (by k_dflt k_asm) (by with_unfolding_all rfl) (by k_dflt ktr_room) (by k_dflt ktr_units) ?_); (intro r9 own9 h9 tk9 ho9 F9 N9 l9; obtain ⟨e9, k9, t9, e8, G9⟩ := ho9; subst e9; subst e8; (try simp only [List.nil_append] at N9); (try dsimp only)))
                    | ((with_reducible show wpAny _ _ (PySem.call (Value.ref 157) _) _ _ _); (rename Hd2 _ _ _ _ => hd9); (refine useN (by k_dflt k_asm) ?_); intro lN9; (with_unfolding_all refine' use_get (by k_dflt (k_mem)) (by k_dflt (k_mem)) (by k_dflt (k_mem)) (by with_reducible assumption) (by k_dflt (exact Nat.lt_succ_of_lt (by with_reducible assumption))) (by k_dflt (exact kk_lt _)) (by k_dflt ((repeat (first | exact fun _ hq => hq | refine sub_mem ?_)))) (by k_dflt k_asm) (by k_dflt k_asm) (by k_dflt k_asm) lN9 (by k_dflt k_asm) (by with_unfolding_all rfl) (by k_dflt ktr_room) (by k_dflt ktr_units) ?_); intro t9 h9 tk9 F9 N9; (try dsimp only)))
                  | ((with_reducible show wpAny _ _ (PySem.call (Value.builtin "list.pop") _ _) _ _ _); (k_dflt (refine' my_pop (by k_asm) (by k_asm) (by k_updF) (by with_reducible assumption) (by with_reducible assumption) ?_); intro h9 v9 rv9 ns9 R9 F9 N9; (try dsimp only at N9)))
                  | ((with_reducible show wpAny _ _ (PySem.call (Value.type "int") _ _) _ _ _); ((with_reducible show wpAny _ _ (PySem.call _ [Value.str _ _]) _ _ _); k_dflt (refine' my_intt (by exact plc_b _ _) ?_)))
                  | ((with_reducible show wpAny _ _ (execs (_ :: _) _) _ _ _); ((with_reducible refine gen_toks ?_); intro tk9 hp9; (with_reducible refine wpAny_execs_cons ?_); (try dsimp only); k_fold))
                  | ((with_reducible show wpAny _ _ (execs [] _) _ _ _); ((with_reducible refine gen_toks ?_); intro tk9 hp9))
                  | ((with_reducible show wpAny _ _ (PySem.call (Value.builtin "chr") _ _) _ _ _); (k_dflt (first | (refine' my_chrS (by (first | assumption | exact kk_lt _)) ?_) | (refine' my_chrG (by (first | assumption | exact kk_lt _)) ?_))))
                  | ((with_reducible show @ite _ _ _ _ _); ((with_reducible show @ite _ _ _ (wpAny _ _ (eval (PySem.Expr.Name _ _) _) _ _ _) (wpAny _ _ (eval (PySem.Expr.Name _ _) _) _ _ _)); k_dflt (refine' eq_name (by (first | exact beq_iff_eq | exact Iff.rfl | exact decide_eq_true_iff)) (by (intro hq9; refine' nameX_L (by k_asm) (by rfl) hq9 (by rfl) (by rfl))) (by (intro hq9; refine' nameX_L (by k_asm) (by rfl) hq9 (by rfl) (by rfl))) ?_); intro t9; (try dsimp only)))
                  | ((with_reducible show wpAny _ _ (subscriptTail _ _ _ _) _ _ _); ((with_reducible show wpAny _ _ (subscriptTail _ _ (Value.ref _) (Value.str _ _)) _ _ _); k_dflt (refine' tx_item (by with_reducible assumption) (by exact kk_lt _) (by k_asm) (by k_mem) (by assumption) ?_ (by with_unfolding_all rfl) (by (intro _; with_unfolding_all rfl))); intro t9; (try dsimp only))))
                | walk1
                | (dsimp only; walk1)
                | (leave1; (try dsimp only)))
              (k_dflt (refine' e2_end ?eq_hq ?eq_F ?eq_N ?eq_hs ?eq_hT ?eq_hI ?eq_hIT ?eq_dW ?eq_hR ?eq_off ?eq_hZ ?eq_hn ?eq_hm ?eq_hc ?eq_Tb ?eq_H ?eq_R ?eq_r1 ?eq_r2 ?eq_r3 ?eq_e; (case eq_hq => assumption); (case eq_F => assumption); (case eq_N => assumption); (case eq_H => with_reducible assumption); (case eq_R => with_reducible assumption); (case eq_hs => (repeat (first | exact fun _ hp => hp | refine sub_mem ?_))); (case eq_hT => k_mem); (case eq_hI => with_reducible assumption); (case eq_hIT => omega); (case eq_dW => assumption); (case eq_hR => with_reducible assumption); (case eq_off => with_reducible assumption); (case eq_hZ => with_reducible assumption); (case eq_hn => with_reducible assumption); (case eq_hc => with_unfolding_all rfl); (case eq_Tb => with_reducible assumption); (case eq_r1 => with_reducible assumption); (case eq_r2 => with_reducible assumption); (case eq_r3 => with_reducible assumption); (case eq_e => exact rfl); (case eq_hm => (intro z hz1 hz2; (repeat (first | exact rfl | refine (if_neg hz1).trans ?_ | refine (if_neg (w1_ne hz2 (by decide))).trans ?_ | refine ite_ch (by with_reducible assumption) ?_))))))))
      · (with_reducible rename Stop9 => hs9; clear hs9); revert sb9; intro sb9; intros
        exact (by
          (have tail9 : Tail9 := trivial)
          repeat' ((fail_if_success (with_reducible rename Stop9 => hs9)); first
            | (k_unfold; (try dsimp only))
            | (k_end; wrow_close)
            | (k_here; first
              | ((with_reducible show wpAny _ _ (subscriptTail (PySem.Expr.Name _ _) (PySem.Expr.Slice _ _ _ _) (Value.ref _) (Value.ref _)) _ _ _); ((with_reducible show wpAny _ _ (subscriptTail (PySem.Expr.Name _ _) (PySem.Expr.Slice _ _ _ _) (Value.ref _) (Value.ref _)) _ _ _); (rename Plc1 _ _ _ => pl9); k_dflt (refine' kms_slice_lit (by k_asm) (by k_asm) (by kmk_list) (by kmk_part) (by kmk_part) (by exact pick_take _ _) ?_ (by with_unfolding_all rfl) (by exact fun _ => rfl) (by (rw [List.size_toArray, plc_len (by with_reducible assumption), sizeLine_eq]; decide))); intro D' h' F' N' l1))
              | ((with_reducible show wpAny _ _ (subscriptTail (PySem.Expr.Name _ _) (PySem.Expr.Name _ _) (Value.ref _) (Value.int _ _)) _ _ _); (k_dflt (refine' plc_item (by k_asm) (by k_mem) (by with_reducible assumption) (by with_reducible assumption) ?_ (by with_unfolding_all rfl)); intro t'))
              | ((with_reducible show wpAny _ _ (subscriptTail (PySem.Expr.Name _ _) (PySem.Expr.Name _ _) (Value.ref _) (Value.str _ _)) _ _ _); ((with_reducible show wpAny _ _ (subscriptTail _ _ (Value.ref _) (Value.str _ _)) _ _ _); k_dflt (refine' tx_item (by with_reducible assumption) (by exact pj_lt _) (by k_asm) (by k_mem) (by assumption) ?_ (by with_unfolding_all rfl) (by (intro _; with_unfolding_all rfl))); intro t9; (try dsimp only)))
              | ((with_reducible show wpAny _ _ (compareOp PySem.CmpOp.Eq (Value.int _ _) (Value.int _ _)) _ _ _); (k_dflt (refine' eq_cnt ?_)))
              | ((with_reducible show wpAny _ _ (compareOp PySem.CmpOp.NotIn (Value.int _ _) (Value.ref _)) _ _ _); (k_dflt (refine' not_in (by k_asm) (by k_mem) (by with_reducible assumption) (by with_reducible assumption) ?_)))
              | ((with_reducible show wpAny _ _ (compareOp PySem.CmpOp.NotEq (Value.ref _) (Value.ref _)) _ _ _); (k_dflt (refine' items_ne (by k_asm) (by k_mem) (by k_mem) (by with_reducible assumption) (by with_reducible assumption) (by (intro q9 hq9; (repeat (first | exact hq9 | refine List.Mem.tail _ ?_ | refine Sub.mem (by with_reducible assumption) ?_)))) (by (intro q9 hq9; (repeat (first | exact hq9 | refine List.Mem.tail _ ?_ | refine Sub.mem (by with_reducible assumption) ?_)))) (by (first | with_unfolding_all decide | ktr_units)) ?_)))
              | ((with_reducible show wpAny _ _ (PySem.call (Value.builtin "len") _ _) _ _ _); (k_dflt (refine' len_new (by k_asm) (by k_mem) (by with_reducible assumption) ?_)))
              | ((with_reducible show wpAny _ _ (eval (PySem.Expr.ListComp _ _ _ _) _) _ _ _); first
                | ((with_reducible show wpAny _ _ (eval (PySem.Expr.ListComp (PySem.Expr.BinOp _ _ _ _) _ _ _) _) _ _ _); k_dflt (refine LCg.ListComp_U (F₀ := by k_asm) (by with_unfolding_all rfl) (by decide) (by rfl) (by decide) (by rfl) ?_))
                | ((with_reducible show wpAny _ _ (eval (PySem.Expr.ListComp (PySem.Expr.Name _ _) [PySem.Comprehension.mk _ _ [_] _] _ _) _) _ _ _); k_dflt (refine LCt.ListComp_T (F₀ := by k_asm) (by with_unfolding_all rfl) (by decide) (by rfl) (by decide) (by rfl) ?_))
                | ((with_reducible show wpAny _ _ (eval (PySem.Expr.ListComp (PySem.Expr.Tuple _ _ _) [PySem.Comprehension.mk _ (PySem.Expr.Constant _ _ _) _ _] _ _) _) _ _ _); k_dflt (refine ListComp_S (by k_asm) (by with_unfolding_all rfl) (by decide) (by rfl) (by decide) (by rfl) ?_)))
              | ((with_reducible show wpAny _ _ (PySem.call (Value.ref _) _ _) _ _ _); ((with_reducible show wpAny _ _ (PySem.call (Value.ref 174) _) _ _ _); (refine useN (by k_dflt k_asm) ?_); intro lN9; (with_unfolding_all refine' use_items (by k_dflt (k_mem)) (by k_dflt (k_mem)) (by k_dflt (k_mem)) (by with_reducible assumption) (by k_dflt (decide)) (by k_dflt k_asm) (by k_dflt k_asm) (by k_dflt k_asm) lN9 (by k_dflt k_asm) (by with_unfolding_all rfl) (by k_dflt ktr_room) (by k_dflt ktr_units) ?_); intro D9 h9 tk9 F9 N9; (try dsimp only)))
              | ((with_reducible show wpAny _ _ (execs (_ :: _) _) _ _ _); ((with_reducible refine gen_toks ?_); intro tk9 hp9; (with_reducible refine wpAny_execs_cons ?_); (try dsimp only); k_fold))
              | ((with_reducible show wpAny _ _ (execs [] _) _ _ _); ((with_reducible refine gen_toks ?_); intro tk9 hp9))
              | ((with_reducible show LCg.CompSrc _ _ _ _ _ _ _ _ _ _ _ _ _ _); (k_dflt (refine' comp_mod (by with_reducible assumption) (by with_reducible assumption) (by exact rfl) (by k_asm) (by k_asm) (by k_mem) ?_ ?_)))
              | ((with_reducible show LCt.CompSrcT _ _ _ _ _ _ _ _ _ _ _ _ _ _ _); (k_dflt (refine' comp_new (by with_reducible assumption) (by exact rfl) (by k_asm) (by k_asm) (by assumption) ?_ ?_)))
              | ((with_reducible show SrcStr ..); (k_dflt (refine' comp_cbad (y := (by (rename Tab1 _ _ _ _ _ => hT9; rename Nat → Int => y9; exact y9))) (by exact rfl) (by k_asm) (by k_asm) ?_ ?_))))
            | ((with_reducible show VEnd _ _ _ _ _ _ _ _); (refine' vend (by k_dflt (k_asm)) (by k_dflt (k_asm)) (by k_dflt (first | exact ⟨_, rfl⟩ | assumption | exact Bool.eq_false_iff.mpr (by assumption)))))
            | ((with_reducible show TEnd _ _ _ _ _ _ _ _); (k_dflt (refine' tend1 (by k_asm) (by k_asm) (by with_unfolding_all assumption) (by exact ⟨_, _, _, rfl, rfl⟩))))
            | walk1
            | (dsimp only; walk1)
            | (leave1; (try dsimp only)))
          all_goals first
              | (k_dflt (refine tend_new (by assumption) (by assumption) (by assumption) ⟨_, _, _, rfl, rfl⟩))
              | (k_dflt (refine vend2 (by assumption) (by assumption) (by first | assumption | exact Bool.eq_false_iff.mpr (by assumption)))))))
end
end Mine
theorem PySem.Challenge.cw_pm0065_01_holds : PySem.Challenge.rw_pm0065_01.Holds :=
  Mine.W0
