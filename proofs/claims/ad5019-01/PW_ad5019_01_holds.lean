import PyProof.Rows.All
import Wide.All
import OpenK.AllK
import Wide.FinOn
import Lean
import PySem.Challenge.RW_ad5019_01
open PySem PySem.W PyProof.Rows
set_option Elab.async false
set_option exponentiation.threshold 3000
set_option linter.all false
namespace Mine
set_option maxRecDepth 100000 in
set_option maxHeartbeats 8000000 in
open_top hd for PySem.Challenge.rw_ad5019_01
theorem topOff : True := by
  w_top off
  exact trivial
section
open PySem.Float64

/-! plain facts of floats: the unit is 2^-20 -/
@[irreducible] def U : Nat := 2 ^ 1054
theorem U_def : U = 2 ^ 1054 := by unfold U; rfl
theorem U_pos : 0 < U := by rw [U_def]; exact Nat.two_pow_pos _
theorem U_big : (2 : Nat) ^ 1074 = 2 ^ 20 * U := by rw [U_def, ← Nat.pow_add]

theorem rep (n : Nat) (h : n ≤ 2 ^ 53) : ∃ t, V t = n * U := by
  rw [U_def]
  by_cases h0 : n = 0
  · exact ⟨0, by rw [V_zero, h0, Nat.zero_mul]⟩
  by_cases h1 : n = 2 ^ 53
  · refine ⟨1055 * 2 ^ 52 + 2 ^ 52, ?_⟩
    rw [V_at (by decide) (.inl (Nat.le_refl _)), h1, ← Nat.pow_add]
  · have hl : n.log2 < 53 := Nat.log2_lt h0 |>.mpr (by omega)
    have hlo := Nat.log2_self_le h0
    have hhi : n < 2 ^ (n.log2 + 1) := Nat.lt_log2_self
    generalize n.log2 = l at *
    have e : 52 = l + (52 - l) := by omega
    have e1 : 2 ^ 52 ≤ n * 2 ^ (52 - l) := by
      have := Nat.mul_le_mul_right (2 ^ (52 - l)) hlo
      rw [← Nat.pow_add, ← e] at this
      exact this
    have e2 : n * 2 ^ (52 - l) ≤ 2 ^ 53 := by
      have := Nat.mul_le_mul_right (2 ^ (52 - l)) (Nat.le_of_lt hhi)
      rw [← Nat.pow_add] at this
      have e3 : l + 1 + (52 - l) = 53 := by omega
      rw [e3] at this
      exact this
    refine ⟨(1002 + l) * 2 ^ 52 + n * 2 ^ (52 - l), ?_⟩
    rw [V_at e2 (.inl e1), Nat.mul_assoc, ← Nat.pow_add]
    have e4 : 52 - l + (1002 + l) = 1054 := by omega
    rw [e4]

theorem mag {W D A B t : Nat} (hD : 0 < D) (hn : ∀ t', Float64.dist W (D * V t) ≤ Float64.dist W (D * V t')) (hA : A ≤ 2 ^ 53) (hB : B ≤ 2 ^ 53)
    (h1 : A * U * D ≤ W) (h2 : W ≤ B * U * D) : A * U ≤ V t ∧ V t ≤ B * U := by
  obtain ⟨ta, ea⟩ := rep A hA
  obtain ⟨tb, eb⟩ := rep B hB
  have na := hn ta
  have nb := hn tb
  rw [ea] at na
  rw [eb] at nb
  generalize V t = v at *
  have c1 : A * U * D = D * (A * U) := Nat.mul_comm _ _
  have c2 : B * U * D = D * (B * U) := Nat.mul_comm _ _
  rw [c1] at h1
  rw [c2] at h2
  generalize A * U = a at *
  generalize B * U = b at *
  unfold Float64.dist at na nb
  constructor
  · refine Nat.le_of_not_lt fun hlt => ?_
    have := Nat.mul_lt_mul_of_pos_left hlt hD
    omega
  · refine Nat.le_of_not_lt fun hlt => ?_
    have := Nat.mul_lt_mul_of_pos_left hlt hD
    omega

def Bt (x : UInt64) (lo hi : Int) : Prop := ∃ a m e, decode x = .fin a m e ∧ lo * (U : Int) ≤ val x ∧ val x ≤ hi * (U : Int)
abbrev Small (n : Int) : Prop := -9007199254740992 ≤ n ∧ n ≤ 9007199254740992

theorem right_bt {r : UInt64} {neg : Bool} {W D : Nat} {lo hi : Int} (h : Right r neg W D) (hD : 0 < D) (sl : Small lo) (sh : Small hi)
    (h1 : lo * (U : Int) * (D : Int) ≤ sgn neg W) (h2 : sgn neg W ≤ hi * (U : Int) * (D : Int)) : Bt r lo hi := by
  obtain ⟨t, rfl, ht, hinf, hnear⟩ := h
  have hUp : (0 : Int) < (U : Int) := Int.ofNat_lt.mpr U_pos
  have hDp : (0 : Int) < (D : Int) := Int.ofNat_lt.mpr hD
  have hUD : (0 : Int) < (U : Int) * (D : Int) := Int.mul_pos hUp hDp
  -- the magnitude's bounds
  have key : ∀ A B : Nat, A ≤ 2 ^ 53 → B ≤ 2 ^ 53 → A * U * D ≤ W → W ≤ B * U * D → t < infMag ∧ A * U ≤ V t ∧ V t ≤ B * U := by
    intro A B hA hB q1 q2
    have hlt : t < infMag := by
      refine Nat.lt_of_le_of_ne ht fun e => ?_
      have k := hinf.mp e
      have q3 : B * U * D ≤ 2 ^ 53 * U * D := Nat.mul_le_mul_right _ (Nat.mul_le_mul_right _ hB)
      have q4 : 2 ^ 53 * U * D = D * 2 ^ 1107 := by rw [U_def, ← Nat.pow_add, Nat.mul_comm]
      have q5 : D * ((2 ^ 54 - 1) * 2 ^ 2045) ≤ D * 2 ^ 1108 := by
        have e2 : D * 2 ^ 1108 = 2 * (D * 2 ^ 1107) := by
          have : (2 : Nat) ^ 1108 = 2 * 2 ^ 1107 := by rw [← Nat.pow_succ']
          rw [this]; ac_rfl
        rw [e2]; omega
      have q6 := Nat.le_of_mul_le_mul_left q5 hD
      have q7 : (2 : Nat) ^ 1108 < (2 ^ 54 - 1) * 2 ^ 2045 := by decide +kernel
      omega
    exact ⟨hlt, mag hD (fun t' => (hnear hlt t').1) hA hB q1 q2⟩
  have cast3 : ∀ A : Nat, ((A * U * D : Nat) : Int) = (A : Int) * (U : Int) * (D : Int) := fun A => by rw [Int.natCast_mul, Int.natCast_mul]
  have cast2 : ∀ A : Nat, ((A * U : Nat) : Int) = (A : Int) * (U : Int) := fun A => by rw [Int.natCast_mul]
  have mono : ∀ p q : Int, p ≤ q → p * (U : Int) ≤ q * (U : Int) := fun p q hpq => Int.mul_le_mul_of_nonneg_right hpq (Int.le_of_lt hUp)
  have mono3 : ∀ p q : Int, p * (U : Int) * (D : Int) ≤ q * (U : Int) * (D : Int) → p ≤ q := fun p q hpq => by
    rw [Int.mul_assoc, Int.mul_assoc] at hpq
    exact Int.le_of_mul_le_mul_right hpq hUD
  cases neg with
  | false =>
    have e : sgn false W = (W : Int) := rfl
    rw [e] at h1 h2
    have hhi : 0 ≤ hi := mono3 0 hi (by rw [Int.zero_mul, Int.zero_mul]; omega)
    have kA : lo.toNat * U * D ≤ W := by
      refine Int.ofNat_le.mp ?_
      rw [cast3]
      by_cases hl : 0 ≤ lo
      · rw [Int.toNat_of_nonneg hl]; exact h1
      · have : lo.toNat = 0 := by omega
        rw [this]; simp
    have kB : W ≤ hi.toNat * U * D := by
      refine Int.ofNat_le.mp ?_
      rw [cast3, Int.toNat_of_nonneg hhi]; exact h2
    obtain ⟨hlt, m1, m2⟩ := key lo.toNat hi.toNat (by omega) (by omega) kA kB
    obtain ⟨m, e, hd, _⟩ := decode_pack false hlt
    refine ⟨_, m, e, hd, ?_, ?_⟩
    · rw [val_pack false hlt]
      show lo * (U : Int) ≤ ((V t : Nat) : Int)
      have := Int.ofNat_le.mpr m1
      rw [cast2] at this
      exact Int.le_trans (mono lo _ (by omega)) this
    · rw [val_pack false hlt]
      show ((V t : Nat) : Int) ≤ hi * (U : Int)
      have := Int.ofNat_le.mpr m2
      rw [cast2, Int.toNat_of_nonneg hhi] at this
      exact this
  | true =>
    have e : sgn true W = -(W : Int) := rfl
    rw [e] at h1 h2
    have hlo : lo ≤ 0 := mono3 lo 0 (by rw [Int.zero_mul, Int.zero_mul]; omega)
    have nlo : ((-lo).toNat : Int) = -lo := Int.toNat_of_nonneg (by omega)
    have kA : (-hi).toNat * U * D ≤ W := by
      refine Int.ofNat_le.mp ?_
      rw [cast3]
      by_cases hl : 0 ≤ -hi
      · rw [Int.toNat_of_nonneg hl, Int.neg_mul, Int.neg_mul]; omega
      · have : (-hi).toNat = 0 := by omega
        rw [this]; simp
    have kB : W ≤ (-lo).toNat * U * D := by
      refine Int.ofNat_le.mp ?_
      rw [cast3, nlo, Int.neg_mul, Int.neg_mul]; omega
    obtain ⟨hlt, m1, m2⟩ := key (-hi).toNat (-lo).toNat (by omega) (by omega) kA kB
    obtain ⟨m, e, hd, _⟩ := decode_pack true hlt
    refine ⟨_, m, e, hd, ?_, ?_⟩
    · rw [val_pack true hlt]
      show lo * (U : Int) ≤ -((V t : Nat) : Int)
      have := Int.ofNat_le.mpr m2
      rw [cast2, nlo, Int.neg_mul] at this
      omega
    · rw [val_pack true hlt]
      show -((V t : Nat) : Int) ≤ hi * (U : Int)
      have := Int.ofNat_le.mpr m1
      rw [cast2] at this
      have m3 := mono (-hi) ((-hi).toNat : Int) (by omega)
      rw [Int.neg_mul] at m3
      omega

theorem sgn_abs (z : Int) : sgn (decide (z < 0)) z.natAbs = z := by
  unfold sgn
  by_cases h : z < 0
  · simp [h]; omega
  · simp [h]; omega

theorem zero_bt (s : Bool) {lo hi : Int} (h1 : lo ≤ 0) (h2 : 0 ≤ hi) : Bt (zero s) lo hi := by
  have hlt : 0 < infMag := by decide
  obtain ⟨m, e, hd, _⟩ := decode_pack s hlt
  have hv : val (zero s) = 0 := by
    show val (pack s 0) = 0
    rw [val_pack s hlt, V_zero]
    cases s <;> rfl
  refine ⟨_, _, _, hd, ?_, ?_⟩
  · show _ ≤ val (zero s)
    rw [hv]
    exact Int.mul_nonpos_of_nonpos_of_nonneg h1 (Int.natCast_nonneg _)
  · show val (zero s) ≤ _
    rw [hv]
    exact Int.mul_nonneg h2 (Int.natCast_nonneg _)

theorem add_bt {x y : UInt64} {l h l' h' : Int} (hx : Bt x l h) (hy : Bt y l' h') (s1 : Small (l + l')) (s2 : Small (h + h')) : Bt (Float64.add x y) (l + l') (h + h') := by
  obtain ⟨a, m, e, hd, x1, x2⟩ := hx
  obtain ⟨b, k, f, hd', y1, y2⟩ := hy
  obtain ⟨hz, hn⟩ := add_right hd hd'
  have i1 : (l + l') * (U : Int) ≤ val x + val y := by rw [Int.add_mul]; omega
  have i2 : val x + val y ≤ (h + h') * (U : Int) := by rw [Int.add_mul]; omega
  have hUp : (0 : Int) < (U : Int) := Int.ofNat_lt.mpr U_pos
  by_cases h0 : val x + val y = 0
  · rw [hz h0]
    rw [h0] at i1 i2
    refine zero_bt _ ?_ ?_
    · refine Int.le_of_mul_le_mul_right (a := (U : Int)) ?_ hUp
      rw [Int.zero_mul]; exact i1
    · refine Int.le_of_mul_le_mul_right (a := (U : Int)) ?_ hUp
      rw [Int.zero_mul]; exact i2
  · refine right_bt (hn h0) Nat.one_pos s1 s2 ?_ ?_
    · rw [sgn_abs, Int.natCast_one, Int.mul_one]; exact i1
    · rw [sgn_abs, Int.natCast_one, Int.mul_one]; exact i2

theorem neg_bt {x : UInt64} {l h : Int} (hx : Bt x l h) : Bt (Float64.neg x) (-h) (-l) := by
  obtain ⟨a, m, e, hd, x1, x2⟩ := hx
  refine ⟨_, _, _, neg_decode hd, ?_, ?_⟩
  · rw [neg_val hd, Int.neg_mul]; omega
  · rw [neg_val hd, Int.neg_mul]; omega
theorem sub_bt {x y : UInt64} {l h l' h' : Int} (hx : Bt x l h) (hy : Bt y l' h') (s1 : Small (l - h')) (s2 : Small (h - l')) : Bt (Float64.sub x y) (l - h') (h - l') := by
  unfold Float64.sub
  rw [Int.sub_eq_add_neg, Int.sub_eq_add_neg]
  exact add_bt hx (neg_bt hy) (by omega) (by omega)

/-- exactly n / 4 -/
def IsQ (x : UInt64) (n : Int) : Prop := Bt x (n * 262144) (n * 262144)
/-- the floor is surely k -/
def InFl (x : UInt64) (k : Int) : Prop := Bt x (k * 1048576) (k * 1048576 + 1048575)
abbrev Fits (n : Int) : Prop := -34359738364 ≤ n ∧ n ≤ 34359738364

theorem add_q {x y : UInt64} {a b : Int} (hx : IsQ x a) (hy : IsQ y b) (hf : Fits (a + b)) : IsQ (Float64.add x y) (a + b) := by
  unfold IsQ at *
  have := add_bt hx hy (by omega) (by omega)
  rw [← Int.add_mul] at this
  exact this
theorem sub_q {x y : UInt64} {a b : Int} (hx : IsQ x a) (hy : IsQ y b) (hf : Fits (a - b)) : IsQ (Float64.sub x y) (a - b) := by
  unfold IsQ at *
  have := sub_bt hx hy (by omega) (by omega)
  rw [← Int.sub_mul] at this
  exact this
theorem ofInt_q (n : Int) (h : Fits (4 * n)) : IsQ (Float64.ofInt n) (4 * n) := by
  have e : sgn (decide (n < 0)) (n.natAbs * 2 ^ 1074) = n * 1048576 * (U : Int) := by
    rw [sgn_mul, sgn_abs, U_big]
    simp only [Int.natCast_mul]
    rw [Int.mul_assoc]
    rfl
  have e2 : 4 * n * 262144 = n * 1048576 := by omega
  refine right_bt (lo := 4 * n * 262144) (hi := 4 * n * 262144) (ofInt_right n) Nat.one_pos (by omega) (by omega) ?_ ?_
  · rw [e, e2, Int.natCast_one, Int.mul_one]; exact Int.le_refl _
  · rw [e, e2, Int.natCast_one, Int.mul_one]; exact Int.le_refl _
theorem add_fl {x y : UInt64} {k n : Int} (hx : InFl x k) (hy : IsQ y (4 * n)) (hf : Fits (4 * (k + n))) : InFl (Float64.add x y) (k + n) := by
  unfold InFl IsQ at *
  have := add_bt hx hy (by omega) (by omega)
  have e1 : k * 1048576 + 4 * n * 262144 = (k + n) * 1048576 := by omega
  have e2 : k * 1048576 + 1048575 + 4 * n * 262144 = (k + n) * 1048576 + 1048575 := by omega
  rw [e1, e2] at this
  exact this
theorem q_fl {x : UInt64} {a : Int} (hx : IsQ x a) : InFl x (a / 4) := by
  obtain ⟨s, m, e, hd, x1, x2⟩ := hx
  have hUp : (0 : Int) ≤ (U : Int) := Int.natCast_nonneg _
  refine ⟨s, m, e, hd, Int.le_trans (Int.mul_le_mul_of_nonneg_right ?_ hUp) x1, Int.le_trans x2 (Int.mul_le_mul_of_nonneg_right ?_ hUp)⟩ <;> omega

/-! floor, trunc -/
theorem floorOf_val {x : UInt64} {a : Bool} {m : Nat} {e : Int} (h : decode x = .fin a m e) : floorOf a m e = (val x) / ((2 ^ 1074 : Nat) : Int) := by
  have he := decode_ge h
  rw [val_eq h, sgn_mul]
  unfold floorOf
  by_cases h0 : e ≥ 0
  · rw [if_pos h0]
    have e1 : (e + 1074).toNat = e.toNat + 1074 := by omega
    rw [e1, Nat.pow_add, Int.natCast_mul, ← Int.mul_assoc, Int.mul_ediv_cancel _ (by have := Nat.two_pow_pos 1074; omega)]
    simp
  · rw [if_neg h0]
    have e1 : (2 : Nat) ^ 1074 = 2 ^ (-e).toNat * 2 ^ (e + 1074).toNat := by rw [← Nat.pow_add]; congr 1; omega
    rw [e1, Int.natCast_mul, Int.mul_ediv_mul_of_pos_left _ _ (Int.ofNat_lt.mpr (Nat.two_pow_pos _))]
    rw [Int.fdiv_eq_ediv_of_nonneg _ (Int.le_of_lt (Int.pow_pos (by decide)))]
    simp
theorem floor_fl {x : UInt64} {k : Int} (hx : InFl x k) {a : Bool} {m : Nat} {e : Int} (h : decode x = .fin a m e) : floorOf a m e = k := by
  obtain ⟨s, m', e', hd, x1, x2⟩ := hx
  rw [floorOf_val h]
  have hUp : (0 : Int) < (U : Int) := Int.ofNat_lt.mpr U_pos
  have e1 : ((2 ^ 1074 : Nat) : Int) = 1048576 * (U : Int) := by rw [U_big]; simp
  rw [e1]
  have hpos : (0 : Int) < 1048576 * (U : Int) := by omega
  refine Int.le_antisymm ?_ ?_
  · refine Int.le_of_lt_add_one (Int.ediv_lt_of_lt_mul hpos ?_)
    have : (k + 1) * (1048576 * (U : Int)) = (k * 1048576 + 1048575) * (U : Int) + (U : Int) := by
      rw [← Int.mul_assoc, Int.add_mul k 1, Int.add_mul, Int.add_mul]; omega
    omega
  · refine (Int.le_ediv_iff_mul_le hpos).mpr ?_
    rw [← Int.mul_assoc]
    exact x1
theorem isFin_bt {x : UInt64} {l h : Int} (hx : Bt x l h) : Float64.isFinite x = true ∧ Float64.isNaN x = false ∧ Float64.isInf x = false := by
  obtain ⟨a, m, e, hd, _⟩ := hx
  refine ⟨?_, ?_, ?_⟩ <;> simp only [Float64.isFinite, Float64.isNaN, Float64.isInf, hd]
theorem toInt_floor {x : UInt64} {k : Int} (hx : InFl x k) : PySem.Flt.toInt Float64.floorOf x = k := by
  obtain ⟨a, m, e, hd, _⟩ := id hx
  rw [PySem.Flt.toInt_fin hd]
  exact floor_fl hx hd
theorem toInt_trunc {x : UInt64} {k : Int} (hx : InFl x k) (h0 : 0 ≤ k) : PySem.Flt.toInt Float64.truncOf x = k := by
  obtain ⟨a, m, e, hd, x1, x2⟩ := id hx
  rw [PySem.Flt.toInt_fin hd]
  unfold truncOf
  have hUp : (0 : Int) < (U : Int) := Int.ofNat_lt.mpr U_pos
  cases a with
  | false => exact floor_fl hx hd
  | true =>
    have hv : (0 : Int) ≤ val x := Int.le_trans (Int.mul_nonneg (by omega) (Int.le_of_lt hUp)) x1
    have e1 := val_eq hd
    rw [sgn_mul] at e1
    have hp : (0 : Int) < ((2 ^ (e + 1074).toNat : Nat) : Int) := Int.ofNat_lt.mpr (Nat.two_pow_pos _)
    have hm : m = 0 := by
      refine Nat.eq_zero_of_not_pos fun hm => ?_
      have : sgn true m < 0 := by show -(m : Int) < 0; omega
      have := Int.mul_neg_of_neg_of_pos this hp
      omega
    subst hm
    have hk := floor_fl hx hd
    have z : floorOf true 0 e = 0 ∧ floorOf false 0 e = 0 := by
      constructor <;> (unfold floorOf sgn; split <;> simp)
    unfold ceilOf
    simp only [Bool.not_true, if_true]
    rw [z.2]
    rw [z.1] at hk
    omega

/-! div, mul, mod -/
theorem sgn_mul2 (a b : Bool) (m k : Nat) : sgn (a != b) (m * k) = sgn a m * sgn b k := by
  cases a <;> cases b <;> simp [sgn, Int.neg_mul, Int.mul_neg]
theorem q_val {x : UInt64} {n : Int} (h : IsQ x n) : ∃ a m e, decode x = .fin a m e ∧ val x = n * 262144 * (U : Int) := by
  obtain ⟨a, m, e, hd, x1, x2⟩ := h
  exact ⟨a, m, e, hd, Int.le_antisymm x2 x1⟩
theorem sgn_val {x : UInt64} {a : Bool} {m : Nat} {e : Int} (h : decode x = .fin a m e) : sgn a (val x).natAbs = val x := by
  rw [val_natAbs h, val_eq h]

theorem div_fl {x y : UInt64} {a b : Int} (hx : IsQ x a) (hy : IsQ y b) (hb4 : 4 ≤ b) (hb2 : b ≤ 1048576) (hf : Fits a) : InFl (Float64.div x y) (a / b) := by
  have hb : 0 < b := by omega
  obtain ⟨sa, m, e, hd, vx⟩ := q_val hx
  obtain ⟨sb, k, f, hd', vy⟩ := q_val hy
  have hUp : (0 : Int) < (U : Int) := Int.ofNat_lt.mpr U_pos
  have hvy : 0 < val y := by rw [vy]; exact Int.mul_pos (by omega) hUp
  have hk : k ≠ 0 := by
    rintro rfl
    have := val_natAbs hd'
    omega
  have hR := div_right hd hd' hk
  have hD : 0 < (val y).natAbs := by omega
  have eD : ((val y).natAbs : Int) = val y := by omega
  have hs : sgn (sa != sb) ((val x).natAbs * 2 ^ 1074) = val x * (1048576 * (U : Int)) := by
    have e1 : ((2 ^ 1074 : Nat) : Int) = 1048576 * (U : Int) := by rw [U_big]; simp
    have hsb : sb = false := by
      cases sb with
      | false => rfl
      | true =>
        have := sgn_val hd'
        have h2 : sgn true (val y).natAbs = -((val y).natAbs : Int) := rfl
        omega
    subst hsb
    rw [Bool.bne_false, sgn_mul, sgn_val hd, e1]
  have q1 : a / b * b ≤ a := Int.ediv_mul_le _ (by omega)
  have q2 : a < (a / b + 1) * b := by have := Int.lt_ediv_add_one_mul_self a hb; exact this
  generalize a / b = k' at *
  have r1 : -8589934591 ≤ k' := by
    refine Int.le_of_not_gt fun h => ?_
    have : (k' + 1) * b ≤ (k' + 1) * 4 := Int.mul_le_mul_of_nonpos_left (by omega) hb4
    omega
  have r2 : k' ≤ 8589934591 := by
    refine Int.le_of_not_gt fun h => ?_
    have : k' * 4 ≤ k' * b := Int.mul_le_mul_of_nonneg_left hb4 (by omega)
    omega
  refine right_bt hR hD (by omega) (by omega) ?_ ?_
  · rw [hs, eD, vx, vy]
    have : k' * 1048576 * (U : Int) * (b * 262144 * (U : Int)) = (k' * b) * (262144 * (U : Int) * (1048576 * (U : Int))) := by ac_rfl
    rw [this]
    have : a * 262144 * (U : Int) * (1048576 * (U : Int)) = a * (262144 * (U : Int) * (1048576 * (U : Int))) := by ac_rfl
    rw [this]
    exact Int.mul_le_mul_of_nonneg_right q1 (Int.le_of_lt (Int.mul_pos (by omega) (by omega)))
  · rw [hs, eD, vx, vy]
    have e1 : (k' * 1048576 + 1048575) * (U : Int) * (b * 262144 * (U : Int)) = ((k' * 1048576 + 1048575) * b) * (262144 * (U : Int) * (U : Int)) := by ac_rfl
    have e2 : a * 262144 * (U : Int) * (1048576 * (U : Int)) = (a * 1048576) * (262144 * (U : Int) * (U : Int)) := by ac_rfl
    rw [e1, e2]
    refine Int.mul_le_mul_of_nonneg_right ?_ (Int.le_of_lt (Int.mul_pos (by omega) hUp))
    have e3 : (k' * 1048576 + 1048575) * b = ((k' + 1) * b) * 1048576 - b := by
      rw [Int.add_mul, Int.add_mul, Int.add_mul]
      have : k' * 1048576 * b = k' * b * 1048576 := by ac_rfl
      rw [this]; omega
    rw [e3]
    generalize (k' + 1) * b = P at *
    omega

theorem mul_q {x y : UInt64} {a n : Int} (hx : IsQ x a) (hy : IsQ y (4 * n)) (hf : Fits (a * n)) : IsQ (Float64.mul x y) (a * n) := by
  obtain ⟨sa, m, e, hd, vx⟩ := q_val hx
  obtain ⟨sb, k, f, hd', vy⟩ := q_val hy
  have hR := mul_right hd hd'
  have hs : sgn (sa != sb) ((val x).natAbs * (val y).natAbs) = a * n * 262144 * (U : Int) * ((2 ^ 1074 : Nat) : Int) := by
    have e1 : ((2 ^ 1074 : Nat) : Int) = 1048576 * (U : Int) := by rw [U_big]; simp
    rw [sgn_mul2, sgn_val hd, sgn_val hd', vx, vy, e1]
    have : 4 * n * 262144 = n * 1048576 := by omega
    rw [this]
    ac_rfl
  refine right_bt hR (Nat.two_pow_pos _) (by omega) (by omega) ?_ ?_
  · rw [hs]; exact Int.le_refl _
  · rw [hs]; exact Int.le_refl _

theorem frac_fl {a b : Int} (hb : 0 < b) (hb2 : b ≤ 1048576) (hf : Fits (4 * (a / b))) : InFl (Float64.ofFrac (decide (a < 0) != decide (b < 0)) a.natAbs b.natAbs) (a / b) := by
  have hb0 : decide (b < 0) = false := decide_eq_false (by omega)
  have eb : (b.natAbs : Int) = b := by omega
  have hbn : 0 < b.natAbs := by omega
  have hR : Right (Float64.ofFrac (decide (a < 0)) a.natAbs b.natAbs) (decide (a < 0)) (a.natAbs * 2 ^ 1074) b.natAbs := ofFrac_right hbn rfl hbn
  have hUp : (0 : Int) < (U : Int) := Int.ofNat_lt.mpr U_pos
  have hs : sgn (decide (a < 0)) (a.natAbs * 2 ^ 1074) = a * (1048576 * (U : Int)) := by
    have e1 : ((2 ^ 1074 : Nat) : Int) = 1048576 * (U : Int) := by rw [U_big]; simp
    rw [sgn_mul, sgn_abs, e1]
  rw [hb0, Bool.bne_false]
  have q1 : a / b * b ≤ a := Int.ediv_mul_le _ (by omega)
  have q2 : a < (a / b + 1) * b := Int.lt_ediv_add_one_mul_self a hb
  generalize a / b = k' at *
  refine right_bt hR hbn (by omega) (by omega) ?_ ?_
  · rw [hs, eb]
    have : k' * 1048576 * (U : Int) * b = (k' * b) * (1048576 * (U : Int)) := by ac_rfl
    rw [this]
    exact Int.mul_le_mul_of_nonneg_right q1 (by omega)
  · rw [hs, eb]
    have e1 : (k' * 1048576 + 1048575) * (U : Int) * b = ((k' * 1048576 + 1048575) * b) * (U : Int) := by ac_rfl
    have e2 : a * (1048576 * (U : Int)) = (a * 1048576) * (U : Int) := by ac_rfl
    rw [e1, e2]
    refine Int.mul_le_mul_of_nonneg_right ?_ (Int.le_of_lt hUp)
    have e3 : (k' * 1048576 + 1048575) * b = ((k' + 1) * b) * 1048576 - b := by
      rw [Int.add_mul, Int.add_mul, Int.add_mul]
      have : k' * 1048576 * b = k' * b * 1048576 := by ac_rfl
      rw [this]; omega
    rw [e3]
    generalize (k' + 1) * b = P at *
    omega

theorem fmod_right {x y : UInt64} {a b : Bool} {m k : Nat} {e f : Int} (hx : decode x = .fin a m e) (hy : decode y = .fin b k f) (hk : k ≠ 0) :
    Right (Float64.fmod x y) a ((val x).natAbs % (val y).natAbs) 1 := by
  have he := decode_ge hx
  have hf := decode_ge hy
  have hg : fmod x y = ofBin a ((m * 2 ^ (e - min e f).toNat) % (k * 2 ^ (f - min e f).toNat)) (min e f) := by
    unfold fmod
    rw [hx, hy]
    simp only
    rw [if_neg (by simpa using hk)]
    show ofBin a ((sgn false (m * 2 ^ (e - min e f).toNat)).toNat % (sgn false (k * 2 ^ (f - min e f).toNat)).toNat) (min e f) = _
    rfl
  rw [hg, val_natAbs hx, val_natAbs hy]
  have e1 : (e + 1074).toNat = (e - min e f).toNat + (min e f + 1074).toNat := by omega
  have e2 : (f + 1074).toNat = (f - min e f).toNat + (min e f + 1074).toNat := by omega
  rw [e1, e2, Nat.pow_add, Nat.pow_add, ← Nat.mul_assoc, ← Nat.mul_assoc, Nat.mul_mod_mul_right]
  generalize m * 2 ^ (e - min e f).toNat % (k * 2 ^ (f - min e f).toNat) = M
  unfold ofBin
  refine ofFrac_right (shift_pos _ _ _ (by decide)) ?_ (by decide)
  have := shift_one M (min e f) 1074 (by omega)
  rw [Nat.mul_one]
  exact this

theorem sgn_tmod {s : Bool} {P Q : Nat} {v : Int} (hs : sgn s P = v) (hP : v.natAbs = P) : sgn s (P % Q) = v.tmod (Q : Int) := by
  subst hs
  cases s with
  | false => show ((P % Q : Nat) : Int) = Int.tmod ((P : Nat) : Int) (Q : Int); rw [Int.ofNat_tmod]
  | true => show -((P % Q : Nat) : Int) = Int.tmod (-((P : Nat) : Int)) (Q : Int); rw [Int.neg_tmod, Int.ofNat_tmod]

theorem fmod_q {x y : UInt64} {a b : Int} (hx : IsQ x a) (hy : IsQ y b) (hb : 0 < b) (hf : Fits b) : IsQ (Float64.fmod x y) (a.tmod b) := by
  obtain ⟨sa, m, e, hd, vx⟩ := q_val hx
  obtain ⟨sb, k, f, hd', vy⟩ := q_val hy
  have hUp : (0 : Int) < (U : Int) := Int.ofNat_lt.mpr U_pos
  have hvy : 0 < val y := by rw [vy]; exact Int.mul_pos (by omega) hUp
  have hk : k ≠ 0 := by
    rintro rfl
    have := val_natAbs hd'
    omega
  have hR := fmod_right hd hd' hk
  have eD : ((val y).natAbs : Int) = val y := by omega
  have hs : sgn sa ((val x).natAbs % (val y).natAbs) = a.tmod b * 262144 * (U : Int) := by
    rw [sgn_tmod (sgn_val hd) rfl, eD, vx, vy, Int.mul_assoc, Int.mul_assoc, Int.mul_assoc]
    have hK : (0 : Int) < 262144 * (U : Int) := Int.mul_pos (by decide) hUp
    generalize 262144 * (U : Int) = K at *
    rw [Int.mul_comm a K, Int.mul_comm b K, Int.mul_tmod_mul_of_pos _ _ hK, Int.mul_comm]
  have r1 : a.tmod b < b := Int.tmod_lt_of_pos _ hb
  have r2 : -b < a.tmod b := Int.lt_tmod_of_pos a hb
  refine right_bt hR Nat.one_pos (by omega) (by omega) ?_ ?_
  · rw [hs, Int.natCast_one, Int.mul_one]; exact Int.le_refl _
  · rw [hs, Int.natCast_one, Int.mul_one]; exact Int.le_refl _

theorem q_cmp {x y : UInt64} {a b : Int} (hx : IsQ x a) (hy : IsQ y b) : Float64.cmp x y = some (compare a b) := by
  obtain ⟨sa, m, e, hd, vx⟩ := q_val hx
  obtain ⟨sb, k, f, hd', vy⟩ := q_val hy
  have hUp : (0 : Int) < (U : Int) := Int.ofNat_lt.mpr U_pos
  rw [cmp_right hd hd', vx, vy, Int.mul_assoc, Int.mul_assoc]
  have hpos : (0 : Int) < 262144 * (U : Int) := by omega
  generalize 262144 * (U : Int) = K at *
  congr 1
  rcases Int.lt_trichotomy a b with h | h | h
  · rw [Int.compare_eq_lt.mpr h, Int.compare_eq_lt.mpr (Int.mul_lt_mul_of_pos_right h hpos)]
  · subst h; simp
  · rw [Int.compare_eq_gt.mpr h, Int.compare_eq_gt.mpr (Int.mul_lt_mul_of_pos_right h hpos)]
theorem q_cmpInt {x : UInt64} {a : Int} (hx : IsQ x a) (n : Int) : Float64.cmpInt x n = some (compare a (4 * n)) := by
  obtain ⟨sa, m, e, hd, vx⟩ := q_val hx
  have hUp : (0 : Int) < (U : Int) := Int.ofNat_lt.mpr U_pos
  have e1 : (2 : Int) ^ 1074 = 1048576 * (U : Int) := by
    have : ((2 ^ 1074 : Nat) : Int) = 1048576 * (U : Int) := by rw [U_big]; simp
    rw [← this]; simp
  have e2 : n * (1048576 * (U : Int)) = 4 * n * (262144 * (U : Int)) := by
    rw [← Int.mul_assoc, ← Int.mul_assoc]
    have : n * 1048576 = 4 * n * 262144 := by omega
    rw [this]
  rw [cmpInt_right hd, vx, e1, e2, Int.mul_assoc]
  have hpos : (0 : Int) < 262144 * (U : Int) := by omega
  generalize 262144 * (U : Int) = K at *
  generalize 4 * n = b at *
  congr 1
  rcases Int.lt_trichotomy a b with h | h | h
  · rw [Int.compare_eq_lt.mpr h, Int.compare_eq_lt.mpr (Int.mul_lt_mul_of_pos_right h hpos)]
  · subst h; simp
  · rw [Int.compare_eq_gt.mpr h, Int.compare_eq_gt.mpr (Int.mul_lt_mul_of_pos_right h hpos)]
theorem q_isZero {x : UInt64} {a : Int} (hx : IsQ x a) : Float64.isZero x = decide (a = 0) := by
  rw [PySem.Flt.isZero_eq, q_cmpInt hx 0]
  rcases Int.lt_trichotomy a 0 with h | h | h
  · have h' : a < 4 * 0 := by omega
    rw [Int.compare_eq_lt.mpr h', decide_eq_false (by omega)]; rfl
  · subst h; rfl
  · have h' : 4 * 0 < a := by omega
    rw [Int.compare_eq_gt.mpr h', decide_eq_false (by omega)]; rfl
theorem zero_q (s : Bool) : IsQ (zero s) 0 := zero_bt s (by omega) (by omega)
theorem cs_zero {y : UInt64} (h : Float64.isNaN (zero false) = false) : ∃ s, copysign (zero false) y = zero s := by
  refine ⟨signBit y, ?_⟩
  unfold copysign
  rw [h]
  have : (zero false).toNat % 2 ^ 63 = 0 := by decide
  rw [this]
  rfl

theorem mod_q {x y : UInt64} {a b : Int} (hx : IsQ x a) (hy : IsQ y b) (hb : 0 < b) (hf : Fits b) : IsQ (Float64.divmod x y).2 (a % b) := by
  have hm := fmod_q hx hy hb hf
  have hnn : Float64.isNaN (zero false) = false := (isFin_bt (zero_q false)).2.1
  have hb' : ((b.natAbs : Nat) : Int) = b := by omega
  have te := Int.tmod_eq_emod (a := a) (b := b)
  have r1 : a.tmod b < b := Int.tmod_lt_of_pos _ hb
  have r2 : -b < a.tmod b := Int.lt_tmod_of_pos a hb
  have r3 : 0 ≤ a % b := Int.emod_nonneg a (by omega)
  have r4 : a % b < b := Int.emod_lt_of_pos a hb
  have cases3 : a.tmod b = a % b ∨ (a.tmod b = a % b - b ∧ a.tmod b < 0) := by
    split at te
    · exact .inl (by omega)
    · exact .inr ⟨by omega, by omega⟩
  have hz0 := zero_q false
  have hlt : ∀ {z : UInt64} {c : Int}, IsQ z c → Float64.lt z (zero false) = decide (c < 0) := by
    intro z c hz
    unfold Float64.lt
    rw [q_cmp hz hz0]
    rcases Int.lt_trichotomy c 0 with h | h | h
    · rw [Int.compare_eq_lt.mpr h, decide_eq_true h]; rfl
    · subst h; rfl
    · rw [Int.compare_eq_gt.mpr h, decide_eq_false (by omega)]; rfl
  have hyl := hlt hy
  have hml := hlt hm
  have hzm := q_isZero hm
  unfold Float64.divmod
  simp only
  rw [hzm, hyl, hml, decide_eq_false (p := b < 0) (by omega)]
  by_cases h0 : a.tmod b = 0
  · rw [if_pos (by simpa using h0)]
    obtain ⟨s, hs⟩ := cs_zero (y := y) hnn
    simp only
    rw [hs]
    have : a % b = 0 := by omega
    rw [this]
    exact zero_q s
  · rw [if_neg (by simpa using h0)]
    by_cases h1 : a.tmod b < 0
    · rw [if_pos (by simp [h1])]
      have e : a % b = a.tmod b + b := by omega
      rw [e]
      exact add_q hm hy (by omega)
    · rw [if_neg (by simp [h1])]
      have e : a % b = a.tmod b := by omega
      rw [e]
      exact hm
end
section
open PySem.Spec PySem.Calls PySem.Flt PySem.Float64

/-! the written floats -/
theorem lit_q {x : UInt64} {n : Int} {m : Nat} {e : Int} (h : decode x = .fin false m e) (hv : ((m * 2 ^ (e + 1074).toNat : Nat) : Int) = n * 262144 * ((2 ^ 1054 : Nat) : Int)) : IsQ x n := by
  rw [← U_def] at hv
  have : val x = n * 262144 * (U : Int) := by rw [val_eq h]; exact hv
  exact ⟨_, _, _, h, by rw [this]; exact Int.le_refl _, by rw [this]; exact Int.le_refl _⟩
theorem ep_q : IsQ 4693266160550936576 2337130 := by
  refine lit_q (m := 5018948458250240) (e := -33) ?_ ?_
  · unfold decode; rfl
  · decide +kernel
theorem eg_q : IsQ 4700144277945057280 6885702 := by
  refine lit_q (m := 7393466225000448) (e := -32) ?_ ?_
  · unfold decode; rfl
  · decide +kernel
theorem half_q : IsQ 4602678819172646912 2 := by
  refine lit_q (m := 4503599627370496) (e := -53) ?_ ?_
  · unfold decode; rfl
  · decide +kernel

theorem frac_q4 {a : Int} (hf : Fits a) : IsQ (Float64.ofFrac (decide (a < 0) != decide ((4 : Int) < 0)) a.natAbs (4 : Int).natAbs) a := by
  have hR : Right (Float64.ofFrac (decide (a < 0)) a.natAbs 4) (decide (a < 0)) (a.natAbs * 2 ^ 1074) 4 := ofFrac_right (by decide) rfl (by decide)
  have hs : sgn (decide (a < 0)) (a.natAbs * 2 ^ 1074) = a * (1048576 * (U : Int)) := by
    have e1 : ((2 ^ 1074 : Nat) : Int) = 1048576 * (U : Int) := by rw [U_big]; simp
    rw [sgn_mul, sgn_abs, e1]
  have e : (decide (a < 0) != decide ((4 : Int) < 0)) = decide (a < 0) := by simp
  rw [e]
  have e2 : a * 262144 * (U : Int) * ((4 : Nat) : Int) = a * (1048576 * (U : Int)) := by
    have : ((4 : Nat) : Int) = 4 := rfl
    rw [this, Int.mul_assoc, Int.mul_assoc]
    congr 1
    omega
  refine right_bt (lo := a * 262144) (hi := a * 262144) hR (by decide) (by omega) (by omega) ?_ ?_
  · rw [hs, e2]; exact Int.le_refl _
  · rw [hs, e2]; exact Int.le_refl _

section
variable {prog : Program} {w : World} {A : Around} {E : Value → Shared → Prop} {s : Shared} {x y : UInt64} {a b n k : Int} {t u : Tok} {Q : Value → Shared → Prop}
theorem fin_big {n : Int} (h : Fits (4 * n)) : n.natAbs < 2 ^ 1023 := by
  have h1 : n.natAbs ≤ 2 ^ 36 := by omega
  exact Nat.lt_of_le_of_lt h1 (Nat.pow_lt_pow_right (by decide) (by decide))
theorem r_add_fi (hx : IsQ x a) (h1 : Fits (4 * n)) (h2 : Fits (a + 4 * n)) (h : ∀ z, IsQ z (a + 4 * n) → Q (.float z s.toks) { s with toks := s.toks + 1 }) :
    wpAny (model prog w) A (binaryOp .Add (.float x t) (.int n u)) Q E s := add_fi_fits (fin_big h1) (h _ (add_q hx (ofInt_q n h1) h2))
theorem r_add_fl (hx : InFl x k) (h1 : Fits (4 * n)) (h2 : Fits (4 * (k + n))) (h : ∀ z, InFl z (k + n) → Q (.float z s.toks) { s with toks := s.toks + 1 }) :
    wpAny (model prog w) A (binaryOp .Add (.float x t) (.int n u)) Q E s := add_fi_fits (fin_big h1) (h _ (add_fl hx (ofInt_q n h1) h2))
theorem r_add_if (hx : IsQ x a) (h1 : Fits (4 * n)) (h2 : Fits (4 * n + a)) (h : ∀ z, IsQ z (4 * n + a) → Q (.float z s.toks) { s with toks := s.toks + 1 }) :
    wpAny (model prog w) A (binaryOp .Add (.int n u) (.float x t)) Q E s := add_if_fits (fin_big h1) (h _ (add_q (ofInt_q n h1) hx h2))
theorem r_add_ff (hx : IsQ x a) (hy : IsQ y b) (h2 : Fits (a + b)) (h : ∀ z, IsQ z (a + b) → Q (.float z s.toks) { s with toks := s.toks + 1 }) :
    wpAny (model prog w) A (binaryOp .Add (.float x t) (.float y u)) Q E s := add_float (h _ (add_q hx hy h2))
theorem r_sub_fi (hx : IsQ x a) (h1 : Fits (4 * n)) (h2 : Fits (a - 4 * n)) (h : ∀ z, IsQ z (a - 4 * n) → Q (.float z s.toks) { s with toks := s.toks + 1 }) :
    wpAny (model prog w) A (binaryOp .Sub (.float x t) (.int n u)) Q E s := sub_fi_fits (fin_big h1) (h _ (sub_q hx (ofInt_q n h1) h2))
theorem r_sub_ff (hx : IsQ x a) (hy : IsQ y b) (h2 : Fits (a - b)) (h : ∀ z, IsQ z (a - b) → Q (.float z s.toks) { s with toks := s.toks + 1 }) :
    wpAny (model prog w) A (binaryOp .Sub (.float x t) (.float y u)) Q E s := sub_float (h _ (sub_q hx hy h2))
theorem r_mul_fi (hx : IsQ x a) (h1 : Fits (4 * n)) (h2 : Fits (a * n)) (h : ∀ z, IsQ z (a * n) → Q (.float z s.toks) { s with toks := s.toks + 1 }) :
    wpAny (model prog w) A (binaryOp .Mult (.float x t) (.int n u)) Q E s := mul_fi_fits (fin_big h1) (h _ (mul_q hx (ofInt_q n h1) h2))
theorem r_div_fi (hx : IsQ x a) (h1 : 1 ≤ n ∧ n ≤ 262144) (h2 : Fits a) (h : ∀ z, InFl z (a / (4 * n)) → Q (.float z s.toks) { s with toks := s.toks + 1 }) :
    wpAny (model prog w) A (binaryOp .Div (.float x t) (.int n u)) Q E s := by
  have hn := ofInt_q n (by omega)
  have hz := q_isZero hn
  exact AutoFloatOps.truediv_fi_2 (by rw [(isFin_bt hn).2.2]; decide) (by rw [hz, decide_eq_false (by omega)]; decide) (h _ (div_fl hx hn (by omega) (by omega) h2))
theorem r_mod_fi (hx : IsQ x a) (h1 : 1 ≤ n ∧ n ≤ 262144) (hb : a % (4 * n) = b) (h : ∀ z, IsQ z b → Q (.float z s.toks) { s with toks := s.toks + 1 }) :
    wpAny (model prog w) A (binaryOp .Mod (.float x t) (.int n u)) Q E s := by
  subst hb
  have hn := ofInt_q n (by omega)
  have hz := q_isZero hn
  exact AutoFloatOps.mod_fi_2 (by rw [(isFin_bt hn).2.2]; decide) (by rw [hz, decide_eq_false (by omega)]; decide) (h _ (mod_q hx hn (by omega) (by omega)))
theorem r_div_ii (h1 : 1 ≤ n ∧ n ≤ 262144) (h2 : Fits (4 * (a / n))) (h : ∀ z, InFl z (a / n) → Q (.float z s.toks) { s with toks := s.toks + 1 }) :
    wpAny (model prog w) A (binaryOp .Div (.int a t) (.int n u)) Q E s := by
  have hz := frac_fl (a := a) (b := n) (by omega) (by omega) h2
  refine AutoIntOps.truediv_2 (by have : n ≠ 0 := by omega
                                  simpa using this) (by rw [(isFin_bt hz).2.2]; decide) (h _ hz)
theorem r_div_i4 (hn : n = 4) (h2 : Fits a) (h : ∀ z, IsQ z a → Q (.float z s.toks) { s with toks := s.toks + 1 }) :
    wpAny (model prog w) A (binaryOp .Div (.int a t) (.int n u)) Q E s := by
  subst hn
  have hz := frac_q4 h2
  exact AutoIntOps.truediv_2 (by decide) (by rw [(isFin_bt hz).2.2]; decide) (h _ hz)
theorem r_floor (hA : A.handled = none) (hx : InFl x k) (hk : k = n) (h : Q (.int n s.toks) { s with toks := s.toks + 1 }) : wpAny (model prog w) A (call (.builtin "math.floor") [.float x t]) Q E s := by
  subst hk
  obtain ⟨_, f2, f3⟩ := isFin_bt hx
  exact call_floor_float hA (fun c => absurd c (by rw [f2]; decide)) (fun c => absurd c (by rw [f3]; decide)) (fun _ => by rw [toInt_floor hx]; exact h)
theorem r_trunc (hA : A.handled = none) (hx : InFl x k) (hk : k = n) (h0 : 0 ≤ k) (h : Q (.int n s.toks) { s with toks := s.toks + 1 }) : wpAny (model prog w) A (call (.builtin "math.trunc") [.float x t]) Q E s := by
  subst hk
  obtain ⟨_, f2, f3⟩ := isFin_bt hx
  exact call_trunc_float hA (fun c => absurd c (by rw [f2]; decide)) (fun c => absurd c (by rw [f3]; decide)) (fun _ => by rw [toInt_trunc hx h0]; exact h)
theorem r_int (hA : A.handled = none) (hx : InFl x k) (hk : k = n) (h0 : 0 ≤ k) (h : Q (.int n s.toks) { s with toks := s.toks + 1 }) : wpAny (model prog w) A (call (.type "int") [.float x t]) Q E s := by
  subst hk
  obtain ⟨_, f2, f3⟩ := isFin_bt hx
  exact call_int_float3 hA (fun c => absurd c (by rw [f2]; decide)) (fun c => absurd c (by rw [f3]; decide)) (fun _ => by rw [toInt_trunc hx h0]; exact h)
theorem cmp_lt (p q : Int) : (some (compare p q) == some Ordering.lt) = decide (p < q) := by
  rcases Int.lt_trichotomy p q with h | h | h
  · rw [Int.compare_eq_lt.mpr h, decide_eq_true h]; rfl
  · subst h; simp
  · rw [Int.compare_eq_gt.mpr h, decide_eq_false (by omega)]; rfl
theorem cmp_ge (p q : Int) : (some (compare p q) == some Ordering.gt || some (compare p q) == some Ordering.eq) = decide (q ≤ p) := by
  rcases Int.lt_trichotomy p q with h | h | h
  · rw [Int.compare_eq_lt.mpr h, decide_eq_false (by omega)]; rfl
  · subst h; simp
  · rw [Int.compare_eq_gt.mpr h, decide_eq_true (by omega)]; rfl
theorem cmp_ne (p q : Int) : (some (compare p q) != some Ordering.eq) = decide (p ≠ q) := by
  rcases Int.lt_trichotomy p q with h | h | h
  · rw [Int.compare_eq_lt.mpr h, decide_eq_true (by omega)]; rfl
  · subst h; simp
  · rw [Int.compare_eq_gt.mpr h, decide_eq_true (by omega)]; rfl
theorem r_lt_fi (hx : IsQ x a) (h : Q (.bool (decide (a < 4 * n))) s) : wpAny (model prog w) A (compareOp .Lt (.float x t) (.int n u)) Q E s :=
  lt_fi (by rw [q_cmpInt hx, cmp_lt]; exact h)
theorem r_ge_fi (hx : IsQ x a) (h : Q (.bool (decide (4 * n ≤ a))) s) : wpAny (model prog w) A (compareOp .GtE (.float x t) (.int n u)) Q E s :=
  ge_fi (by rw [q_cmpInt hx, cmp_ge]; exact h)
theorem r_ne_ff (hx : IsQ x a) (hy : IsQ y b) (h : Q (.bool (decide (a ≠ b))) s) : wpAny (model prog w) A (compareOp .NotEq (.float x t) (.float y u)) Q E s :=
  AutoFloatOps.ne_0 (by rw [q_cmp hx hy, cmp_ne]; exact h)
end
end
section
/-! the calendar, plain: leap years, months' lengths, a date's day number -/
@[irreducible] def leapB (y : Int) : Bool := decide (y % 4 = 0 ∧ (y % 100 ≠ 0 ∨ y % 400 = 0))
@[irreducible] def mlen (y m : Int) : Int := if m = 2 then (if leapB y then 29 else 28) else if m = 4 ∨ m = 6 ∨ m = 9 ∨ m = 11 then 30 else 31
@[irreducible] def Valid (y m d : Int) : Prop := 1 ≤ m ∧ m ≤ 12 ∧ 1 ≤ d ∧ d ≤ mlen y m
@[irreducible] def adj (y m : Int) : Int := if m ≤ 2 then 0 else if leapB y then -1 else -2
@[irreducible] def dn (y m d : Int) : Int := 365 * (y - 1) + (y - 1) / 4 - (y - 1) / 100 + (y - 1) / 400 + ((367 * m - 362) / 12 + adj y m + d)
theorem valid_11 (y : Int) : Valid y 1 1 := by unfold Valid mlen; omega
theorem months {m : Int} (h : 1 ≤ m ∧ m ≤ 12) : m = 1 ∨ m = 2 ∨ m = 3 ∨ m = 4 ∨ m = 5 ∨ m = 6 ∨ m = 7 ∨ m = 8 ∨ m = 9 ∨ m = 10 ∨ m = 11 ∨ m = 12 := by omega
/-- Bool as int -/
def bi (b : Bool) : Int := if b = true then 1 else 0
theorem leap_iff (y : Int) : leapB y = true ↔ (y % 4 = 0 ∧ (y % 100 ≠ 0 ∨ y % 400 = 0)) := by unfold leapB; simp

theorem month_ok {Y yd la M : Int} {b : Bool} (hb : leapB Y = b) (h0 : 0 ≤ yd) (h1 : yd ≤ 364 + bi b)
    (hla : (yd < 58 + bi b ∧ la = 0) ∨ (58 + bi b ≤ yd ∧ b = true ∧ la = 1) ∨ (58 + bi b ≤ yd ∧ b = false ∧ la = 2)) (hM : ((yd + la) * 12 + 373) / 367 = M) :
    1 ≤ M ∧ M ≤ 12 ∧ ∃ cu, cu = (367 * M - 362) / 12 + adj Y M ∧ cu ≤ yd ∧ yd - cu + 1 ≤ mlen Y M := by
  have hbb : bi b = 0 ∨ bi b = 1 := by cases b <;> simp [bi]
  have r1 : 1 ≤ M ∧ M ≤ 12 := by
    have e1 : bi true = 1 := rfl
    have e2 : bi false = 0 := rfl
    cases b
    · rw [e2] at h1 hla; simp at hla; omega
    · rw [e1] at h1 hla; simp at hla; omega
  refine ⟨r1.1, r1.2, _, rfl, ?_⟩
  unfold adj mlen
  rw [hb]
  cases b with
  | true =>
    have e : bi true = 1 := rfl
    rw [e] at h1 hla
    rcases months r1 with rfl | rfl | rfl | rfl | rfl | rfl | rfl | rfl | rfl | rfl | rfl | rfl <;> (simp at hla ⊢; omega)
  | false =>
    have e : bi false = 0 := rfl
    rw [e] at h1 hla
    rcases months r1 with rfl | rfl | rfl | rfl | rfl | rfl | rfl | rfl | rfl | rfl | rfl | rfl <;> (simp at hla ⊢; omega)

/-- where from_jd's quotients lead -/
theorem year_ok {N A1 q R1 c R2 u R3 v Y : Int} (hA1 : (6885698 + 4 * N - 2) / 4 = A1) (hq : (4 * A1 + 2 - 6885702) / (4 * 146097) = q) (hR1 : (4 * A1 + 2 - 6885702) % (4 * 146097) = R1)
    (hc : R1 / (4 * 36524) = c) (hR2 : R1 % (4 * 36524) = R2) (hu : R2 / (4 * 1461) = u) (hR3 : R2 % (4 * 1461) = R3) (hv : R3 / (4 * 365) = v)
    (hY : ((c = 4 ∨ v = 4) ∧ q * 400 + c * 100 + u * 4 + v = Y) ∨ ((c ≠ 4 ∧ v ≠ 4) ∧ q * 400 + c * 100 + u * 4 + v + 1 = Y)) :
    ∃ yd, dn Y 1 1 = N - yd ∧ 0 ≤ yd ∧ yd ≤ 364 + bi (leapB Y) := by
  have a1 : A1 = N + 1721424 := by omega
  have d1 : N - 1 = 146097 * q + R1 / 4 ∧ R1 = 4 * (R1 / 4) ∧ 0 ≤ R1 / 4 ∧ R1 / 4 ≤ 146096 := by omega
  generalize hr1 : R1 / 4 = r1 at d1
  have d2 : r1 = 36524 * c + R2 / 4 ∧ R2 = 4 * (R2 / 4) ∧ 0 ≤ R2 / 4 ∧ R2 / 4 ≤ 36523 ∧ 0 ≤ c ∧ c ≤ 4 := by omega
  generalize hr2 : R2 / 4 = r2 at d2
  have d3 : r2 = 1461 * u + R3 / 4 ∧ R3 = 4 * (R3 / 4) ∧ 0 ≤ R3 / 4 ∧ R3 / 4 ≤ 1460 ∧ 0 ≤ u ∧ u ≤ 24 := by omega
  generalize hr3 : R3 / 4 = r3 at d3
  have d4 : 0 ≤ v ∧ v ≤ 4 ∧ 0 ≤ r3 - 365 * v ∧ r3 - 365 * v ≤ 364 := by omega
  have hD : N - 1 = 146097 * q + 36524 * c + 1461 * u + r3 := by omega
  have e1 : dn Y 1 1 = 365 * (Y - 1) + (Y - 1) / 4 - (Y - 1) / 100 + (Y - 1) / 400 + 1 := by unfold dn adj; simp
  have hl := leap_iff Y
  have hbi : bi (leapB Y) = 1 ∨ bi (leapB Y) = 0 := by unfold bi; split <;> simp
  clear hA1 hq hR1 hc hR2 hu hR3 hv a1 hr1 hr2 hr3
  rcases hY with ⟨h, hY⟩ | ⟨⟨h, h'⟩, hY⟩
  · have hleap : leapB Y = true ∧ (Y - 1) / 4 - (Y - 1) / 100 + (Y - 1) / 400 + 365 * (Y - 1) + 1 = N - 365 := by
      rw [hl]
      rcases h with h | h
      · have g : Y = 400 * q + 400 ∧ r3 = 0 ∧ u = 0 := by omega
        omega
      · by_cases hc4 : c = 4
        · omega
        have g : Y = 400 * q + 100 * c + 4 * u + 4 ∧ r3 = 1460 ∧ u ≤ 23 := by omega
        have f1 : (Y - 1) / 4 = 100 * q + 25 * c + u := by omega
        have f2 : (Y - 1) / 100 = 4 * q + c := by omega
        have f3 : (Y - 1) / 400 = q := by omega
        rw [f1, f2, f3]
        omega
    refine ⟨365, ?_, by omega, ?_⟩
    · rw [e1]; omega
    · rw [hleap.1]; decide
  · refine ⟨r3 - 365 * v, ?_, by omega, by omega⟩
    rw [e1]
    have f1 : (Y - 1) / 4 = 100 * q + 25 * c + u := by omega
    have f2 : (Y - 1) / 100 = 4 * q + c := by omega
    have f3 : (Y - 1) / 400 = q := by omega
    rw [f1, f2, f3]
    omega
theorem year_fits {N A1 q R1 c R2 u R3 v Y : Int} (hN : -30000000 ≤ N ∧ N ≤ 2880000000) (hA1 : (6885698 + 4 * N - 2) / 4 = A1) (hq : (4 * A1 + 2 - 6885702) / (4 * 146097) = q) (hR1 : (4 * A1 + 2 - 6885702) % (4 * 146097) = R1)
    (hc : R1 / (4 * 36524) = c) (hR2 : R1 % (4 * 36524) = R2) (hu : R2 / (4 * 1461) = u) (hR3 : R2 % (4 * 1461) = R3) (hv : R3 / (4 * 365) = v)
    (hY : ((c = 4 ∨ v = 4) ∧ q * 400 + c * 100 + u * 4 + v = Y) ∨ ((c ≠ 4 ∧ v ≠ 4) ∧ q * 400 + c * 100 + u * 4 + v + 1 = Y)) :
    -8000000 ≤ Y ∧ Y ≤ 8000000 ∧ A1 = N + 1721424 ∧ (-210 ≤ q ∧ q ≤ 20000) ∧ (0 ≤ c ∧ c ≤ 4) ∧ (0 ≤ u ∧ u ≤ 25) ∧ (0 ≤ v ∧ v ≤ 4) ∧ (0 ≤ R1 ∧ R1 ≤ 584388) ∧ (0 ≤ R2 ∧ R2 ≤ 146096) ∧ (0 ≤ R3 ∧ R3 ≤ 5844) := by
  have b1 : A1 = N + 1721424 := by omega
  have b2 : -210 ≤ q ∧ q ≤ 19800 ∧ 0 ≤ R1 ∧ R1 < 584388 := by omega
  have b3 : 0 ≤ c ∧ c ≤ 4 ∧ 0 ≤ R2 ∧ R2 < 146096 := by omega
  have b4 : 0 ≤ u ∧ u ≤ 25 ∧ 0 ≤ R3 ∧ R3 < 5844 := by omega
  have b5 : 0 ≤ v ∧ v ≤ 4 := by omega
  omega
end
section
/-! the calendar, plain, further: the next day, one date a number -/
theorem mlen_pos {y m : Int} : 28 ≤ mlen y m ∧ mlen y m ≤ 31 := by unfold mlen; repeat' split <;> omega
theorem dn_add (y m d k : Int) : dn y m (d + k) = dn y m d + k := by unfold dn; omega
theorem dn_month {y m : Int} (h : 1 ≤ m ∧ m ≤ 11) : dn y (m + 1) 1 = dn y m (mlen y m) + 1 := by
  have hm : m = 1 ∨ m = 2 ∨ m = 3 ∨ m = 4 ∨ m = 5 ∨ m = 6 ∨ m = 7 ∨ m = 8 ∨ m = 9 ∨ m = 10 ∨ m = 11 := by omega
  unfold dn adj mlen
  generalize leapB y = b
  rcases hm with rfl | rfl | rfl | rfl | rfl | rfl | rfl | rfl | rfl | rfl | rfl <;> cases b <;> simp <;> omega
theorem dn_year (y : Int) : dn (y + 1) 1 1 = dn y 12 31 + 1 := by
  have hl := leap_iff y
  unfold dn adj
  cases hb : leapB y
  · rw [hb] at hl
    simp
    simp at hl
    omega
  · rw [hb] at hl
    simp
    simp at hl
    omega
theorem mlen12 (y : Int) : mlen y 12 = 31 := by unfold mlen; simp
theorem next_day {y m d : Int} (h : Valid y m d) (hd : d < mlen y m) : Valid y m (d + 1) ∧ dn y m (d + 1) = dn y m d + 1 := by
  unfold Valid at *
  exact ⟨by omega, dn_add y m d 1⟩
theorem next_month {y m d : Int} (h : Valid y m d) (hd : ¬ d < mlen y m) (hm : m < 12) : Valid y (m + 1) 1 ∧ dn y (m + 1) 1 = dn y m d + 1 := by
  unfold Valid at *
  have hp := mlen_pos (y := y) (m := m + 1)
  have e : d = mlen y m := by omega
  exact ⟨by omega, by rw [dn_month (by omega), e]⟩
theorem next_year {y m d : Int} (h : Valid y m d) (hd : ¬ d < mlen y m) (hm : ¬ m < 12) : Valid (y + 1) 1 1 ∧ dn (y + 1) 1 1 = dn y m d + 1 := by
  unfold Valid at h
  have e12 : m = 12 := by omega
  subst e12
  rw [mlen12] at *
  have e : d = 31 := by omega
  subst e
  exact ⟨valid_11 _, dn_year y⟩

/-- a date's place in its year -/
theorem in_year {y m d : Int} (h : Valid y m d) : dn y 1 1 ≤ dn y m d ∧ dn y m d < dn (y + 1) 1 1 := by
  rw [dn_year]
  unfold Valid at h
  have hm := months ⟨h.1, h.2.1⟩
  obtain ⟨_, _, h1, h2⟩ := h
  unfold dn adj
  unfold mlen at h2
  generalize leapB y = b at *
  rcases hm with rfl | rfl | rfl | rfl | rfl | rfl | rfl | rfl | rfl | rfl | rfl | rfl <;> cases b <;> simp at h2 ⊢ <;> omega
theorem years_up {y y' : Int} (h : y < y') : dn (y + 1) 1 1 ≤ dn y' 1 1 := by
  have e : ∀ z, dn z 1 1 = 365 * (z - 1) + (z - 1) / 4 - (z - 1) / 100 + (z - 1) / 400 + 1 := fun z => by unfold dn adj; simp
  rw [e, e]
  omega
theorem same_month {y m d m' d' : Int} (h : Valid y m d) (h' : Valid y m' d') (he : dn y m d = dn y m' d') (hlt : m < m') : False := by
  unfold Valid at h h'
  have hm := months ⟨h.1, h.2.1⟩
  have hm' := months ⟨h'.1, h'.2.1⟩
  obtain ⟨_, _, h1, h2⟩ := h
  obtain ⟨_, _, h1', h2'⟩ := h'
  unfold mlen at h2
  unfold dn at he
  have c : ∀ k, 1 ≤ k ∧ k ≤ 12 → adj y k = (if k ≤ 2 then 0 else if leapB y then -1 else -2) := fun k _ => by unfold adj; rfl
  rw [c m (by omega), c m' (by omega)] at he
  clear c h2'
  generalize leapB y = b at *
  generalize 365 * (y - 1) + (y - 1) / 4 - (y - 1) / 100 + (y - 1) / 400 = B at *
  rcases hm with rfl | rfl | rfl | rfl | rfl | rfl | rfl | rfl | rfl | rfl | rfl | rfl <;> cases b <;> simp at h2 he <;> split at he <;> omega
theorem dn_inj {y m d y' m' d' : Int} (h : Valid y m d) (h' : Valid y' m' d') (he : dn y m d = dn y' m' d') : y = y' ∧ m = m' ∧ d = d' := by
  have a := in_year h
  have a' := in_year h'
  have ey : y = y' := by
    rcases Int.lt_trichotomy y y' with c | c | c
    · have := years_up c; omega
    · exact c
    · have := years_up c; omega
  subst ey
  have em : m = m' := by
    rcases Int.lt_trichotomy m m' with c | c | c
    · exact (same_month h h' he c).elim
    · exact c
    · exact (same_month h' h he.symm c).elim
  subst em
  refine ⟨rfl, rfl, ?_⟩
  unfold dn at he
  omega
theorem year_of_dn {y m d : Int} (h : Valid y m d) (hn : -30000000 ≤ dn y m d ∧ dn y m d ≤ 2880000000) : -8000000 ≤ y ∧ y ≤ 8000000 := by
  have a := in_year h
  have e : ∀ z, dn z 1 1 = 365 * (z - 1) + (z - 1) / 4 - (z - 1) / 100 + (z - 1) / 400 + 1 := fun z => by unfold dn adj; simp
  rw [e, e] at a
  omega
end
section
/-! the walk of _law_sun, plain -/
theorem aug (y : Int) : dn y 8 11 = 365 * y + y / 4 - y / 100 + y / 400 - 142 := by
  have hl := leap_iff y
  unfold dn adj
  cases hb : leapB y
  · rw [hb] at hl
    simp
    simp at hl
    omega
  · rw [hb] at hl
    simp
    simp at hl
    omega
theorem fmodp (y k : Int) (h : 0 ≤ k) : y.fmod k = y % k := Int.fmod_eq_emod_of_nonneg _ h
theorem sp100t {y : Int} (hb : leapB (y + 100 - y.fmod 100) = true) : dn (y + 100) 8 11 = dn y 8 11 + 36525 := by
  have hl := (leap_iff _).mp hb
  rw [fmodp y 100 (by decide)] at hl
  rw [aug, aug]
  omega
theorem sp100f {y : Int} (hb : leapB (y + 100 - y.fmod 100) = false) : dn (y + 100) 8 11 = dn y 8 11 + 36524 := by
  have hl := leap_iff (y + 100 - y.fmod 100)
  rw [hb, fmodp y 100 (by decide)] at hl
  simp at hl
  rw [aug, aug]
  omega
theorem sp4t {y : Int} (hb : leapB (y + 4 - y.fmod 4) = true) : dn (y + 4) 8 11 = dn y 8 11 + 1461 := by
  have hl := (leap_iff _).mp hb
  rw [fmodp y 4 (by decide)] at hl
  rw [aug, aug]
  omega
theorem sp4f {y : Int} (hb : leapB (y + 4 - y.fmod 4) = false) : dn (y + 4) 8 11 = dn y 8 11 + 1460 := by
  have hl := leap_iff (y + 4 - y.fmod 4)
  rw [hb, fmodp y 4 (by decide)] at hl
  simp at hl
  rw [aug, aug]
  omega
theorem sp1t {y : Int} (hb : leapB (y + 1 - y.fmod 1) = true) : dn (y + 1) 8 11 = dn y 8 11 + 366 := by
  have hl := (leap_iff _).mp hb
  rw [fmodp y 1 (by decide)] at hl
  rw [aug, aug]
  omega
theorem sp1f {y : Int} (hb : leapB (y + 1 - y.fmod 1) = false) : dn (y + 1) 8 11 = dn y 8 11 + 365 := by
  have hl := leap_iff (y + 1 - y.fmod 1)
  rw [hb, fmodp y 1 (by decide)] at hl
  simp at hl
  rw [aug, aug]
  omega
theorem sun_start {n q r : Int} (hq : q = n / 146097) (hr : r = n % 146097) : 0 ≤ r ∧ dn (400 * q - 3113) 8 11 + r = n - 1137142 := by
  rw [aug]
  omega
theorem sun_start0 (n : Int) : 0 ≤ n.fmod 146097 ∧ dn (400 * n.fdiv 146097 - 3113) 8 11 + n.fmod 146097 = n - 1137142 := by
  rw [fmodp n _ (by decide), Int.fdiv_eq_ediv_of_nonneg _ (by decide)]
  exact sun_start rfl rfl
theorem st100t {y l N : Int} (h : dn y 8 11 + l = N) (hb : leapB (y + 100 - y.fmod 100) = true) (hl : 36524 + 1 ≤ l) : 0 ≤ l - (36524 + 1) ∧ dn (y + 100) 8 11 + (l - (36524 + 1)) = N := by
  rw [sp100t hb]
  omega
theorem st100f {y l N : Int} (h : dn y 8 11 + l = N) (hb : leapB (y + 100 - y.fmod 100) = false) (hl : 36524 + 0 ≤ l) : 0 ≤ l - (36524 + 0) ∧ dn (y + 100) 8 11 + (l - (36524 + 0)) = N := by
  rw [sp100f hb]
  omega
theorem st4t {y l N : Int} (h : dn y 8 11 + l = N) (hb : leapB (y + 4 - y.fmod 4) = true) (hl : 1460 + 1 ≤ l) : 0 ≤ l - (1460 + 1) ∧ dn (y + 4) 8 11 + (l - (1460 + 1)) = N := by
  rw [sp4t hb]
  omega
theorem st4f {y l N : Int} (h : dn y 8 11 + l = N) (hb : leapB (y + 4 - y.fmod 4) = false) (hl : 1460 + 0 ≤ l) : 0 ≤ l - (1460 + 0) ∧ dn (y + 4) 8 11 + (l - (1460 + 0)) = N := by
  rw [sp4f hb]
  omega
theorem st1t {y l N : Int} (h : dn y 8 11 + l = N) (hb : leapB (y + 1 - y.fmod 1) = true) (hl : 365 + 1 ≤ l) : 0 ≤ l - (365 + 1) ∧ dn (y + 1) 8 11 + (l - (365 + 1)) = N := by
  rw [sp1t hb]
  omega
theorem st1f {y l N : Int} (h : dn y 8 11 + l = N) (hb : leapB (y + 1 - y.fmod 1) = false) (hl : 365 + 0 ≤ l) : 0 ≤ l - (365 + 0) ∧ dn (y + 1) 8 11 + (l - (365 + 0)) = N := by
  rw [sp1f hb]
  omega
theorem valid_aug (y : Int) : Valid y 8 11 := by unfold Valid mlen; omega
end
section
open PySem.Spec PySem.Calls
set_option maxRecDepth 100000
namespace FF
def bound (x : Str) (t : Tok) : Obj := { cls := .type "builtin_function_or_method", data := .fields #[.builtin "str.format", .str x t] }
theorem lk_format : typeLookup (.type "str") "format" = pure (some (.builtin "str.format")) := by rw [typeLookup_type, builtinLookup_eq_fast]; kernel_rfl
theorem lk_hook : typeLookup (.type "str") "__getattr__" = pure none := by rw [typeLookup_type, builtinLookup_eq_fast]; kernel_rfl
theorem lk_get : typeLookup (.type "method_descriptor") "__get__" = pure (some (.builtin "method_descriptor.__get__")) := by rw [typeLookup_type, builtinLookup_eq_fast]; kernel_rfl
theorem lk_set : typeLookup (.type "method_descriptor") "__set__" = pure none := by rw [typeLookup_type, builtinLookup_eq_fast]; kernel_rfl
theorem lk_del : typeLookup (.type "method_descriptor") "__delete__" = pure none := by rw [typeLookup_type, builtinLookup_eq_fast]; kernel_rfl
theorem type_format : typeOf (.builtin "str.format") = pure (.type "method_descriptor") := by show builtinType _ = _; rw [builtinType_eq_fast]; kernel_rfl
theorem slot_get : Slot "method_descriptor" "__get__" "method_descriptor.__get__" :=
  .of (owner := "method_descriptor") (n := "__get__") (by rw [typeLookup_type, builtinLookup_eq_fast]; kernel_rfl) (by decide +kernel) (by decide +kernel) (by decide +kernel)
    (by first | exact .inl (by decide +kernel) | exact .inr (by decide +kernel)) (by rw [isSubtype_type]; kernel_rfl)
theorem entry_get : entryFor table "method_descriptor.__get__" = some Builtin.«method_descriptor.__get__» := entryFor_of_tree (by kernel_rfl)
theorem args_get (a b c : Value) : argsOk "method_descriptor.__get__" ⟨[a, b, c], []⟩ := by unfold argsOk; kernel_rfl
theorem sub_str : isSubtype (.type "str") (.type "str") = pure true := by rw [isSubtype_type]; kernel_rfl
theorem own : ".".intercalate ("str.format".cutAt '.').dropLast = "str" := by first | decide +kernel | kernel_rfl
theorem sub_own : isSubtype (.type "str") (.type (".".intercalate ("str.format".cutAt '.').dropLast)) = pure true := by rw [own, isSubtype_type]; kernel_rfl
section
variable {prog : Program} {w : World} {A : Around} {E : Value → Shared → Prop} {s : Shared} {K : Frag} {h₀ : Heap} {L : Addr} {m : PySem.Str → Option Value} {news : List (Addr × Obj)} {x : Str} {t : Tok}
theorem run_get {P : Fin → Shared → Prop} (h : P (.done (.ret (.ref s.heap.objs.size))) { s with heap := s.heap.push (bound x t) }) :
    wpAny (model prog w) A (Builtin.«method_descriptor.__get__» ⟨[.builtin "str.format", .str x t, .type "str"], []⟩) P E s := by
  have hT : s.TypeIs (.str x t) "str" := rfl
  have f1 := sub_own
  unfold Builtin.«method_descriptor.__get__»
  refine wpAny_bind (wpAny_of_eq (a := (.builtin "str.format", some (.str x t), some (.type "str"))) (by first | rfl | kernel_rfl) ?_)
  repeat (any_goals (first | assumption | wp_step))
set_option maxHeartbeats 2000000 in
theorem ff_entry {tk : Tok} {Q : Fin → Shared → Prop} (h : Q (.done (.ret (.ref s.heap.objs.size))) { s with heap := s.heap.push (bound x t) }) :
    wpAny (model prog w) A (Builtin.«object.__getattribute__» ⟨[.str x t, .str "format" tk], []⟩) Q E s := by
  have hT : s.TypeIs (.str x t) "str" := rfl
  have hT5 : s.TypeIs (.builtin "str.format") "method_descriptor" := type_format
  have f4 := lk_format
  have f6 := lk_get
  have f7 := lk_set
  have f8 := lk_del
  obtain ⟨hp, g, d, tk, os⟩ := s
  unfold Builtin.«object.__getattribute__»
  repeat (any_goals (first | assumption | wp_step))
  refine codeAny_call_builtin slot_get.plain entry_get (slot_get.check _ _ _ _ _ _ _ _ hT5 (args_get _ _ _) (run_get ?_))
  repeat (any_goals (first | assumption | wp_step))
set_option maxHeartbeats 2000000 in
theorem getAttr_format {ex : Bool} {Q : Value → Shared → Prop} (h : Q (.ref s.heap.objs.size) { s with heap := s.heap.push (bound x t), toks := s.toks + 1 }) :
    wpAny (model prog w) A (getAttr (.str x t) "format" ex) Q E s := by
  obtain ⟨hp, g, d, tk, os⟩ := s
  have hT : ∀ s' : Shared, s'.TypeIs (.str x t) "str" := fun _ => rfl
  have f3 := F.slot_str_getattribute.lookup
  have f4 := F.slot_str_getattribute.bind (.str x t)
  have f5 := lk_hook
  cases ex
  all_goals (
    unfold getAttr getAttrBy
    repeat (any_goals (first | assumption | (rw [if_neg (show ¬ (true && onTheHeap (Value.builtin "object.__getattribute__")) = true by decide)]) | wp_step))
    refine codeAny_call_builtin F.slot_str_getattribute.plain F.entry_object_getattribute (F.slot_str_getattribute.check _ _ _ _ _ _ _ _ (hT _) (F.args_object_getattribute_2 _ _) (ff_entry ?_))
    repeat (any_goals (first | assumption | wp_step)))
theorem getAttr_fr {ex : Bool} {Q : Value → Shared → Prop} (F : Fr h₀ L s.heap m) (N : News h₀ L s.heap news)
    (h : ∀ q h', Fr h₀ L h' m → News h₀ L h' ((q, bound x t) :: news) → (∀ p ∈ news, p.1 < q) → Q (.ref q) { s with heap := h', toks := s.toks + 1 }) :
    wpAny (model prog w) A (getAttr (.str x t) "format" ex) Q E s :=
  getAttr_format (h _ _ (F.push _) (News.push F N _) fun p hp => Heap.lt_size (N p hp).1)
theorem keeper {hh : Heap} {q : Addr} (ho : hh.get? q = some (bound x t)) : Looks (model prog w) hh (keeperOf (.ref q)) .machine := by
  intro A Q E s' k q
  unfold keeperOf
  refine wpAny_bind (wpAny_load (k _ _ ho) ?_)
  simp only [bound, show (Value.type "builtin_function_or_method" != Value.type "method") = true by decide, show (Value.type "builtin_function_or_method" == Value.type "builtin_function_or_method" || Value.type "builtin_function_or_method" == Value.type "method-wrapper") = true by decide, if_true]
  exact wpAny_pure q
theorem check_format {a b c d : Value} : checkBoundCall "str.format" ⟨[.str x t, a, b, c, d], []⟩ = pure () := by first | kernel_rfl | rfl
theorem quiet_format {as : Args} : (Code.builtin "str.format" as).quiet = true := Code.quiet_builtin _ (by decide +kernel)
theorem if_so {α : Type} {M : Model} {A : Around} {E : Value → Shared → Prop} {s : Shared} {c : Bool} {a b : Sem α} {Q : α → Shared → Prop} (hc : c = true) (h : wpAny M A a Q E s) : wpAny M A (if c = true then a else b) Q E s := by
  subst hc
  exact h
theorem entry_format : entryFor table "str.format" = some Builtin.«str.format» := F.entry_str_format_m
theorem call_of {q : Addr} {a b c d : Value} {T : Str} {Q : Value → Shared → Prop} (ho : s.heap.get? q = some (bound x t))
    (hm : ∀ (A : Around) (Q : Fin → Shared → Prop) (E : Value → Shared → Prop), (∀ t' k, Q (.done (.ret (.str T t'))) { s with toks := k }) → wpAny (model prog w) A (Builtin.«str.format» ⟨[.str x t, a, b, c, d], []⟩) Q E s)
    (h : ∀ t' k, Q (.str T t') { s with toks := k }) : wpAny (model prog w) A (call (.ref q) [a, b, c, d]) Q E s := by
  refine wpAny_call (codeAny_of_tree ?_)
  show wpAny _ A.in1 (callAny (.ref q) ⟨[a, b, c, d], []⟩) _ _ s
  simp only [callAny]
  refine wpAny_bind (wpAny_load ho ?_)
  simp only [bound, show (Value.type "builtin_function_or_method" == Value.type "method" || Value.type "builtin_function_or_method" == Value.type "builtin_function_or_method" || Value.type "builtin_function_or_method" == Value.type "method-wrapper") = true by decide, if_true]
  show wpAny _ _ (do checkBoundCall "str.format" ⟨[.str x t, a, b, c, d], []⟩; again (Code.builtin "str.format" ⟨[.str x t, a, b, c, d], []⟩)) _ _ _
  refine wpAny_bind (wpAny_of_eq (a := ()) check_format ?_)
  refine wpAny_bind (wpAny_pure (wpAny_pure ?_))
  exact ⟨quiet_format, codeAny_builtin entry_format (hm _ _ _ fun t' k => h t' k)⟩
end
open Builtin Builtin.Str
section
variable {prog : Program} {w : World} {A : Around} {E : Value → Shared → Prop} {s : Shared}
theorem field_man {id : String} {a : Array Value} {byName : PySem.Str → Sem Value} {i c : Nat} {v : Value} {num : Numbering} {Q : Value × Numbering → Shared → Prop} (hn : num = .unset ∨ num = .manual) (hk : fieldKey [c] = .index i) (hc : (c != 46 && c != 91) = true) (ha : a[i]? = some v)
    (h : Q (v, .manual) s) : wpAny (model prog w) A (fieldObject id (some a) byName [c] num) Q E s := by
  have hs : List.span (fun c => c != 46 && c != 91) [c] = ([c], []) := by
    unfold List.span List.span.loop
    rw [hc]
    rfl
  unfold fieldObject
  rw [hs]
  dsimp only
  rw [hk]
  refine wpAny_bind (wpAny_pure ?_)
  rcases hn with e | e <;> subst e
  all_goals
    refine wpAny_bind (wpAny_pure ?_)
    simp only [ha, pure_bind]
    rw [KPc.range_list]
    exact wpAny_bind (wpAny_pure (wpAny_pure h))
def fmtText : Str := ⟨#[123, 48, 125, 32, 123, 49, 125, 32, 123, 50, 125, 32, 123, 51, 125]⟩
theorem fmtText_is : Str.ofString "{0} {1} {2} {3}" = ⟨#[123, 48, 125, 32, 123, 49, 125, 32, 123, 50, 125, 32, 123, 51, 125]⟩ := by decide +kernel
set_option maxHeartbeats 2000000 in
theorem run_format {t ta tx tc ty : Tok} {a c : Int} {x y : Str} {T : Str} {Q : Fin → Shared → Prop} (ha0 : 0 ≤ a) (ha : a < 10 ^ 10) (hc0 : 0 ≤ c) (hc : c < 10 ^ 10) (hx : x.length ≤ 1000000) (hy : y.length ≤ 1000000)
    (hT : T = Str.ofString (toString a) ++ Str.ofString " " ++ x ++ Str.ofString " " ++ Str.ofString (toString c) ++ Str.ofString " " ++ y)
    (h : ∀ t' k, Q (.done (.ret (.str T t'))) { s with toks := k }) :
    wpAny (model prog w) A (Builtin.«str.format» ⟨[.str ⟨#[123, 48, 125, 32, 123, 49, 125, 32, 123, 50, 125, 32, 123, 51, 125]⟩ t, .int a ta, .str x tx, .int c tc, .str y ty], []⟩) Q E s := by
  subst hT
  unfold Builtin.«str.format»
  refine wpAny_bind (wpAny_of_eq (a := (_, _, _)) rfl ?_)
  refine wpAny_bind ?_
  unfold Builtin.Str.buildString
  refine wpAny_bind ?_
  rw [KPc.range_list]
  refine KFm.start ?_
  intro _ _
  refine KPc.turn ?_
  kpc_if
  kpc_check
  refine wpAny_bind (field_man (c := 48) (i := 0) (by first | exact Or.inl rfl | exact Or.inr rfl) (by kernel_rfl) rfl (by rfl) ?_)
  refine wpAny_bind (wpAny_holding (wpAny_of_eq (a := _) rfl ?_))
  kpc_if
  refine wpAny_bind (wpAny_pure ?_)
  kfm_val
  refine wpAny_bind (wpAny_of_eq (a := some _) rfl ?_)
  refine wpAny_pure ?_
  refine KFm.after_field (by kpc_g) (by kpc_text) (by kpc_obj) (by kfm_len) (by kpc_obj) (by kfm_cat2) (by kfm_rest) ?_
  intro _ _
  refine KPc.turn ?_
  kpc_if
  kpc_check
  refine wpAny_bind (field_man (c := 49) (i := 1) (by first | exact Or.inl rfl | exact Or.inr rfl) (by kernel_rfl) rfl (by rfl) ?_)
  refine wpAny_bind (wpAny_holding (wpAny_of_eq (a := _) rfl ?_))
  kpc_if
  refine wpAny_bind (wpAny_pure ?_)
  kfm_val
  refine wpAny_bind (wpAny_of_eq (a := some _) rfl ?_)
  refine wpAny_pure ?_
  refine KFm.after_field (by kpc_g) (by kpc_text) (by kpc_obj) (by kfm_len) (by kpc_obj) (by kfm_cat2) (by kfm_rest) ?_
  intro _ _
  refine KPc.turn ?_
  kpc_if
  kpc_check
  refine wpAny_bind (field_man (c := 50) (i := 2) (by first | exact Or.inl rfl | exact Or.inr rfl) (by kernel_rfl) rfl (by rfl) ?_)
  refine wpAny_bind (wpAny_holding (wpAny_of_eq (a := _) rfl ?_))
  kpc_if
  refine wpAny_bind (wpAny_pure ?_)
  kfm_val
  refine wpAny_bind (wpAny_of_eq (a := some _) rfl ?_)
  refine wpAny_pure ?_
  refine KFm.after_field (by kpc_g) (by kpc_text) (by kpc_obj) (by kfm_len) (by kpc_obj) (by kfm_cat2) (by kfm_rest) ?_
  intro _ _
  refine KPc.turn ?_
  kpc_if
  kpc_check
  refine wpAny_bind (field_man (c := 51) (i := 3) (by first | exact Or.inl rfl | exact Or.inr rfl) (by kernel_rfl) rfl (by rfl) ?_)
  refine wpAny_bind (wpAny_holding (wpAny_of_eq (a := _) rfl ?_))
  kpc_if
  refine wpAny_bind (wpAny_pure ?_)
  kfm_val
  refine wpAny_bind (wpAny_of_eq (a := some _) rfl ?_)
  refine wpAny_pure ?_
  refine KFm.after_field (by kpc_g) (by kpc_text) (by kpc_obj) (by kfm_len) (by kpc_obj) (by kfm_cat2) (by kfm_rest) ?_
  intro _ _
  refine KPc.turn ?_
  kpc_if
  kfm_close
theorem call_fmt {q : Addr} {X : Str} {t ta tx tc ty : Tok} {a c : Int} {x y : Str} {Q : Value → Shared → Prop} (ho : s.heap.get? q = some (bound X t)) (hX : X = Str.ofString "{0} {1} {2} {3}") (ha0 : 0 ≤ a) (ha : a < 1000) (hc0 : 0 ≤ c) (hc : c < 1000) (hx : x.length ≤ 1000000) (hy : y.length ≤ 1000000)
    (h : ∀ t' k, Q (.str (Str.ofString (toString a) ++ Str.ofString " " ++ x ++ Str.ofString " " ++ Str.ofString (toString c) ++ Str.ofString " " ++ y) t') { s with toks := k }) :
    wpAny (model prog w) A (call (.ref q) [.int a ta, .str x tx, .int c tc, .str y ty]) Q E s := by
  rw [hX, fmtText_is] at ho
  exact call_of ho (fun A Q E h' => run_format ha0 (by omega) hc0 (by omega) hx hy rfl h') h
theorem callAttr_star {M : Model} {A : Around} {E : Value → Shared → Prop} {s : Shared} {env : Env} {o e : Expr} {name : Str} {apos pos p : Pos} {Q : Value → Shared → Prop}
    (h : wpAny M A (eval o env) (fun ov s₁ => wpAny M A (getAttr ov name true) (fun f s₂ => wpAny M A (callWith pos f [] (backTo pos (starEach [.Starred e p] env)) []) Q E s₂) E s₁) E s)
    (he : eval (.Call (.Attribute o name apos) [.Starred e p] [] pos) env = (do
      let ov ← eval o env
      standAt apos.atName
      let (f, first) ← holding [ov] (do pure (← getAttr ov name true, ([] : List Value)))
      callWith pos f first (backTo pos (starEach [.Starred e p] env)) []) := by rfl) :
    wpAny M A (eval (.Call (.Attribute o name apos) [.Starred e p] [] pos) env) Q E s := by
  rw [he]
  refine wpAny_bind (wpAny_mono h (fun ov s₁ h₁ => wpAny_bind (wpAny_standAt (wpAny_bind (wpAny_holding (wpAny_bind (wpAny_mono h₁ (fun fx s₂ h₂ => wpAny_pure ?_) fun _ _ x => x)))))) fun _ _ x => x)
  exact h₂
theorem callWith_SB {q : Addr} {X : Str} {t : Tok} {env : Env} {e : Expr} {pos p : Pos} {Q : Value → Shared → Prop} {h₀ : Heap} {L : Addr} {news : List (Addr × Obj)} (_N : News h₀ L s.heap news) (_hm : (q, bound X t) ∈ news) (h : wpAny (model prog w) A (eval e env) (fun v s₁ => StarOf (model prog w) A E v (fun vs s₂ => s₂.heap.get? q = some (bound X t) ∧ wpAny (model prog w) A (call (.ref q) vs) Q E s₂) s₁) E s)
    (he : starEach [.Starred e p] env = [(true, eval e env)] := by rfl) :
    wpAny (model prog w) A (callWith pos (.ref q) [] (backTo pos (starEach [.Starred e p] env)) []) Q E s := by
  rw [he]
  exact ks_call (P := fun h => h.get? q = some (bound X t)) rfl (fun h ho => ⟨.machine, by simp, keeper ho⟩) (ks_lone h)
end
end FF
end
open PySem.Spec PySem.Calls
section
abbrev PP : Program := PySem.Challenge.pw_ad5019_01
/-- what a call of the def at f with these values answers, in any frame and over any ledger; lv: the calls within calls -/
abbrev CVal (lv : Nat) (w : World) (f : Addr) (vs : List Value) (P : Value → Prop) : Prop :=
  ∀ (p : Program) (loose : List Str) (mean : ExcName → Option Value) (mg mb : Str → Option Value) (news : List (Addr × Obj)) (dp un : Nat) (gd : Option (List Code)) (cn : Str) (cs : Scope) (a : Addr) (ccd : Value) (cl : List (Str × Addr)) (outer : List Env) (A₀ : Around) (base h₀ : Heap) (L : Addr) (m : Str → Option Value) (s : Shared) (Q E : Value → Shared → Prop),
    Below A₀ base outer h₀ → Fr h₀ L s.heap m → (hd.heap_39 w.params).In h₀ → News h₀ L s.heap news → Top p loose mean mg mb h₀ → cs.kind = .function → dp + 4 * lv < recursionLimit → un + 100 * lv < cLine →
    (∀ v h' tk', P v → Fr h₀ L h' m → News h₀ L h' news → Q v { s with heap := h', toks := tk' }) →
    wpAny (model PP w) (ktrTop dp un gd cn cs L a ccd cl outer) (call (.ref f) vs) Q E s
/-- the same, of a def that hands back an object of its own making; pre: what the ledger bears -/
abbrev CObj (lv : Nat) (w : World) (f : Addr) (vs : List Value) (pre : List (Addr × Obj) → Prop) (P : Obj → Prop) : Prop :=
  ∀ (p : Program) (loose : List Str) (mean : ExcName → Option Value) (mg mb : Str → Option Value) (news : List (Addr × Obj)) (dp un : Nat) (gd : Option (List Code)) (cn : Str) (cs : Scope) (a : Addr) (ccd : Value) (cl : List (Str × Addr)) (outer : List Env) (A₀ : Around) (base h₀ : Heap) (L : Addr) (m : Str → Option Value) (s : Shared) (Q E : Value → Shared → Prop),
    Below A₀ base outer h₀ → Fr h₀ L s.heap m → (hd.heap_39 w.params).In h₀ → News h₀ L s.heap news → Top p loose mean mg mb h₀ → cs.kind = .function → dp + 4 * lv < recursionLimit → un + 100 * lv < cLine → pre news →
    (∀ D o h' tk', P o → Fr h₀ L h' m → News h₀ L h' ((D, o) :: news) → AllLt D news → Q (.ref D) { s with heap := h', toks := tk' }) →
    wpAny (model PP w) (ktrTop dp un gd cn cs L a ccd cl outer) (call (.ref f) vs) Q E s
section
variable {lv : Nat} {w : World} {f : Addr} {vs : List Value} {P : Value → Prop} {pre : List (Addr × Obj) → Prop} {P' : Obj → Prop} {p : Program} {loose : List Str} {mean : ExcName → Option Value} {mg mb : Str → Option Value} {news : List (Addr × Obj)} {dp un : Nat} {gd : Option (List Code)} {cn : Str} {cs : Scope} {a : Addr} {ccd : Value} {cl : List (Str × Addr)} {outer : List Env} {A₀ : Around} {base h₀ : Heap} {L : Addr} {m : Str → Option Value} {s : Shared} {Q E : Value → Shared → Prop}
theorem cval_use (C : CVal lv w f vs P) (B : Below A₀ base outer h₀) (F : Fr h₀ L s.heap m) (X : (hd.heap_39 w.params).In h₀) (N : News h₀ L s.heap news) (T : Top p loose mean mg mb h₀) (hk : cs.kind = .function) (hd : dp + 4 * lv < recursionLimit) (hu : un + 100 * lv < cLine)
    (ret : ∀ v h' tk', P v → Fr h₀ L h' m → News h₀ L h' news → Q v { s with heap := h', toks := tk' }) : wpAny (model PP w) (ktrTop dp un gd cn cs L a ccd cl outer) (call (.ref f) vs) Q E s :=
  C _ _ _ _ _ _ _ _ _ _ _ _ _ _ _ _ _ _ _ _ _ _ _ B F X N T hk hd hu ret
theorem cobj_use (C : CObj lv w f vs pre P') (B : Below A₀ base outer h₀) (F : Fr h₀ L s.heap m) (X : (hd.heap_39 w.params).In h₀) (N : News h₀ L s.heap news) (T : Top p loose mean mg mb h₀) (hk : cs.kind = .function) (hd : dp + 4 * lv < recursionLimit) (hu : un + 100 * lv < cLine) (hp : pre news)
    (ret : ∀ D o h' tk', P' o → Fr h₀ L h' m → News h₀ L h' ((D, o) :: news) → AllLt D news → Q (.ref D) { s with heap := h', toks := tk' }) : wpAny (model PP w) (ktrTop dp un gd cn cs L a ccd cl outer) (call (.ref f) vs) Q E s :=
  C _ _ _ _ _ _ _ _ _ _ _ _ _ _ _ _ _ _ _ _ _ _ _ B F X N T hk hd hu hp ret
end
theorem isq_eq {x : UInt64} {a b : Int} (h : IsQ x a) (e : a = b) : IsQ x b := e ▸ h
section
variable {w : World} {A : Around} {E : Value → Shared → Prop} {s : Shared} {h₀ : Heap} {L : Addr} {m : Str → Option Value} {x k : Int} {u t : Tok} {Q : Value → Shared → Prop} {value slice : PySem.Expr}
theorem in_have30 (F : Fr h₀ L s.heap m) (X : (hd.heap_39 w.params).In h₀) (h : Q (.bool (decide (x = 4 ∨ x = 6 ∨ x = 9 ∨ x = 11))) s) :
    wpAny (model PP w) A (compareOp .In (.int x u) (.ref 50)) Q E s := by
  have hl : (hd.heap_39 w.params).lookup 50 = some ⟨.type "tuple", none, .seq [Value.int 4 407, Value.int 6 408, Value.int 9 409, Value.int 11 410].toArray 0, #[]⟩ := rfl
  refine in_tuple_ints (ns := [4, 6, 9, 11]) (tupK (X.keeps F.keep) hl) ?_ ?_
  · exact .cons _ _ (.cons _ _ (.cons _ _ (.cons _ _ .nil)))
  · have e : ([4, 6, 9, 11] : List Int).any (· == x) = decide (x = 4 ∨ x = 6 ∨ x = 9 ∨ x = 11) := by
      rw [Bool.eq_iff_iff]; simp only [List.any_cons, List.any_nil, Bool.or_false, Bool.or_eq_true, beq_iff_eq, decide_eq_true_eq]; omega
    rw [e]; exact h
end
/-- where a walk is to halt -/
def Stop (P : Prop) : Prop := P
theorem stop {P : Prop} (h : Stop P) : P := h
theorem Stop.out {P : Prop} (h : P) : Stop P := h
/-! the tables of names -/
def haabs : List Str := [Str.ofString "Pop", Str.ofString "Wo'", Str.ofString "Zip", Str.ofString "Sotz'", Str.ofString "Sek", Str.ofString "Xul", Str.ofString "Yaxk'in'", Str.ofString "Mol", Str.ofString "Ch'en", Str.ofString "Yax", Str.ofString "Sak'", Str.ofString "Keh", Str.ofString "Mak", Str.ofString "K'ank'in", Str.ofString "Muwan'", Str.ofString "Pax", Str.ofString "K'ayab", Str.ofString "Kumk'u", Str.ofString "Wayeb'"]
def tzols : List Str := [Str.ofString "Imix'", Str.ofString "Ik'", Str.ofString "Ak'b'al", Str.ofString "K'an", Str.ofString "Chikchan", Str.ofString "Kimi", Str.ofString "Manik'", Str.ofString "Lamat", Str.ofString "Muluk", Str.ofString "Ok", Str.ofString "Chuwen", Str.ofString "Eb'", Str.ofString "B'en", Str.ofString "Ix", Str.ofString "Men", Str.ofString "K'ib'", Str.ofString "Kab'an", Str.ofString "Etz'nab'", Str.ofString "Kawak", Str.ofString "Ajaw"]
@[irreducible] def hname (k : Int) : Str := haabs.getD k.toNat (Str.ofString "")
@[irreducible] def tname (k : Int) : Str := tzols.getD k.toNat (Str.ofString "")
theorem haab79_at {w : World} : ∃ (l : List Value) (c : Nat), (hd.heap_39 w.params).lookup 79 = some ⟨.type "list", none, .seq l.toArray c, #[]⟩ ∧ l.length = 19 ∧ ∀ i : Nat, i < 19 → ∃ t, l[i]? = some (.str (haabs.getD i (Str.ofString "")) t) := by
  refine ⟨_, _, rfl, rfl, fun i hi => ?_⟩
  have h : i = 0 ∨ i = 1 ∨ i = 2 ∨ i = 3 ∨ i = 4 ∨ i = 5 ∨ i = 6 ∨ i = 7 ∨ i = 8 ∨ i = 9 ∨ i = 10 ∨ i = 11 ∨ i = 12 ∨ i = 13 ∨ i = 14 ∨ i = 15 ∨ i = 16 ∨ i = 17 ∨ i = 18 := by omega
  rcases h with rfl | rfl | rfl | rfl | rfl | rfl | rfl | rfl | rfl | rfl | rfl | rfl | rfl | rfl | rfl | rfl | rfl | rfl | rfl <;> exact ⟨_, rfl⟩
theorem haab79_item {w : World} {A : Around} {E : Value → Shared → Prop} {s : Shared} {h₀ : Heap} {L : Addr} {m : Str → Option Value} {k : Int} {u : Tok} {Q : Value → Shared → Prop} {value slice : PySem.Expr}
    (F : Fr h₀ L s.heap m) (X : (hd.heap_39 w.params).In h₀) (h0 : 0 ≤ k) (h1 : k < 19) (h : ∀ t, Q (.str (hname k) t) s)
    (hs : subscripted slice false (.ref 79) (.int k u) = operate [.ref 79, .int k u] (getItem (.ref 79) (.int k u)) := by with_unfolding_all rfl) :
    wpAny (model PP w) A (subscriptTail value slice (.ref 79) (.int k u)) Q E s := by
  obtain ⟨l, c, hl, hlen, hall⟩ := haab79_at (w := w)
  obtain ⟨t, hx⟩ := hall k.toNat (by omega)
  have e : haabs.getD k.toNat (Str.ofString "") = hname k := by unfold hname; rfl
  rw [e] at hx
  exact topList_K F X hl h0 (by omega) hx (h t) hs
theorem tzol80_at {w : World} : ∃ (l : List Value) (c : Nat), (hd.heap_39 w.params).lookup 80 = some ⟨.type "list", none, .seq l.toArray c, #[]⟩ ∧ l.length = 20 ∧ ∀ i : Nat, i < 20 → ∃ t, l[i]? = some (.str (tzols.getD i (Str.ofString "")) t) := by
  refine ⟨_, _, rfl, rfl, fun i hi => ?_⟩
  have h : i = 0 ∨ i = 1 ∨ i = 2 ∨ i = 3 ∨ i = 4 ∨ i = 5 ∨ i = 6 ∨ i = 7 ∨ i = 8 ∨ i = 9 ∨ i = 10 ∨ i = 11 ∨ i = 12 ∨ i = 13 ∨ i = 14 ∨ i = 15 ∨ i = 16 ∨ i = 17 ∨ i = 18 ∨ i = 19 := by omega
  rcases h with rfl | rfl | rfl | rfl | rfl | rfl | rfl | rfl | rfl | rfl | rfl | rfl | rfl | rfl | rfl | rfl | rfl | rfl | rfl | rfl <;> exact ⟨_, rfl⟩
theorem tzol80_item {w : World} {A : Around} {E : Value → Shared → Prop} {s : Shared} {h₀ : Heap} {L : Addr} {m : Str → Option Value} {k : Int} {u : Tok} {Q : Value → Shared → Prop} {value slice : PySem.Expr}
    (F : Fr h₀ L s.heap m) (X : (hd.heap_39 w.params).In h₀) (h0 : 0 ≤ k) (h1 : k < 20) (h : ∀ t, Q (.str (tname k) t) s)
    (hs : subscripted slice false (.ref 80) (.int k u) = operate [.ref 80, .int k u] (getItem (.ref 80) (.int k u)) := by with_unfolding_all rfl) :
    wpAny (model PP w) A (subscriptTail value slice (.ref 80) (.int k u)) Q E s := by
  obtain ⟨l, c, hl, hlen, hall⟩ := tzol80_at (w := w)
  obtain ⟨t, hx⟩ := hall k.toNat (by omega)
  have e : tzols.getD k.toNat (Str.ofString "") = tname k := by unfold tname; rfl
  rw [e] at hx
  exact topList_K F X hl h0 (by omega) hx (h t) hs
theorem names144_at {w : World} : ∃ (l : List Value) (c : Nat), (hd.heap_39 w.params).lookup 144 = some ⟨.type "tuple", none, .seq l.toArray c, #[]⟩ ∧ l.length = 20 ∧ ∀ i : Nat, i < 20 → ∃ t, l[i]? = some (.str (tzols.getD i (Str.ofString "")) t) := by
  refine ⟨_, _, rfl, rfl, fun i hi => ?_⟩
  have h : i = 0 ∨ i = 1 ∨ i = 2 ∨ i = 3 ∨ i = 4 ∨ i = 5 ∨ i = 6 ∨ i = 7 ∨ i = 8 ∨ i = 9 ∨ i = 10 ∨ i = 11 ∨ i = 12 ∨ i = 13 ∨ i = 14 ∨ i = 15 ∨ i = 16 ∨ i = 17 ∨ i = 18 ∨ i = 19 := by omega
  rcases h with rfl | rfl | rfl | rfl | rfl | rfl | rfl | rfl | rfl | rfl | rfl | rfl | rfl | rfl | rfl | rfl | rfl | rfl | rfl | rfl <;> exact ⟨_, rfl⟩
theorem names144_item {w : World} {A : Around} {E : Value → Shared → Prop} {s : Shared} {h₀ : Heap} {L : Addr} {m : Str → Option Value} {k : Int} {u : Tok} {Q : Value → Shared → Prop} {value slice : PySem.Expr}
    (F : Fr h₀ L s.heap m) (X : (hd.heap_39 w.params).In h₀) (h0 : 0 ≤ k) (h1 : k < 20) (h : ∀ t, Q (.str (tname k) t) s)
    (hs : subscripted slice false (.ref 144) (.int k u) = operate [.ref 144, .int k u] (getItem (.ref 144) (.int k u)) := by with_unfolding_all rfl) :
    wpAny (model PP w) A (subscriptTail value slice (.ref 144) (.int k u)) Q E s := by
  obtain ⟨l, c, hl, hlen, hall⟩ := names144_at (w := w)
  obtain ⟨t, hx⟩ := hall k.toNat (by omega)
  have e : tzols.getD k.toNat (Str.ofString "") = tname k := by unfold tname; rfl
  rw [e] at hx
  exact topTup_K F X hl (by omega) (by omega) (j := k.toNat) (by unfold seqIndex?; rw [hlen]; simp; omega) hx (h t) hs
theorem months145_at {w : World} : ∃ (l : List Value) (c : Nat), (hd.heap_39 w.params).lookup 145 = some ⟨.type "tuple", none, .seq l.toArray c, #[]⟩ ∧ l.length = 19 ∧ ∀ i : Nat, i < 19 → ∃ t, l[i]? = some (.str (haabs.getD i (Str.ofString "")) t) := by
  refine ⟨_, _, rfl, rfl, fun i hi => ?_⟩
  have h : i = 0 ∨ i = 1 ∨ i = 2 ∨ i = 3 ∨ i = 4 ∨ i = 5 ∨ i = 6 ∨ i = 7 ∨ i = 8 ∨ i = 9 ∨ i = 10 ∨ i = 11 ∨ i = 12 ∨ i = 13 ∨ i = 14 ∨ i = 15 ∨ i = 16 ∨ i = 17 ∨ i = 18 := by omega
  rcases h with rfl | rfl | rfl | rfl | rfl | rfl | rfl | rfl | rfl | rfl | rfl | rfl | rfl | rfl | rfl | rfl | rfl | rfl | rfl <;> exact ⟨_, rfl⟩
theorem months145_item {w : World} {A : Around} {E : Value → Shared → Prop} {s : Shared} {h₀ : Heap} {L : Addr} {m : Str → Option Value} {k : Int} {u : Tok} {Q : Value → Shared → Prop} {value slice : PySem.Expr}
    (F : Fr h₀ L s.heap m) (X : (hd.heap_39 w.params).In h₀) (h0 : 0 ≤ k) (h1 : k < 19) (h : ∀ t, Q (.str (hname k) t) s)
    (hs : subscripted slice false (.ref 145) (.int k u) = operate [.ref 145, .int k u] (getItem (.ref 145) (.int k u)) := by with_unfolding_all rfl) :
    wpAny (model PP w) A (subscriptTail value slice (.ref 145) (.int k u)) Q E s := by
  obtain ⟨l, c, hl, hlen, hall⟩ := months145_at (w := w)
  obtain ⟨t, hx⟩ := hall k.toNat (by omega)
  have e : haabs.getD k.toNat (Str.ofString "") = hname k := by unfold hname; rfl
  rw [e] at hx
  exact topTup_K F X hl (by omega) (by omega) (j := k.toNat) (by unfold seqIndex?; rw [hlen]; simp; omega) hx (h t) hs
/-- a call out of the law's own frame (a def that catches wants this: no frame between) -/
noncomputable abbrev LS : List Str := looseW hd.view_39 [Str.ofString "to_jd_gregorian", Str.ofString "from_jd_gregorian", Str.ofString "HAAB", Str.ofString "TZOLKIN", Str.ofString "to_jd_mayan", Str.ofString "from_jd_mayan"]
abbrev LVal (w : World) (f : Addr) (vs : List Value) (P : Value → Prop) : Prop :=
  ∀ (mean : ExcName → Option Value) (mg mb : Str → Option Value) (news : List (Addr × Obj)) (cn : Str) (nm : List (Str × NameKind)) (mo : List (Str × Const)) (a : Addr) (ccd : Value) (h₀ : Heap) (L : Addr) (m : Str → Option Value) (s : Shared) (Q E : Value → Shared → Prop),
    Below callerA h₀ [] h₀ → Fr h₀ L s.heap m → (hd.heap_39 w.params).In h₀ → News h₀ L s.heap news → Top hd.view_39 LS mean mg mb h₀ →
    (∀ v h' tk', P v → Fr h₀ L h' m → News h₀ L h' news → Q v { s with heap := h', toks := tk' }) →
    wpAny (model PP w) (callerA.deeper (envOf cn { kind := .function, names := nm, isGenerator := false, isCoroutine := false, more := mo } L a ccd)) (call (.ref f) vs) Q E s
theorem lval_use {w : World} {f : Addr} {vs : List Value} {P : Value → Prop} {mean : ExcName → Option Value} {mg mb : Str → Option Value} {news : List (Addr × Obj)} {cn : Str} {nm : List (Str × NameKind)} {mo : List (Str × Const)} {a : Addr} {ccd : Value} {h₀ : Heap} {L : Addr} {m : Str → Option Value} {s : Shared} {Q E : Value → Shared → Prop}
    (C : LVal w f vs P) (B : Below callerA h₀ [] h₀) (F : Fr h₀ L s.heap m) (X : (hd.heap_39 w.params).In h₀) (N : News h₀ L s.heap news) (T : Top hd.view_39 LS mean mg mb h₀)
    (ret : ∀ v h' tk', P v → Fr h₀ L h' m → News h₀ L h' news → Q v { s with heap := h', toks := tk' }) : wpAny (model PP w) (callerA.deeper (envOf cn { kind := .function, names := nm, isGenerator := false, isCoroutine := false, more := mo } L a ccd)) (call (.ref f) vs) Q E s :=
  C _ _ _ _ _ _ _ _ _ _ _ _ _ _ _ B F X N T ret
def lensL : List Int := [31, 28, 31, 30, 31, 30, 31, 31, 30, 31, 30, 31]
@[irreducible] def lens (k : Int) : Int := lensL.getD k.toNat 0
theorem lens_mlen {y m : Int} (h : 1 ≤ m ∧ m ≤ 12) (hn : ¬ (m = 2 ∧ leapB y = true)) : lens (m - 1) = mlen y m := by
  unfold lens mlen
  rcases months h with rfl | rfl | rfl | rfl | rfl | rfl | rfl | rfl | rfl | rfl | rfl | rfl <;> simp at hn ⊢ <;> first | rfl | (rw [hn]; rfl)
theorem lens_bounds {k : Int} (h : 0 ≤ k ∧ k < 12) : 28 ≤ lens k ∧ lens k ≤ 31 := by
  unfold lens
  have hk : k = 0 ∨ k = 1 ∨ k = 2 ∨ k = 3 ∨ k = 4 ∨ k = 5 ∨ k = 6 ∨ k = 7 ∨ k = 8 ∨ k = 9 ∨ k = 10 ∨ k = 11 := by omega
  rcases hk with rfl | rfl | rfl | rfl | rfl | rfl | rfl | rfl | rfl | rfl | rfl | rfl <;> decide
theorem lens146_at {w : World} : ∃ (l : List Value) (c : Nat), (hd.heap_39 w.params).lookup 146 = some ⟨.type "tuple", none, .seq l.toArray c, #[]⟩ ∧ l.length = 12 ∧ ∀ i : Nat, i < 12 → ∃ t, l[i]? = some (.int (lensL.getD i 0) t) := by
  refine ⟨_, _, rfl, rfl, fun i hi => ?_⟩
  have h : i = 0 ∨ i = 1 ∨ i = 2 ∨ i = 3 ∨ i = 4 ∨ i = 5 ∨ i = 6 ∨ i = 7 ∨ i = 8 ∨ i = 9 ∨ i = 10 ∨ i = 11 := by omega
  rcases h with rfl | rfl | rfl | rfl | rfl | rfl | rfl | rfl | rfl | rfl | rfl | rfl <;> exact ⟨_, rfl⟩
theorem lens146_item {w : World} {A : Around} {E : Value → Shared → Prop} {s : Shared} {h₀ : Heap} {L : Addr} {m : Str → Option Value} {k : Int} {u : Tok} {Q : Value → Shared → Prop} {value slice : PySem.Expr}
    (F : Fr h₀ L s.heap m) (X : (hd.heap_39 w.params).In h₀) (h0 : 0 ≤ k) (h1 : k < 12) (h : ∀ t, 28 ≤ lens k ∧ lens k ≤ 31 → Q (.int (lens k) t) s)
    (hs : subscripted slice false (.ref 146) (.int k u) = operate [.ref 146, .int k u] (getItem (.ref 146) (.int k u)) := by with_unfolding_all rfl) :
    wpAny (model PP w) A (subscriptTail value slice (.ref 146) (.int k u)) Q E s := by
  obtain ⟨l, c, hl, hlen, hall⟩ := lens146_at (w := w)
  obtain ⟨t, hx⟩ := hall k.toNat (by omega)
  have hb := lens_bounds ⟨h0, h1⟩
  have e : lensL.getD k.toNat 0 = lens k := by unfold lens; rfl
  rw [e] at hx
  exact topTup_K F X hl (by omega) (by omega) (j := k.toNat) (by unfold seqIndex?; rw [hlen]; simp; omega) hx (h t hb) hs
def TupI3 (y m d : Int) (o : Obj) : Prop := ∃ ty tm td c, o = { cls := .type "tuple", data := .seq #[.int y ty, .int m tm, .int d td] c }
def TupI5 (b k t u i : Int) (o : Obj) : Prop := ∃ tb tk tt tu ti c, o = { cls := .type "tuple", data := .seq #[.int b tb, .int k tk, .int t tt, .int u tu, .int i ti] c }
def TupIS (k : Int) (x : Str) (o : Obj) : Prop := ∃ tk tx c, o = { cls := .type "tuple", data := .seq #[.int k tk, .str x tx] c }
/-- the same over one given ledger -/
abbrev CObjAt (lv : Nat) (w : World) (f : Addr) (vs : List Value) (news : List (Addr × Obj)) (P : Obj → Prop) : Prop :=
  ∀ (p : Program) (loose : List Str) (mean : ExcName → Option Value) (mg mb : Str → Option Value) (dp un : Nat) (gd : Option (List Code)) (cn : Str) (cs : Scope) (a : Addr) (ccd : Value) (cl : List (Str × Addr)) (outer : List Env) (A₀ : Around) (base h₀ : Heap) (L : Addr) (m : Str → Option Value) (s : Shared) (Q E : Value → Shared → Prop),
    Below A₀ base outer h₀ → Fr h₀ L s.heap m → (hd.heap_39 w.params).In h₀ → News h₀ L s.heap news → Top p loose mean mg mb h₀ → cs.kind = .function → dp + 4 * lv < recursionLimit → un + 100 * lv < cLine →
    (∀ D o h' tk', P o → Fr h₀ L h' m → News h₀ L h' ((D, o) :: news) → AllLt D news → Q (.ref D) { s with heap := h', toks := tk' }) →
    wpAny (model PP w) (ktrTop dp un gd cn cs L a ccd cl outer) (call (.ref f) vs) Q E s
theorem cobjAt_use {lv : Nat} {w : World} {f : Addr} {vs : List Value} {P' : Obj → Prop} {p : Program} {loose : List Str} {mean : ExcName → Option Value} {mg mb : Str → Option Value} {news : List (Addr × Obj)} {dp un : Nat} {gd : Option (List Code)} {cn : Str} {cs : Scope} {a : Addr} {ccd : Value} {cl : List (Str × Addr)} {outer : List Env} {A₀ : Around} {base h₀ : Heap} {L : Addr} {m : Str → Option Value} {s : Shared} {Q E : Value → Shared → Prop}
    (C : CObjAt lv w f vs news P') (B : Below A₀ base outer h₀) (F : Fr h₀ L s.heap m) (X : (hd.heap_39 w.params).In h₀) (N : News h₀ L s.heap news) (T : Top p loose mean mg mb h₀) (hk : cs.kind = .function) (hd : dp + 4 * lv < recursionLimit) (hu : un + 100 * lv < cLine)
    (ret : ∀ D o h' tk', P' o → Fr h₀ L h' m → News h₀ L h' ((D, o) :: news) → AllLt D news → Q (.ref D) { s with heap := h', toks := tk' }) : wpAny (model PP w) (ktrTop dp un gd cn cs L a ccd cl outer) (call (.ref f) vs) Q E s :=
  C _ _ _ _ _ _ _ _ _ _ _ _ _ _ _ _ _ _ _ _ _ _ B F X N T hk hd hu ret
end
local macro_rules | `(tactic| walk_at "binaryOp Add float int") => `(tactic| (k_here; (first | (refine' r_add_fi ?h1 ?h2 ?h3 ?_; (case h1 => first | assumption | exact ep_q | exact eg_q | exact half_q)) | (refine' r_add_fl ?h1 ?h2 ?h3 ?_; (case h1 => assumption))); (case h2 => omega); (case h3 => omega); intro z9 hz9))
local macro_rules | `(tactic| walk_at "binaryOp Add int float") => `(tactic| (k_here; (refine' r_add_if ?h1 ?h2 ?h3 ?_; (case h1 => first | assumption | exact ep_q | exact eg_q | exact half_q)); (case h2 => omega); (case h3 => omega); intro z9 hz9))
local macro_rules | `(tactic| walk_at "binaryOp Add float float") => `(tactic| (k_here; (refine' r_add_ff ?h1 ?h2 ?h3 ?_; (case h1 => first | assumption | exact ep_q | exact eg_q | exact half_q); (case h2 => first | assumption | exact ep_q | exact eg_q | exact half_q)); (case h3 => omega); intro z9 hz9))
local macro_rules | `(tactic| walk_at "binaryOp Sub float int") => `(tactic| (k_here; (refine' r_sub_fi ?h1 ?h2 ?h3 ?_; (case h1 => first | assumption | exact ep_q | exact eg_q | exact half_q)); (case h2 => omega); (case h3 => omega); intro z9 hz9))
local macro_rules | `(tactic| walk_at "binaryOp Sub float float") => `(tactic| (k_here; (refine' r_sub_ff ?h1 ?h2 ?h3 ?_; (case h1 => first | assumption | exact ep_q | exact eg_q | exact half_q); (case h2 => first | assumption | exact ep_q | exact eg_q | exact half_q)); (case h3 => omega); intro z9 hz9))
local macro_rules | `(tactic| walk_at "binaryOp Mult float int") => `(tactic| (k_here; (refine' r_mul_fi ?h1 ?h2 ?h3 ?_; (case h1 => first | assumption | exact ep_q | exact eg_q | exact half_q)); (case h2 => omega); (case h3 => omega); intro z9 hz9))
local macro_rules | `(tactic| walk_at "binaryOp Div float int") => `(tactic| (k_here; (refine' r_div_fi ?h1 ?h2 ?h3 ?_; (case h1 => first | assumption | exact ep_q | exact eg_q | exact half_q)); (case h2 => omega); (case h3 => omega); intro z9 hz9))
local macro_rules | `(tactic| walk_at "binaryOp Mod float int") => `(tactic| (k_here; (refine' r_mod_fi ?h1 ?h2 ?hb ?_; (case h1 => first | assumption | exact ep_q | exact eg_q | exact half_q)); (case h2 => omega); (case hb => first | assumption | rfl); intro z9 hz9))
local macro_rules | `(tactic| walk_at "binaryOp Div int int") => `(tactic| (k_here; (first | (refine' r_div_i4 ?hn ?h2 ?_; (case hn => decide); (case h2 => omega)) | (refine' r_div_ii ?h1 ?h2 ?_; (case h1 => omega); (case h2 => omega))); intro z9 hz9))
local macro_rules | `(tactic| walk_at "call builtin:math.floor") => `(tactic| (k_here; (first | (refine' r_floor rfl ?h1 ?hk ?_; (case h1 => assumption)) | (refine' r_floor rfl (q_fl ?h1) ?hk ?_; (case h1 => assumption))); (case hk => first | assumption | rfl)))
local macro_rules | `(tactic| walk_at "call builtin:math.trunc") => `(tactic| (k_here; (first | (refine' r_trunc rfl ?h1 ?hk ?h2 ?_; (case h1 => assumption)) | (refine' r_trunc rfl (q_fl ?h1) ?hk ?h2 ?_; (case h1 => assumption))); (case hk => first | assumption | rfl); (case h2 => omega)))
local macro_rules | `(tactic| walk_at "call type:int") => `(tactic| (k_here; (first | (refine' r_int rfl ?h1 ?hk ?h2 ?_; (case h1 => assumption)) | (refine' r_int rfl (q_fl ?h1) ?hk ?h2 ?_; (case h1 => assumption))); (case hk => first | assumption | rfl); (case h2 => omega)))
local macro_rules | `(tactic| walk_at "compareOp Lt float int") => `(tactic| (k_here; (refine' r_lt_fi ?h1 ?_; (case h1 => assumption))))
local macro_rules | `(tactic| walk_at "compareOp GtE float int") => `(tactic| (k_here; (refine' r_ge_fi ?h1 ?_; (case h1 => assumption))))
local macro_rules | `(tactic| walk_at "compareOp NotEq float float") => `(tactic| (k_here; (refine' r_ne_ff ?h1 ?h2 ?_; (case h1 => assumption); (case h2 => assumption))))
local macro_rules | `(tactic| walk_at "eval Call") => `(tactic| (k_here; (with_reducible show wpAny _ _ (eval (Expr.Call (Expr.Name _ _) _ [] _) _) _ _ _); k_dflt (refine Call_ ?_)))
local macro_rules | `(tactic| walk_at "compareOp In int ref") => `(tactic| (k_here; (with_reducible show wpAny _ _ (compareOp _ _ (Value.ref 50)) _ _ _); k_dflt (refine' in_have30 ?k1 ?k2 ?_; (case k1 => k_asm); (case k2 => k_asm))))
local macro_rules | `(tactic| walk_at "subscriptTail Name Name ref int") => `(tactic| (k_here; (with_reducible show wpAny _ _ (subscriptTail _ _ (Value.ref 79) (Value.int _ _)) _ _ _); k_dflt (refine' haab79_item ?k1 ?k2 ?h0 ?h1 ?_; (case k1 => k_asm); (case k2 => k_asm); (case h0 => omega); (case h1 => omega)); intro t9))
local macro_rules | `(tactic| walk_at "subscriptTail Name BinOp ref int") => `(tactic| (k_here; (with_reducible show wpAny _ _ (subscriptTail _ _ (Value.ref 79) (Value.int _ _)) _ _ _); k_dflt (refine' haab79_item ?k1 ?k2 ?h0 ?h1 ?_; (case k1 => k_asm); (case k2 => k_asm); (case h0 => omega); (case h1 => omega)); intro t9))
local macro_rules | `(tactic| walk_at "subscriptTail Name Name ref int") => `(tactic| (k_here; (with_reducible show wpAny _ _ (subscriptTail _ _ (Value.ref 80) (Value.int _ _)) _ _ _); k_dflt (refine' tzol80_item ?k1 ?k2 ?h0 ?h1 ?_; (case k1 => k_asm); (case k2 => k_asm); (case h0 => omega); (case h1 => omega)); intro t9))
local macro_rules | `(tactic| walk_at "subscriptTail Name BinOp ref int") => `(tactic| (k_here; (with_reducible show wpAny _ _ (subscriptTail _ _ (Value.ref 80) (Value.int _ _)) _ _ _); k_dflt (refine' tzol80_item ?k1 ?k2 ?h0 ?h1 ?_; (case k1 => k_asm); (case k2 => k_asm); (case h0 => omega); (case h1 => omega)); intro t9))
local macro_rules | `(tactic| walk_at "subscriptTail Name Name ref int") => `(tactic| (k_here; (with_reducible show wpAny _ _ (subscriptTail _ _ (Value.ref 144) (Value.int _ _)) _ _ _); k_dflt (refine' names144_item ?k1 ?k2 ?h0 ?h1 ?_; (case k1 => k_asm); (case k2 => k_asm); (case h0 => omega); (case h1 => omega)); intro t9))
local macro_rules | `(tactic| walk_at "subscriptTail Name BinOp ref int") => `(tactic| (k_here; (with_reducible show wpAny _ _ (subscriptTail _ _ (Value.ref 144) (Value.int _ _)) _ _ _); k_dflt (refine' names144_item ?k1 ?k2 ?h0 ?h1 ?_; (case k1 => k_asm); (case k2 => k_asm); (case h0 => omega); (case h1 => omega)); intro t9))
local macro_rules | `(tactic| walk_at "subscriptTail Name Name ref int") => `(tactic| (k_here; (with_reducible show wpAny _ _ (subscriptTail _ _ (Value.ref 145) (Value.int _ _)) _ _ _); k_dflt (refine' months145_item ?k1 ?k2 ?h0 ?h1 ?_; (case k1 => k_asm); (case k2 => k_asm); (case h0 => omega); (case h1 => omega)); intro t9))
local macro_rules | `(tactic| walk_at "subscriptTail Name BinOp ref int") => `(tactic| (k_here; (with_reducible show wpAny _ _ (subscriptTail _ _ (Value.ref 145) (Value.int _ _)) _ _ _); k_dflt (refine' months145_item ?k1 ?k2 ?h0 ?h1 ?_; (case k1 => k_asm); (case k2 => k_asm); (case h0 => omega); (case h1 => omega)); intro t9))
local macro_rules | `(tactic| walk_at "subscriptTail Name BinOp ref int") => `(tactic| (k_here; (with_reducible show wpAny _ _ (subscriptTail _ _ (Value.ref 146) (Value.int _ _)) _ _ _); k_dflt (refine' lens146_item ?k1 ?k2 ?h0 ?h1 ?_; (case k1 => k_asm); (case k2 => k_asm); (case h0 => omega); (case h1 => omega)); intro t9 b9))
section
theorem fm4 (y : Int) : y.fmod 4 = y % 4 := Int.fmod_eq_emod_of_nonneg _ (by decide)
theorem fm100 (y : Int) : y.fmod 100 = y % 100 := Int.fmod_eq_emod_of_nonneg _ (by decide)
theorem fm400 (y : Int) : y.fmod 400 = y % 400 := Int.fmod_eq_emod_of_nonneg _ (by decide)
set_option maxRecDepth 100000 in
set_option maxHeartbeats 8000000 in
theorem c_isleap {w : World} (y : Int) (ty : Tok) {b : Bool} (hb : leapB y = b) : CVal 1 w 57 [.int y ty] (fun v => v = .bool b) := by
  subst hb
  intro p loose mean mg mb news dp un gd cn cs a ccd cl outer A₀ base h₀ L m s Q E B F X N T hk hd hu hret
  w_strict (
    refine wpAny_call ?_
    k_dflt cell_enter
    k_steps)
  all_goals (refine hret _ _ _ ?_ ?_ ?_ <;> first | k_asm | (refine congrArg Value.bool ?_; unfold leapB; simp only [fm4, fm100, fm400] at *; rw [Bool.eq_iff_iff]; simp; omega))
theorem c_isleap_e {w : World} {e y : Int} {ty : Tok} {b : Bool} (he : e = y) (hb : leapB y = b) : CVal 1 w 57 [.int e ty] (fun v => v = .bool b) := by
  subst he
  exact c_isleap e ty hb
set_option maxRecDepth 100000 in
set_option maxHeartbeats 8000000 in
theorem c_long {w : World} (y : Int) (ty : Tok) {b : Bool} (hb : leapB y = b) : CVal 1 w 153 [.int y ty] (fun v => v = .bool b) := by
  subst hb
  intro p loose mean mg mb news dp un gd cn cs a ccd cl outer A₀ base h₀ L m s Q E B F X N T hk hd hu hret
  w_strict (
    refine wpAny_call ?_
    k_dflt cell_enter
    k_steps)
  all_goals (refine hret _ _ _ ?_ ?_ ?_ <;> first | k_asm | (refine congrArg Value.bool ?_; unfold leapB; simp only [fm4, fm100, fm400] at *; rw [Bool.eq_iff_iff]; simp; omega))
set_option maxRecDepth 100000 in
set_option maxHeartbeats 8000000 in
theorem c_to_jd_mayan {w : World} (b k t u i : Int) (tb tk tt tu ti : Tok) (hb : -200 ≤ b ∧ b ≤ 40000) (hk : -3000 ≤ k ∧ k ≤ 3000) (ht : -3000 ≤ t ∧ t ≤ 3000) (hu : -3000 ≤ u ∧ u ≤ 3000) (hi : -3000 ≤ i ∧ i ≤ 3000) :
    CVal 1 w 87 [.int b tb, .int k tk, .int t tt, .int u tu, .int i ti] (fun v => ∃ y ty, v = .float y ty ∧ IsQ y (2337130 + 4 * (((((b * 20 + k) * 20 + t) * 18 + u) * 20) + i))) := by
  intro p loose mean mg mb news dp un gd cn cs a ccd cl outer A₀ base h₀ L m s Q E B F X N T hk hd hu hret
  w_strict (
    refine wpAny_call ?_
    k_dflt cell_enter
    k_steps)
  all_goals (refine hret _ _ _ ⟨_, _, rfl, ?_⟩ ?_ ?_ <;> first | k_asm | exact isq_eq (by assumption) (by omega))
end
section
local macro_rules | `(tactic| walk_at "call ref") => `(tactic| (k_here; (with_reducible show wpAny _ _ (call (Value.ref 57) _) _ _ _); k_dflt (refine' cval_use (c_isleap _ _ (by first | assumption | rfl)) ?k1 ?k2 ?k3 ?k4 ?k5 ?kK ?kd ?ku ?_; (case k1 => k_asm); (case k2 => k_asm); (case k3 => k_asm); (case k4 => k_asm); (case k5 => k_asm); (case kK => first | exact rfl | assumption); (case kd => ktr_room); (case ku => ktr_units)); intro v9 h9 tk9 hv9 F9 N9; (k_dflt (subst hv9)); (try dsimp only); (try k_sweep); (try k_fold)))
set_option maxRecDepth 100000 in
set_option maxHeartbeats 8000000 in
theorem c_legal {w : World} (y mo d : Int) (ty tm td : Tok) (hv : Valid y mo d) : CVal 2 w 64 [.int y ty, .int mo tm, .int d td] (fun v => v = .bool true) := by
  unfold Valid at hv
  obtain ⟨m1, m2, h1, h2⟩ := hv
  obtain ⟨b, hb⟩ : ∃ b, leapB y = b := ⟨_, rfl⟩
  obtain ⟨k, hk⟩ : ∃ k, mlen y mo = k := ⟨_, rfl⟩
  rw [hk] at h2
  intro p loose mean mg mb news dp un gd cn cs a ccd cl outer A₀ base h₀ L m s Q E B F X N T hk hd hu hret
  rcases months ⟨m1, m2⟩ with rfl | rfl | rfl | rfl | rfl | rfl | rfl | rfl | rfl | rfl | rfl | rfl
  case' inr.inl => cases b
  all_goals (
    rename mlen _ _ = _ => hk'
    unfold mlen at hk'
    (try rw [hb] at hk')
    (try simp at hk')
    subst hk'
    w_strict (
      refine wpAny_call ?_
      k_dflt cell_enter
      k_steps)
    all_goals (refine hret _ _ _ rfl ?_ ?_ <;> k_asm))
end
section
local macro_rules | `(tactic| walk_at "call ref") => `(tactic| (k_here; (with_reducible show wpAny _ _ (call (Value.ref 57) _) _ _ _); k_dflt (refine' cval_use (c_isleap _ _ (by first | assumption | rfl)) ?k1 ?k2 ?k3 ?k4 ?k5 ?kK ?kd ?ku ?_; (case k1 => k_asm); (case k2 => k_asm); (case k3 => k_asm); (case k4 => k_asm); (case k5 => k_asm); (case kK => first | exact rfl | assumption); (case kd => ktr_room); (case ku => ktr_units)); intro v9 h9 tk9 hv9 F9 N9; (k_dflt (subst hv9)); (try dsimp only); (try k_sweep); (try k_fold)))
local macro_rules | `(tactic| walk_at "call ref") => `(tactic| (k_here; (with_reducible show wpAny _ _ (call (Value.ref 64) _) _ _ _); k_dflt (refine' cval_use (c_legal _ _ _ _ _ _ (by first | assumption | exact valid_11 _)) ?k1 ?k2 ?k3 ?k4 ?k5 ?kK ?kd ?ku ?_; (case k1 => k_asm); (case k2 => k_asm); (case k3 => k_asm); (case k4 => k_asm); (case k5 => k_asm); (case kK => first | exact rfl | assumption); (case kd => ktr_room); (case ku => ktr_units)); intro v9 h9 tk9 hv9 F9 N9; (k_dflt (subst hv9)); (try dsimp only); (try k_sweep); (try k_fold)))
theorem jd_sum {y m d la : Int} {c : Int} (h : la = adj y m) (hc : c = 6885702 - 4 * 1 + 4 * (365 * (y - 1)) + 4 * ((y - 1) / 4) + 4 * -((y - 1) / 100) + 4 * ((y - 1) / 400) + 4 * ((367 * m - 362) / 12 + la + d)) : c = 6885698 + 4 * dn y m d := by
  unfold dn
  omega
set_option maxRecDepth 100000 in
set_option maxHeartbeats 1000000 in
theorem c_to_jd_greg {w : World} (y mo d : Int) (ty tm td : Tok) (hv : Valid y mo d) (hy : -8000000 ≤ y ∧ y ≤ 8000000) : CVal 3 w 71 [.int y ty, .int mo tm, .int d td] (fun v => ∃ z tz, v = .float z tz ∧ IsQ z (6885698 + 4 * dn y mo d)) := by
  have hv0 := hv
  unfold Valid at hv0
  obtain ⟨m1, m2, h1, h2⟩ := hv0
  have h3 : mlen y mo ≤ 31 := by unfold mlen; repeat' split <;> omega
  intro p loose mean mg mb news dp un gd cn cs a ccd cl outer A₀ base h₀ L m s Q E B F X N T hk hd hu hret
  w_strict (
    refine wpAny_call ?_
    k_dflt cell_enter
    k_steps)
  all_goals (refine hret _ _ _ ⟨_, _, rfl, ?_⟩ ?_ ?_ <;> first | k_asm | (refine isq_eq (by assumption) (jd_sum ?_ rfl); unfold adj; simp [*]))
end
section
local macro_rules | `(tactic| walk_at "call ref") => `(tactic| (k_here; (with_reducible show wpAny _ _ (call (Value.ref 57) _) _ _ _); k_dflt (refine' cval_use (c_isleap _ _ (by first | assumption | rfl)) ?k1 ?k2 ?k3 ?k4 ?k5 ?kK ?kd ?ku ?_; (case k1 => k_asm); (case k2 => k_asm); (case k3 => k_asm); (case k4 => k_asm); (case k5 => k_asm); (case kK => first | exact rfl | assumption); (case kd => ktr_room); (case ku => ktr_units)); intro v9 h9 tk9 hv9 F9 N9; (k_dflt (subst hv9)); (try dsimp only); (try k_sweep); (try k_fold)))
local macro_rules | `(tactic| walk_at "call ref") => `(tactic| (k_here; (with_reducible show wpAny _ _ (call (Value.ref 71) _) _ _ _); k_dflt (refine' cval_use (c_to_jd_greg _ _ _ _ _ _ (by first | assumption | exact valid_11 _) (by omega)) ?k1 ?k2 ?k3 ?k4 ?k5 ?kK ?kd ?ku ?_; (case k1 => k_asm); (case k2 => k_asm); (case k3 => k_asm); (case k4 => k_asm); (case k5 => k_asm); (case kK => first | exact rfl | assumption); (case kd => ktr_room); (case ku => ktr_units)); intro v9 h9 tk9 hv9 F9 N9; (k_dflt (obtain ⟨y9, t9, e9, hz9⟩ := hv9; subst e9)); (try dsimp only); (try k_sweep); (try k_fold)))
local macro_rules | `(tactic| walk_at "exec If") => `(tactic| (k_here; (with_reducible show wpAny _ _ (exec (Stmt.If _ [_] [Stmt.If _ [_] [_] _] _) _) _ _ _); (rename Fr _ _ _ _ => F'); (rename News _ _ _ _ => N'); k_dflt (apply kj_if_elif (x := Str.ofString "leap_adj") F' N'); (case hl => first | rfl | with_unfolding_all rfl)))
theorem la_of {A1 n D yd r : Int} {b : Bool} (a1 : A1 = n + 1721424) (hD : D = n - yd)
    (h : (decide (4 * A1 + 2 - (6885698 + 4 * D) < 4 * (58 + if b = true then (1 : Int) else 0)) = true ∧ r = 0) ∨ (decide (4 * A1 + 2 - (6885698 + 4 * D) < 4 * (58 + if b = true then (1 : Int) else 0)) = false ∧ b = true ∧ r = 1) ∨ (decide (4 * A1 + 2 - (6885698 + 4 * D) < 4 * (58 + if b = true then (1 : Int) else 0)) = false ∧ b = false ∧ r = 2)) :
    (yd < 58 + bi b ∧ r = 0) ∨ (58 + bi b ≤ yd ∧ b = true ∧ r = 1) ∨ (58 + bi b ≤ yd ∧ b = false ∧ r = 2) := by
  unfold bi
  cases b
  · simp at h ⊢; omega
  · simp at h ⊢; omega
set_option maxRecDepth 100000 in
set_option maxHeartbeats 1000000 in
theorem c_from_jd_greg {w : World} (x : UInt64) (tx : Tok) (n : Int) (hx : IsQ x (6885698 + 4 * n)) (hn : -30000000 ≤ n ∧ n ≤ 2880000000) :
    CObj 4 w 78 [.float x tx] (fun _ => True) (fun o => ∃ y m d, TupI3 y m d o ∧ Valid y m d ∧ dn y m d = n) := by
  obtain ⟨A1, hA1⟩ : ∃ k, (6885698 + 4 * n - 2) / 4 = k := ⟨_, rfl⟩
  obtain ⟨q, hq⟩ : ∃ k, (4 * A1 + 2 - 6885702) / (4 * 146097) = k := ⟨_, rfl⟩
  obtain ⟨R1, hR1⟩ : ∃ k, (4 * A1 + 2 - 6885702) % (4 * 146097) = k := ⟨_, rfl⟩
  obtain ⟨c, hc⟩ : ∃ k, R1 / (4 * 36524) = k := ⟨_, rfl⟩
  obtain ⟨R2, hR2⟩ : ∃ k, R1 % (4 * 36524) = k := ⟨_, rfl⟩
  obtain ⟨u, hu⟩ : ∃ k, R2 / (4 * 1461) = k := ⟨_, rfl⟩
  obtain ⟨R3, hR3⟩ : ∃ k, R2 % (4 * 1461) = k := ⟨_, rfl⟩
  obtain ⟨v, hv⟩ : ∃ k, R3 / (4 * 365) = k := ⟨_, rfl⟩
  intro p loose mean mg mb news dp un gd cn cs a ccd cl outer A₀ base h₀ L m s Q E B F X N T hk hd hu' _ hret
  w_strict (
    refine wpAny_call ?_
    k_dflt cell_enter
    repeat' (first | (k_unfold; (try dsimp only)) | (k_end; wrow_close) | ((with_reducible show wpAny _ _ (exec (Stmt.If (Expr.UnaryOp _ _ _) _ _ _) _) _ _ _); refine stop ?_) | walk1 | (dsimp only; walk1) | (leave1; walk_say "STEP leave1"; try dsimp only) | fail "no step"))
  refine Stop.out ?_
  (rename Fr _ _ _ _ => F1); (rename News _ _ _ _ => N1)
  refine' kj_if_aug (c := !(decide (c = 4) || decide (v = 4))) (v := q * 400 + c * 100 + u * 4 + v + 1) (a := q * 400 + c * 100 + u * 4 + v) F1 N1 ?hold ?hc ?hv ?hk
  case hold => with_unfolding_all rfl
  case hc =>
    w_strict k_steps
    all_goals exact ⟨by simp [*], ⟨⟨_, _, rfl, by assumption, by assumption⟩⟩⟩
  case hv =>
    w_strict k_steps
  unfold KJoinB2
  intro r t1 s1 hr hJ
  obtain ⟨h7, tk7, e7, F7, N7⟩ := KJoinAt.at_ hJ
  subst e7
  clear F1 N1 hJ
  have hYc : ((c = 4 ∨ v = 4) ∧ q * 400 + c * 100 + u * 4 + v = r) ∨ ((c ≠ 4 ∧ v ≠ 4) ∧ q * 400 + c * 100 + u * 4 + v + 1 = r) := by
    rcases hr with ⟨h, rfl⟩ | ⟨h, rfl⟩
    · right; simp at h; exact ⟨h, rfl⟩
    · left; simp at h; exact ⟨by omega, rfl⟩
  clear hr
  obtain ⟨yd, hyd, hyd0, hyd1⟩ := year_ok hA1 hq hR1 hc hR2 hu hR3 hv hYc
  obtain ⟨y1, y2, a1, _⟩ := year_fits hn hA1 hq hR1 hc hR2 hu hR3 hv hYc
  obtain ⟨b, hb⟩ : ∃ b, leapB r = b := ⟨_, rfl⟩
  have hbb : bi b = 0 ∨ bi b = 1 := by unfold bi; split <;> simp
  rw [hb] at hyd1
  clear hYc hq hR1 hc hR2 hu hR3 hv hA1
  w_strict (
    dsimp only
    repeat' (first | (k_unfold; (try dsimp only)) | (k_end; wrow_close) | ((with_reducible show KJoinB2 _); refine stop ?_) | walk1 | (dsimp only; walk1) | (leave1; walk_say "STEP leave1"; try dsimp only) | fail "no step"))
  refine Stop.out ?_
  unfold KJoinB2
  intro la t2 s2 hr2 hJ2
  obtain ⟨h8, tk8, e8, F8, N8⟩ := KJoinAt.at_ hJ2
  subst e8
  clear hJ2
  have hla := la_of a1 hyd hr2
  clear hr2
  obtain ⟨M, hM⟩ : ∃ k, ((4 * A1 + 2 - (6885698 + 4 * dn r 1 1) + 4 * la) * 12 + 4 * 373) / (4 * 367) = k := ⟨_, rfl⟩
  have hM' : ((yd + la) * 12 + 373) / 367 = M := by omega
  have hla2 : 0 ≤ la ∧ la ≤ 2 := by omega
  obtain ⟨m1, m2, cu, hcu, cu1, cu2⟩ := month_ok hb hyd0 hyd1 hla hM'
  have hml : mlen r M ≤ 31 := by unfold mlen; repeat' split <;> omega
  have hV : Valid r M (yd - cu + 1) := by unfold Valid; omega
  have hV1 : Valid r M 1 := by unfold Valid; omega
  have hdn : dn r M 1 = n - (yd - cu) := by
    have e1 : dn r M 1 = dn r 1 1 + cu := by
      rw [hcu]; unfold dn
      have : adj r 1 = 0 := by unfold adj; simp
      rw [this]; omega
    omega
  have hfin : dn r M (yd - cu + 1) = n := by
    have e1 : dn r M (yd - cu + 1) = dn r M 1 + (yd - cu) := by unfold dn; omega
    omega
  clear hM' hcu hla hb
  w_strict (
    dsimp only
    k_steps)
  have e9 : (4 * A1 + 2 - (6885698 + 4 * dn r M 1)) / 4 + 1 = yd - cu + 1 := by omega
  rw [← e9] at hV hfin
  refine' hret _ _ _ _ ⟨r, M, _, ⟨_, _, _, _, rfl⟩, hV, hfin⟩ ?ea ?eb ?ec
  case ea => k_asm
  case eb => k_asm
  case ec => exact allLt_of (by k_asm)
end
section
@[irreducible] def am (c b : Int) : Int := if (c / 4) % b = 0 then b else (c / 4) % b
set_option maxRecDepth 100000 in
set_option maxHeartbeats 1000000 in
theorem c_amod {w : World} (x : UInt64) (b : Int) (tx tb : Tok) {c : Int} (hx : IsQ x c) (hc : c % 4 = 0) (hb : 1 ≤ b ∧ b ≤ 1000) : CVal 1 w 49 [.float x tx, .int b tb] (fun v => ∃ k t, v = .int k t ∧ k = am c b ∧ 1 ≤ k ∧ k ≤ b) := by
  have ham : 1 ≤ am c b ∧ am c b ≤ b := by
    have h1 := Int.emod_nonneg (c / 4) (b := b) (by omega)
    have h2 := Int.emod_lt_of_pos (c / 4) (b := b) (by omega)
    unfold am; split <;> omega
  obtain ⟨r, hr⟩ : ∃ k, c % (4 * b) = k := ⟨_, rfl⟩
  have hr4 : r / 4 = (c / 4) % b := by
    have e : c = 4 * (c / 4) := by omega
    have e2 : 4 * (c / 4) % (4 * b) = 4 * ((c / 4) % b) := Int.mul_emod_mul_of_pos _ _ (by omega)
    rw [← e] at e2
    omega
  have hr0 : 0 ≤ r := by rw [← hr]; exact Int.emod_nonneg _ (by omega)
  intro p loose mean mg mb news dp un gd cn cs a ccd cl outer A₀ base h₀ L m s Q E B F X N T hk hd hu hret
  w_strict (
    refine wpAny_call ?_
    k_dflt cell_enter
    k_steps)
  all_goals (refine hret _ _ _ ⟨am c b, _, congrArg (fun z => Value.int z _) ?_, rfl, ham.1, ham.2⟩ (by k_asm) (by k_asm); unfold am; first | rw [if_pos (by assumption)] | rw [if_neg (by assumption)])
local macro_rules | `(tactic| walk_at "call ref") => `(tactic| (k_here; (with_reducible show wpAny _ _ (call (Value.ref 49) _) _ _ _); k_dflt (refine' cval_use (c_amod _ _ _ _ (by assumption) (by omega) (by omega)) ?k1 ?k2 ?k3 ?k4 ?k5 ?kK ?kd ?ku ?_; (case k1 => k_asm); (case k2 => k_asm); (case k3 => k_asm); (case k4 => k_asm); (case k5 => k_asm); (case kK => first | exact rfl | assumption); (case kd => ktr_room); (case ku => ktr_units)); intro v9 h9 tk9 hv9 F9 N9; (k_dflt (obtain ⟨k9, t9, e9, f9, g9, h9⟩ := hv9; subst e9)); (try dsimp only); (try k_sweep); (try k_fold)))
def Places (n b k t u i : Int) : Prop := n = (((b * 20 + k) * 20 + t) * 18 + u) * 20 + i ∧ 0 ≤ k ∧ k < 20 ∧ 0 ≤ t ∧ t < 20 ∧ 0 ≤ u ∧ u < 18 ∧ 0 ≤ i ∧ i < 20
set_option maxRecDepth 100000 in
set_option maxHeartbeats 1000000 in
theorem c_from_jd_mayan {w : World} (x : UInt64) (tx : Tok) (n f : Int) (hx : IsQ x (2337130 + 4 * n + f)) (hf : 0 ≤ f ∧ f ≤ 3) (hn : 0 ≤ n ∧ n ≤ 3000000000) :
    CObj 2 w 94 [.float x tx] (fun _ => True) (fun o => ∃ b k t u i, TupI5 b k t u i o ∧ Places n b k t u i) := by
  obtain ⟨d1, hd1⟩ : ∃ k, (2337130 + 4 * n + f - 2337130) % (4 * 144000) = k := ⟨_, rfl⟩
  obtain ⟨d2, hd2⟩ : ∃ k, d1 % (4 * 7200) = k := ⟨_, rfl⟩
  obtain ⟨d3, hd3⟩ : ∃ k, d2 % (4 * 360) = k := ⟨_, rfl⟩
  obtain ⟨d4, hd4⟩ : ∃ k, d3 % (4 * 20) = k := ⟨_, rfl⟩
  have hb1 : 0 ≤ d1 ∧ d1 < 576000 := by omega
  have hb2 : 0 ≤ d2 ∧ d2 < 28800 := by omega
  have hb3 : 0 ≤ d3 ∧ d3 < 1440 := by omega
  have hb4 : 0 ≤ d4 ∧ d4 < 80 := by omega
  intro p loose mean mg mb news dp un gd cn cs a ccd cl outer A₀ base h₀ L m s Q E B F X N T hk hd hu' _ hret
  w_strict (
    refine wpAny_call ?_
    k_dflt cell_enter
    k_steps)
  have hP : Places n ((2337130 + 4 * n + f - 2337130) / (4 * 144000)) (d1 / (4 * 7200)) (d2 / (4 * 360)) (d3 / (4 * 20)) (d4 / 4) := by
    unfold Places; omega
  refine' hret _ _ _ _ ⟨_, _, _, _, _, ⟨_, _, _, _, _, _, rfl⟩, hP⟩ ?ea ?eb ?ec
  case ea => k_asm
  case eb => k_asm
  case ec => exact allLt_of (by k_asm)
/-- the wheels of a day -/
@[irreducible] def wday (n : Int) : Int := (n + 348) % 365
@[irreducible] def wfirst (n : Int) : Int := (n + 3) % 13 + 1
@[irreducible] def wname (n : Int) : Int := (n + 19) % 20
set_option maxRecDepth 100000 in
set_option maxHeartbeats 1000000 in
theorem c_to_haab {w : World} (x : UInt64) (tx : Tok) (n : Int) (hx : IsQ x (2337130 + 4 * n)) (hn : 4 ≤ 2337130 + 4 * n ∧ n ≤ 3000000000) :
    CObj 2 w 115 [.float x tx] (fun _ => True) (fun o => TupIS (wday n % 20) (hname (wday n / 20)) o) := by
  obtain ⟨J, hJ⟩ : ∃ k, (2337130 + 4 * n) / 4 = k := ⟨_, rfl⟩
  obtain ⟨d, hd⟩ : ∃ k, (4 * J + 2 - 2337130 + 4 * 348) % (4 * 365) = k := ⟨_, rfl⟩
  obtain ⟨c, hc⟩ : ∃ k, d % (4 * 20) = k := ⟨_, rfl⟩
  obtain ⟨k, hk⟩ : ∃ k, d / (4 * 20) = k := ⟨_, rfl⟩
  have b1 : 0 ≤ d ∧ d < 1460 := by omega
  have b2 : 0 ≤ c ∧ c < 80 := by omega
  have b3 : 0 ≤ k ∧ k < 19 := by omega
  have b4 : J = n + 584282 := by omega
  intro p loose mean mg mb news dp un gd cn cs a ccd cl outer A₀ base h₀ L m s Q E B F X N T hk hd hu' _ hret
  w_strict (
    refine wpAny_call ?_
    k_dflt cell_enter
    k_steps)
  have f1 : c / 4 = wday n % 20 := by unfold wday; omega
  have f2 : k = wday n / 20 := by unfold wday; omega
  refine' hret _ _ _ _ ⟨_, _, _, rfl⟩ ?ea ?eb ?ec
  case ea => k_asm
  case eb => rw [← f1, ← f2]; k_asm
  case ec => exact allLt_of (by k_asm)
set_option maxRecDepth 100000 in
set_option maxHeartbeats 1000000 in
theorem c_to_tzolkin {w : World} (x : UInt64) (tx : Tok) (n : Int) (hx : IsQ x (2337130 + 4 * n)) (hn : 4 ≤ 2337130 + 4 * n ∧ n ≤ 3000000000) :
    CObj 2 w 122 [.float x tx] (fun _ => True) (fun o => TupIS (wfirst n) (tname (wname n)) o) := by
  obtain ⟨J, hJ⟩ : ∃ k, (2337130 + 4 * n) / 4 = k := ⟨_, rfl⟩
  have b4 : J = n + 584282 := by omega
  intro p loose mean mg mb news dp un gd cn cs a ccd cl outer A₀ base h₀ L m s Q E B F X N T hk hd hu' _ hret
  w_strict (
    refine wpAny_call ?_
    k_dflt cell_enter
    k_steps)
  (rename (_ = am _ 13) => e1); (rename (_ = am _ 20) => e2)
  have q1 : am (4 * J + 2 - 2337130 + 4 * 4) 13 = wfirst n := by unfold am wfirst; split <;> omega
  have q2 : am (4 * J + 2 - 2337130 + 4 * 20) 20 - 1 = wname n := by unfold am wname; split <;> omega
  rw [← e1] at q1
  rw [← e2] at q2
  rw [← q1, ← q2] at hret
  refine' hret _ _ _ _ ⟨_, _, _, rfl⟩ ?ea ?eb ?ec
  case ea => k_asm
  case eb => k_asm
  case ec => exact allLt_of (by k_asm)
end
section
theorem c_from_jd_greg_e {w : World} (x : UInt64) (tx : Tok) {c n : Int} (hx : IsQ x c) (hc : c = 6885698 + 4 * n) (hn : -30000000 ≤ n ∧ n ≤ 2880000000) :
    CObj 4 w 78 [.float x tx] (fun _ => True) (fun o => ∃ y m d, TupI3 y m d o ∧ Valid y m d ∧ dn y m d = n) := by subst hc; exact c_from_jd_greg x tx n hx hn
theorem c_from_jd_mayan_e {w : World} (x : UInt64) (tx : Tok) {c n f : Int} (hx : IsQ x c) (hc : c = 2337130 + 4 * n + f) (hf : 0 ≤ f ∧ f ≤ 3) (hn : 0 ≤ n ∧ n ≤ 3000000000) :
    CObj 2 w 94 [.float x tx] (fun _ => True) (fun o => ∃ b k t u i, TupI5 b k t u i o ∧ Places n b k t u i) := by subst hc; exact c_from_jd_mayan x tx n f hx hf hn
theorem c_to_haab_e {w : World} (x : UInt64) (tx : Tok) {c n : Int} (hx : IsQ x c) (hc : c = 2337130 + 4 * n) (hn : 4 ≤ 2337130 + 4 * n ∧ n ≤ 3000000000) :
    CObj 2 w 115 [.float x tx] (fun _ => True) (fun o => TupIS (wday n % 20) (hname (wday n / 20)) o) := by subst hc; exact c_to_haab x tx n hx hn
theorem c_to_tzolkin_e {w : World} (x : UInt64) (tx : Tok) {c n : Int} (hx : IsQ x c) (hc : c = 2337130 + 4 * n) (hn : 4 ≤ 2337130 + 4 * n ∧ n ≤ 3000000000) :
    CObj 2 w 122 [.float x tx] (fun _ => True) (fun o => TupIS (wfirst n) (tname (wname n)) o) := by subst hc; exact c_to_tzolkin x tx n hx hn
abbrev Box (b k t u i : Int) : Prop := (-200 ≤ b ∧ b ≤ 20000) ∧ (-3000 ≤ k ∧ k ≤ 3000) ∧ (-3000 ≤ t ∧ t ≤ 3000) ∧ (-3000 ≤ u ∧ u ≤ 3000) ∧ (-3000 ≤ i ∧ i ≤ 3000)
abbrev ofPlaces (b k t u i : Int) : Int := ((((b * 20 + k) * 20 + t) * 18 + u) * 20) + i
local macro_rules | `(tactic| walk_at "call ref") => `(tactic| (k_here; (with_reducible show wpAny _ _ (call (Value.ref 87) _) _ _ _); k_dflt (refine' cval_use (c_to_jd_mayan _ _ _ _ _ _ _ _ _ _ (by omega) (by omega) (by omega) (by omega) (by omega)) ?k1 ?k2 ?k3 ?k4 ?k5 ?kK ?kd ?ku ?_; (case k1 => k_asm); (case k2 => k_asm); (case k3 => k_asm); (case k4 => k_asm); (case k5 => k_asm); (case kK => first | exact rfl | assumption); (case kd => ktr_room); (case ku => ktr_units)); intro v9 h9 tk9 hv9 F9 N9; (k_dflt (obtain ⟨y9, t9, e9, hz9⟩ := hv9; subst e9)); (try dsimp only); (try k_sweep); (try k_fold)))
local macro_rules | `(tactic| walk_at "call ref") => `(tactic| (k_here; (with_reducible show wpAny _ _ (call (Value.ref 78) _) _ _ _); k_dflt (refine' cobj_use (c_from_jd_greg_e _ _ (by assumption) (by assumption) (by omega)) ?k1 ?k2 ?k3 ?k4 ?k5 ?kK ?kd ?ku ?kp ?_; (case k1 => k_asm); (case k2 => k_asm); (case k3 => k_asm); (case k4 => k_asm); (case k5 => k_asm); (case kK => first | exact rfl | assumption); (case kd => ktr_room); (case ku => ktr_units); (case kp => trivial)); intro D9 o9 h9 tk9 hv9 F9 N9 l9; (k_dflt (obtain ⟨y9, m9, d9, ⟨ty9, tm9, td9, c9, e9⟩, hv9, hd9⟩ := hv9; subst e9)); (try k_sweep); (try dsimp only); (try k_fold)))
local macro_rules | `(tactic| walk_at "call ref") => `(tactic| (k_here; (with_reducible show wpAny _ _ (call (Value.ref 115) _) _ _ _); k_dflt (refine' cobj_use (c_to_haab_e _ _ (by assumption) (by assumption) (by omega)) ?k1 ?k2 ?k3 ?k4 ?k5 ?kK ?kd ?ku ?kp ?_; (case k1 => k_asm); (case k2 => k_asm); (case k3 => k_asm); (case k4 => k_asm); (case k5 => k_asm); (case kK => first | exact rfl | assumption); (case kd => ktr_room); (case ku => ktr_units); (case kp => trivial)); intro D9 o9 h9 tk9 hv9 F9 N9 l9; (k_dflt (obtain ⟨tk9, tx9, c9, e9⟩ := hv9; subst e9)); (try k_sweep); (try dsimp only); (try k_fold)))
local macro_rules | `(tactic| walk_at "call ref") => `(tactic| (k_here; (with_reducible show wpAny _ _ (call (Value.ref 122) _) _ _ _); k_dflt (refine' cobj_use (c_to_tzolkin_e _ _ (by assumption) (by assumption) (by omega)) ?k1 ?k2 ?k3 ?k4 ?k5 ?kK ?kd ?ku ?kp ?_; (case k1 => k_asm); (case k2 => k_asm); (case k3 => k_asm); (case k4 => k_asm); (case k5 => k_asm); (case kK => first | exact rfl | assumption); (case kd => ktr_room); (case ku => ktr_units); (case kp => trivial)); intro D9 o9 h9 tk9 hv9 F9 N9 l9; (k_dflt (obtain ⟨tk9, tx9, c9, e9⟩ := hv9; subst e9)); (try k_sweep); (try dsimp only); (try k_fold)))
set_option maxRecDepth 100000 in
set_option maxHeartbeats 1000000 in
theorem c_lc_to_haab {w : World} (b k t u i n : Int) (tb tk tt tu ti : Tok) (hB : Box b k t u i) (hn : ofPlaces b k t u i = n) (hn1 : 4 ≤ 2337130 + 4 * n) :
    CObj 3 w 129 [.int b tb, .int k tk, .int t tt, .int u tu, .int i ti] (fun _ => True) (fun o => TupIS (wday n % 20) (hname (wday n / 20)) o) := by
  obtain ⟨hb, hk', ht, hu, hi⟩ := hB
  have hc : 2337130 + 4 * (((((b * 20 + k) * 20 + t) * 18 + u) * 20) + i) = 2337130 + 4 * n := by rw [← hn]
  have hn2 : n ≤ 3000000000 := by omega
  intro p loose mean mg mb news dp un gd cn cs a ccd cl outer A₀ base h₀ L m s Q E B F X N T hk hd hu' _ hret
  w_strict (
    refine wpAny_call ?_
    k_dflt cell_enter
    k_steps)
  all_goals (
    refine' hret _ _ _ _ ⟨_, _, _, rfl⟩ ?ea ?eb ?ec
    case ea => k_asm
    case eb => k_asm
    case ec => first | assumption | exact allLt_of (by k_asm))
set_option maxRecDepth 100000 in
set_option maxHeartbeats 1000000 in
theorem c_lc_to_tzolkin {w : World} (b k t u i n : Int) (tb tk tt tu ti : Tok) (hB : Box b k t u i) (hn : ofPlaces b k t u i = n) (hn1 : 4 ≤ 2337130 + 4 * n) :
    CObj 3 w 136 [.int b tb, .int k tk, .int t tt, .int u tu, .int i ti] (fun _ => True) (fun o => TupIS (wfirst n) (tname (wname n)) o) := by
  obtain ⟨hb, hk', ht, hu, hi⟩ := hB
  have hc : 2337130 + 4 * (((((b * 20 + k) * 20 + t) * 18 + u) * 20) + i) = 2337130 + 4 * n := by rw [← hn]
  have hn2 : n ≤ 3000000000 := by omega
  intro p loose mean mg mb news dp un gd cn cs a ccd cl outer A₀ base h₀ L m s Q E B F X N T hk hd hu' _ hret
  w_strict (
    refine wpAny_call ?_
    k_dflt cell_enter
    k_steps)
  all_goals (
    refine' hret _ _ _ _ ⟨_, _, _, rfl⟩ ?ea ?eb ?ec
    case ea => k_asm
    case eb => k_asm
    case ec => first | assumption | exact allLt_of (by k_asm))
set_option maxRecDepth 100000 in
set_option maxHeartbeats 1000000 in
theorem c_to_gregorian {w : World} (b k t u i n : Int) (tb tk tt tu ti : Tok) (hB : Box b k t u i) (hn : ofPlaces b k t u i = n + 1137142) (hn1 : -30000000 ≤ n ∧ n ≤ 2880000000) :
    CObj 5 w 101 [.int b tb, .int k tk, .int t tt, .int u tu, .int i ti] (fun _ => True) (fun o => ∃ y m d, TupI3 y m d o ∧ Valid y m d ∧ dn y m d = n) := by
  obtain ⟨hb, hk', ht, hu, hi⟩ := hB
  have hc : 2337130 + 4 * (((((b * 20 + k) * 20 + t) * 18 + u) * 20) + i) = 6885698 + 4 * n := by have : ((((b * 20 + k) * 20 + t) * 18 + u) * 20) + i = n + 1137142 := hn; omega
  intro p loose mean mg mb news dp un gd cn cs a ccd cl outer A₀ base h₀ L m s Q E B F X N T hk hd hu' _ hret
  w_strict (
    refine wpAny_call ?_
    k_dflt cell_enter
    k_steps)
  all_goals (
    refine' hret _ _ _ _ ⟨_, _, _, ⟨_, _, _, _, rfl⟩, (by assumption), (by assumption)⟩ ?ea ?eb ?ec
    case ea => k_asm
    case eb => k_asm
    case ec => first | assumption | exact allLt_of (by k_asm))
end
section
local macro_rules | `(tactic| walk_at "call ref") => `(tactic| (k_here; (with_reducible show wpAny _ _ (call (Value.ref 94) _) _ _ _); k_dflt (refine' cobj_use (c_from_jd_mayan_e _ _ (by assumption) (by assumption) (by omega) (by omega)) ?k1 ?k2 ?k3 ?k4 ?k5 ?kK ?kd ?ku ?kp ?_; (case k1 => k_asm); (case k2 => k_asm); (case k3 => k_asm); (case k4 => k_asm); (case k5 => k_asm); (case kK => first | exact rfl | assumption); (case kd => ktr_room); (case ku => ktr_units); (case kp => trivial)); intro D9 o9 h9 tk9 hv9 F9 N9 l9; (k_dflt (obtain ⟨b9, k9, t9, u9, i9, ⟨tb9, tk9, tt9, tu9, ti9, c9, e9⟩, hv9⟩ := hv9; subst e9)); (try k_sweep); (try dsimp only); (try k_fold)))
set_option maxRecDepth 100000 in
set_option maxHeartbeats 1000000 in
theorem c_told {w : World} (x : UInt64) (tx : Tok) {c n f : Int} (hx : IsQ x c) (hc : c = 2337130 + 4 * n + f) (hf : 0 ≤ f ∧ f ≤ 3) (hn : 0 ≤ n ∧ n ≤ 3000000000) :
    CObj 4 w 193 [.float x tx] (fun _ => True) (fun o => ∃ b k t u i, TupI5 b k t u i o ∧ Places n b k t u i) := by
  intro p loose mean mg mb news dp un gd cn cs a ccd cl outer A₀ base h₀ L m s Q E B F X N T hk hd hu' _ hret
  w_strict (
    refine wpAny_call ?_
    k_dflt cell_enter
    k_steps)
  all_goals (
    refine' hret _ _ _ _ ⟨_, _, _, _, _, ⟨_, _, _, _, _, _, rfl⟩, (by assumption)⟩ ?ea ?eb ?ec
    case ea => k_asm
    case eb => k_asm
    case ec => first | assumption | exact allLt_of (by k_asm))
local macro_rules | `(tactic| walk_at "call ref") => `(tactic| (k_here; (with_reducible show wpAny _ _ (call (Value.ref 71) _) _ _ _); k_dflt (refine' cval_use (c_to_jd_greg _ _ _ _ _ _ (by first | assumption | exact valid_11 _) (by omega)) ?k1 ?k2 ?k3 ?k4 ?k5 ?kK ?kd ?ku ?_; (case k1 => k_asm); (case k2 => k_asm); (case k3 => k_asm); (case k4 => k_asm); (case k5 => k_asm); (case kK => first | exact rfl | assumption); (case kd => ktr_room); (case ku => ktr_units)); intro v9 h9 tk9 hv9 F9 N9; (k_dflt (obtain ⟨y9, t9, e9, hz9⟩ := hv9; subst e9)); (try dsimp only); (try k_sweep); (try k_fold)))
set_option maxRecDepth 100000 in
set_option maxHeartbeats 1000000 in
theorem c_from_greg {w : World} (y mo d n : Int) (ty tm td : Tok) (hv : Valid y mo d) (hy : -8000000 ≤ y ∧ y ≤ 8000000) (hc : 6885698 + 4 * dn y mo d = 2337130 + 4 * n + 0) (hn : 0 ≤ n ∧ n ≤ 3000000000) :
    CObj 5 w 108 [.int y ty, .int mo tm, .int d td] (fun _ => True) (fun o => ∃ b k t u i, TupI5 b k t u i o ∧ Places n b k t u i) := by
  intro p loose mean mg mb news dp un gd cn cs a ccd cl outer A₀ base h₀ L m s Q E B F X N T hk hd hu' _ hret
  w_strict (
    refine wpAny_call ?_
    k_dflt cell_enter
    k_steps)
  all_goals (
    refine' hret _ _ _ _ ⟨_, _, _, _, _, ⟨_, _, _, _, _, _, rfl⟩, (by assumption)⟩ ?ea ?eb ?ec
    case ea => k_asm
    case eb => k_asm
    case ec => first | assumption | exact allLt_of (by k_asm))
local macro_rules | `(tactic| walk_at "call ref") => `(tactic| (k_here; (with_reducible show wpAny _ _ (call (Value.ref 108) _) _ _ _); k_dflt (refine' cobj_use (c_from_greg _ _ _ _ _ _ _ (by assumption) (by omega) (by assumption) (by omega)) ?k1 ?k2 ?k3 ?k4 ?k5 ?kK ?kd ?ku ?kp ?_; (case k1 => k_asm); (case k2 => k_asm); (case k3 => k_asm); (case k4 => k_asm); (case k5 => k_asm); (case kK => first | exact rfl | assumption); (case kd => ktr_room); (case ku => ktr_units); (case kp => trivial)); intro D9 o9 h9 tk9 hv9 F9 N9 l9; (k_dflt (obtain ⟨b9, k9, t9, u9, i9, ⟨tb9, tk9, tt9, tu9, ti9, c9, e9⟩, hv9⟩ := hv9; subst e9)); (try k_sweep); (try dsimp only); (try k_fold)))
set_option maxRecDepth 100000 in
set_option maxHeartbeats 1000000 in
theorem c_told_sun {w : World} (y mo d n : Int) (ty tm td : Tok) (hv : Valid y mo d) (hy : -8000000 ≤ y ∧ y ≤ 8000000) (hc : 6885698 + 4 * dn y mo d = 2337130 + 4 * n + 0) (hn : 0 ≤ n ∧ n ≤ 3000000000) :
    CObj 6 w 200 [.int y ty, .int mo tm, .int d td] (fun _ => True) (fun o => ∃ b k t u i, TupI5 b k t u i o ∧ Places n b k t u i) := by
  intro p loose mean mg mb news dp un gd cn cs a ccd cl outer A₀ base h₀ L m s Q E B F X N T hk hd hu' _ hret
  w_strict (
    refine wpAny_call ?_
    k_dflt cell_enter
    k_steps)
  all_goals (
    refine' hret _ _ _ _ ⟨_, _, _, _, _, ⟨_, _, _, _, _, _, rfl⟩, (by assumption)⟩ ?ea ?eb ?ec
    case ea => k_asm
    case eb => k_asm
    case ec => first | assumption | exact allLt_of (by k_asm))
set_option maxRecDepth 100000 in
set_option maxHeartbeats 1000000 in
theorem c_told_no {w : World} (x : UInt64) (tx : Tok) {c n f : Int} (hx : IsQ x c) (hc : c = 2337130 + 4 * n + f) (hf : 0 ≤ f ∧ f ≤ 3) (hn : -100000000 ≤ n ∧ n ≤ -1) :
    LVal w 193 [.float x tx] (fun v => ∃ t, v = .str (Str.ofString "refused") t) := by
  intro mean mg mb news cn nm mo a ccd h₀ L m s Q E B F X N T hret
  w_strict (
    k_steps)
  all_goals exact hret _ _ _ ⟨_, rfl⟩ (by k_asm) (by k_asm)
set_option maxRecDepth 100000 in
set_option maxHeartbeats 1000000 in
theorem c_sun_no {w : World} (y mo d n : Int) (ty tm td : Tok) (hv : Valid y mo d) (hy : -8000000 ≤ y ∧ y ≤ 8000000) (hc : 6885698 + 4 * dn y mo d = 2337130 + 4 * n + 0) (hn : -100000000 ≤ n ∧ n ≤ -1) :
    LVal w 200 [.int y ty, .int mo tm, .int d td] (fun v => ∃ t, v = .str (Str.ofString "refused") t) := by
  intro mean mg mb news cn nm mo a ccd h₀ L m s Q E B F X N T hret
  w_strict (
    k_steps)
  all_goals exact hret _ _ _ ⟨_, rfl⟩ (by k_asm) (by k_asm)
end
section
local macro_rules | `(tactic| walk_at "call ref") => `(tactic| (k_here; (with_reducible show wpAny _ _ (call (Value.ref 153) _) _ _ _); k_dflt (refine' cval_use (c_long _ _ (by first | assumption | rfl)) ?k1 ?k2 ?k3 ?k4 ?k5 ?kK ?kd ?ku ?_; (case k1 => k_asm); (case k2 => k_asm); (case k3 => k_asm); (case k4 => k_asm); (case k5 => k_asm); (case kK => first | exact rfl | assumption); (case kd => ktr_room); (case ku => ktr_units)); intro v9 h9 tk9 hv9 F9 N9; (k_dflt (subst hv9)); (try dsimp only); (try k_sweep); (try k_fold)))
set_option maxRecDepth 100000 in
set_option maxHeartbeats 1000000 in
theorem c_tomorrow {w : World} (D : Addr) (y m d : Int) (ty tm td : Tok) (c : Nat) (hv : Valid y m d) :
    CObj 2 w 160 [.ref D] (fun news => (D, ({ cls := .type "tuple", data := .seq #[.int y ty, .int m tm, .int d td] c } : Obj)) ∈ news) (fun o => ∃ y' m' d', TupI3 y' m' d' o ∧ Valid y' m' d' ∧ dn y' m' d' = dn y m d + 1) := by
  have hv0 := hv
  unfold Valid at hv0
  have hp := mlen_pos (y := y) (m := m)
  intro p loose mean mg mb news dp un gd cn cs a ccd cl outer A₀ base h₀ L mm s Q E B F X N T hk hd hu' hmem hret
  w_strict (
    refine wpAny_call ?_
    k_dflt cell_enter
    k_steps)
  all_goals (
    have hs1 : m = 2 → leapB y = true → mlen y m = 29 := fun a b => by unfold mlen; rw [if_pos a, if_pos b]
    have hs2 : leapB y = false → lens (m - 1) = mlen y m := fun a => lens_mlen ⟨hv0.1, hv0.2.1⟩ (fun x => by rw [a] at x; cases x.2)
    have hs3 : m ≠ 2 → lens (m - 1) = mlen y m := fun a => lens_mlen ⟨hv0.1, hv0.2.1⟩ (fun x => a x.1)
    first | have e9 := hs1 (by assumption) (by assumption) | have e9 := hs2 (by assumption) | have e9 := hs3 (by assumption)
    first
    | (have q := next_day hv (by omega); refine' hret _ _ _ _ ⟨_, _, _, ⟨_, _, _, _, rfl⟩, q.1, q.2⟩ ?ea ?eb ?ec; (case ea => k_asm); (case eb => k_asm); (case ec => exact allLt_of (by k_asm)))
    | (have q := next_month hv (by omega) (by omega); refine' hret _ _ _ _ ⟨_, _, _, ⟨_, _, _, _, rfl⟩, q.1, q.2⟩ ?ea ?eb ?ec; (case ea => k_asm); (case eb => k_asm); (case ec => exact allLt_of (by k_asm)))
    | (have q := next_year hv (by omega) (by omega); refine' hret _ _ _ _ ⟨_, _, _, ⟨_, _, _, _, rfl⟩, q.1, q.2⟩ ?ea ?eb ?ec; (case ea => k_asm); (case eb => k_asm); (case ec => exact allLt_of (by k_asm))))
end
section
theorem szA {y m : Int} (h : m = 2) (hb : leapB y = true) : mlen y m = 29 := by unfold mlen; rw [if_pos h, if_pos hb]
theorem szB {y m d : Int} (hv : Valid y m d) (hb : leapB y = false) : mlen y m = lens (m - 1) := by
  unfold Valid at hv
  exact (lens_mlen ⟨hv.1, hv.2.1⟩ (fun x => by rw [hb] at x; cases x.2)).symm
theorem szC {y m d : Int} (hv : Valid y m d) (h : m ≠ 2) : mlen y m = lens (m - 1) := by
  unfold Valid at hv
  exact (lens_mlen ⟨hv.1, hv.2.1⟩ (fun x => h x.1)).symm
theorem wA {y m d l S N : Int} (hv : Valid y m d) (h : dn y m d + l = N) (hs : mlen y m = S) (h0 : 0 < l) (hl : l ≤ S - d) : Valid y m (d + l) ∧ 0 ≤ (0 : Int) ∧ dn y m (d + l) + 0 = N ∧ 1 ≤ m ∧ m ≤ 12 := by
  refine ⟨?_, Int.le_refl _, by rw [dn_add]; omega, ?_⟩ <;> (unfold Valid at *; omega)
theorem wB {y m d l S N : Int} (hv : Valid y m d) (h : dn y m d + l = N) (hs : mlen y m = S) (hl : ¬ l ≤ S - d) (hm : m < 12) : Valid y (m + 1) 1 ∧ 0 ≤ l - (S - d + 1) ∧ dn y (m + 1) 1 + (l - (S - d + 1)) = N ∧ 1 ≤ m + 1 ∧ m + 1 ≤ 12 := by
  unfold Valid at hv
  have hv' : Valid y m (mlen y m) := by have := mlen_pos (y := y) (m := m); unfold Valid; omega
  obtain ⟨a, b⟩ := next_month hv' (by omega) hm
  have e : dn y m (mlen y m) = dn y m d + (S - d) := by
    have := dn_add y m d (S - d)
    rw [← this, hs]; congr 1; omega
  exact ⟨a, by omega, by omega, by omega, by omega⟩
theorem wC {y m d l S N : Int} (hv : Valid y m d) (h : dn y m d + l = N) (hs : mlen y m = S) (hl : ¬ l ≤ S - d) (hm : ¬ m < 12) : Valid (y + 1) 1 1 ∧ 0 ≤ l - (S - d + 1) ∧ dn (y + 1) 1 1 + (l - (S - d + 1)) = N ∧ 1 ≤ (1 : Int) ∧ (1 : Int) ≤ 12 := by
  unfold Valid at hv
  have hv' : Valid y m (mlen y m) := by have := mlen_pos (y := y) (m := m); unfold Valid; omega
  obtain ⟨a, b⟩ := next_year hv' (by omega) hm
  have e : dn y m (mlen y m) = dn y m d + (S - d) := by
    have := dn_add y m d (S - d)
    rw [← this, hs]; congr 1; omega
  exact ⟨a, by omega, by omega, by omega, by omega⟩
theorem wM {y m d l S : Int} (hv : Valid y m d) (hs : mlen y m = S) (h0 : 0 < l) : (l - (S - d + 1)).toNat < l.toNat := by
  unfold Valid at hv; omega
local macro_rules | `(tactic| walk_at "call ref") => `(tactic| (k_here; (with_reducible show wpAny _ _ (call (Value.ref 153) _) _ _ _); k_dflt (refine' cval_use (c_long _ _ (by first | assumption | rfl)) ?k1 ?k2 ?k3 ?k4 ?k5 ?kK ?kd ?ku ?_; (case k1 => k_asm); (case k2 => k_asm); (case k3 => k_asm); (case k4 => k_asm); (case k5 => k_asm); (case kK => first | exact rfl | assumption); (case kd => ktr_room); (case ku => ktr_units)); intro v9 h9 tk9 hv9 F9 N9; (k_dflt (subst hv9)); (try dsimp only); (try k_sweep); (try k_fold)))
local macro_rules | `(tactic| walk_at "InvEndN") => `(tactic| k_dflt kst_close)
local macro_rules | `(tactic| walk_at "KswEnd") => `(tactic| k_dflt ksw_close)
set_option maxRecDepth 100000 in
set_option maxHeartbeats 4000000 in
theorem c_sun {w : World} (n : Int) (tn : Tok) (d1 : Addr) (o1 : Obj) :
    CObjAt 2 w 167 [.int n tn] [(d1, o1)] (fun o => ∃ y' m' d', TupI3 y' m' d' o ∧ Valid y' m' d' ∧ dn y' m' d' = n - 1137142) := by
  intro p loose mean mg mb dp un gd cn cs a ccd cl outer A₀ base h₀ L mm s Q E B F X N T hk hd hu' hret
  w_strict (
    refine wpAny_call ?_
    k_dflt cell_enter
    k_with "pyIter ref" => k_state_short (fun _ year left => 0 ≤ left ∧ dn year 8 11 + left = n - 1137142) "year" "left"
    k_with "exec While Compare cons nil" => k_while (fun _ year month mday left => Valid year month mday ∧ 0 ≤ left ∧ dn year month mday + left = n - 1137142 ∧ 1 ≤ month ∧ month ≤ 12) (fun _ _ _ _ left => left.toNat) "year" "month" "mday" "left"
    k_with "measure" => first | exact wM (by assumption) (szA (by assumption) (by assumption)) (by assumption) | exact wM (by assumption) (szB (by assumption) (by assumption)) (by assumption) | exact wM (by assumption) (szC (by assumption) (by assumption)) (by assumption)
    k_with "state" => first | assumption | exact sun_start0 n | exact st100t (by assumption) (by assumption) (by first | assumption | omega) | exact st100f (by assumption) (by assumption) (by first | assumption | omega) | exact st4t (by assumption) (by assumption) (by first | assumption | omega) | exact st4f (by assumption) (by assumption) (by first | assumption | omega) | exact st1t (by assumption) (by assumption) (by first | assumption | omega) | exact st1f (by assumption) (by assumption) (by first | assumption | omega) | exact ⟨by assumption, by assumption⟩ | exact ⟨valid_aug _, by assumption, by assumption, by decide, by decide⟩ | exact wA (by assumption) (by assumption) (szA (by assumption) (by assumption)) (by assumption) (by assumption) | exact wB (by assumption) (by assumption) (szA (by assumption) (by assumption)) (by assumption) (by first | assumption | omega) | exact wC (by assumption) (by assumption) (szA (by assumption) (by assumption)) (by assumption) (by assumption) | exact wA (by assumption) (by assumption) (szB (by assumption) (by assumption)) (by assumption) (by assumption) | exact wB (by assumption) (by assumption) (szB (by assumption) (by assumption)) (by assumption) (by first | assumption | omega) | exact wC (by assumption) (by assumption) (szB (by assumption) (by assumption)) (by assumption) (by assumption) | exact wA (by assumption) (by assumption) (szC (by assumption) (by assumption)) (by assumption) (by assumption) | exact wB (by assumption) (by assumption) (szC (by assumption) (by assumption)) (by assumption) (by first | assumption | omega) | exact wC (by assumption) (by assumption) (szC (by assumption) (by assumption)) (by assumption) (by assumption)
    k_steps)
  (rename Valid _ _ _ => v9)
  (rename dn _ _ _ + _ = _ => e9)
  refine' hret _ _ _ _ ⟨_, _, _, ⟨_, _, _, _, rfl⟩, v9, ?ed⟩ ?ea ?eb ?ec
  case ed => omega
  case ea => k_asm
  case eb => (refine' cb_drop ?n1 ?n2; (case n1 => assumption); (case n2 => kcj_all))
  case ec => kcu_lt
end
theorem noWords : True := by
  k_with_none
  exact trivial
section
local macro_rules | `(tactic| walk_at "call ref") => `(tactic| (k_here; (with_reducible show wpAny _ _ (call (Value.ref 87) _) _ _ _); k_dflt (refine' cval_use (c_to_jd_mayan _ _ _ _ _ _ _ _ _ _ (by omega) (by omega) (by omega) (by omega) (by omega)) ?k1 ?k2 ?k3 ?k4 ?k5 ?kK ?kd ?ku ?_; (case k1 => k_asm); (case k2 => k_asm); (case k3 => k_asm); (case k4 => k_asm); (case k5 => k_asm); (case kK => first | exact rfl | assumption); (case kd => ktr_room); (case ku => ktr_units)); intro v9 h9 tk9 hv9 F9 N9; (k_dflt (obtain ⟨y9, t9, e9, hz9⟩ := hv9; subst e9)); (try dsimp only); (try k_sweep); (try k_fold)))
local macro_rules | `(tactic| walk_at "call ref") => `(tactic| (k_here; (with_reducible show wpAny _ _ (call (Value.ref 115) _) _ _ _); k_dflt (refine' cobj_use (c_to_haab_e _ _ (by assumption) (by assumption) (by omega)) ?k1 ?k2 ?k3 ?k4 ?k5 ?kK ?kd ?ku ?kp ?_; (case k1 => k_asm); (case k2 => k_asm); (case k3 => k_asm); (case k4 => k_asm); (case k5 => k_asm); (case kK => first | exact rfl | assumption); (case kd => ktr_room); (case ku => ktr_units); (case kp => trivial)); intro D9 o9 h9 tk9 hv9 F9 N9 l9; (k_dflt (obtain ⟨tk9, tx9, c9, e9⟩ := hv9; subst e9)); (try k_sweep); (try dsimp only); (try k_fold)))
local macro_rules | `(tactic| walk_at "call ref") => `(tactic| (k_here; (with_reducible show wpAny _ _ (call (Value.ref 122) _) _ _ _); k_dflt (refine' cobj_use (c_to_tzolkin_e _ _ (by assumption) (by assumption) (by omega)) ?k1 ?k2 ?k3 ?k4 ?k5 ?kK ?kd ?ku ?kp ?_; (case k1 => k_asm); (case k2 => k_asm); (case k3 => k_asm); (case k4 => k_asm); (case k5 => k_asm); (case kK => first | exact rfl | assumption); (case kd => ktr_room); (case ku => ktr_units); (case kp => trivial)); intro D9 o9 h9 tk9 hv9 F9 N9 l9; (k_dflt (obtain ⟨tk9, tx9, c9, e9⟩ := hv9; subst e9)); (try k_sweep); (try dsimp only); (try k_fold)))
theorem hname_short (k : Int) : (hname k).length ≤ 1000000 := by
  have h : ∀ i : Fin 20, (haabs.getD i.val (Str.ofString "")).length ≤ 1000000 := by decide +kernel
  unfold hname
  by_cases hk : k.toNat < 20
  · exact h ⟨k.toNat, hk⟩
  · rw [List.getD_eq_getElem?_getD, List.getElem?_eq_none (by show haabs.length ≤ _; have : haabs.length = 19 := rfl; omega)]
    decide
theorem tname_short (k : Int) : (tname k).length ≤ 1000000 := by
  have h : ∀ i : Fin 20, (tzols.getD i.val (Str.ofString "")).length ≤ 1000000 := by decide +kernel
  unfold tname
  by_cases hk : k.toNat < 20
  · exact h ⟨k.toNat, hk⟩
  · rw [List.getD_eq_getElem?_getD, List.getElem?_eq_none (by show tzols.length ≤ _; have : tzols.length = 20 := rfl; omega)]
    decide
def datesText (a : Int) (x : Str) (c : Int) (y : Str) : Str := Str.ofString (toString a) ++ Str.ofString " " ++ x ++ Str.ofString " " ++ Str.ofString (toString c) ++ Str.ofString " " ++ y
local macro_rules | `(tactic| walk_at "eval Call Attribute") => `(tactic| (k_here; (with_reducible show wpAny _ _ (eval (Expr.Call (Expr.Attribute _ _ _) [Expr.Starred _ _] [] _) _) _ _ _); k_dflt (refine FF.callAttr_star ?_)))
local macro_rules | `(tactic| walk_at "getAttr str") => `(tactic| (k_here; k_dflt (refine' FF.getAttr_fr ?k1 ?k2 ?_; (case k1 => k_asm); (case k2 => k_asm)); intro q9 h9 F9 N9 l9; (try k_sweep); (try k_fold)))
local macro_rules | `(tactic| walk_at "callWith ref") => `(tactic| (k_here; (with_reducible show wpAny _ _ (callWith _ (Value.ref _) [] (backTo _ (starEach [Expr.Starred _ _] _)) []) _ _ _); k_dflt (refine' FF.callWith_SB ?k1 ?k2 ?_; (case k1 => k_asm); (case k2 => exact List.Mem.head _))))
local macro_rules | `(tactic| walk_at "And") => `(tactic| ((with_reducible show Heap.get? _ _ = some (FF.bound _ _) ∧ _); k_dflt (refine ⟨News.get (by k_asm) (by k_mem), ?_⟩)))
local macro_rules | `(tactic| walk_at "call ref") => `(tactic| (k_here; (with_reducible show wpAny _ _ (call (Value.ref _) [Value.int _ _, Value.str _ _, Value.int _ _, Value.str _ _]) _ _ _); k_dflt (refine' FF.call_fmt ?ho ?hX ?h1 ?h2 ?h3 ?h4 ?h5 ?h6 ?_; (case ho => exact News.get (by k_asm) (by k_mem)); (case hX => exact rfl); (case h1 => omega); (case h2 => omega); (case h3 => omega); (case h4 => omega); (case h5 => exact tname_short _); (case h6 => exact hname_short _)); intro t9 k9; (try k_fold)))
set_option maxRecDepth 100000 in
set_option maxHeartbeats 1000000 in
theorem c_text {w : World} (b k t u i n : Int) (tb tk tt tu ti : Tok) (hB : Box b k t u i) (hn : ofPlaces b k t u i = n) (hn1 : 4 ≤ 2337130 + 4 * n) :
    CVal 4 w 143 [.int b tb, .int k tk, .int t tt, .int u tu, .int i ti] (fun v => ∃ tok, v = .str (datesText (wfirst n) (tname (wname n)) (wday n % 20) (hname (wday n / 20))) tok) := by
  obtain ⟨hb, hk', ht, hu, hi⟩ := hB
  have hc : 2337130 + 4 * (((((b * 20 + k) * 20 + t) * 18 + u) * 20) + i) = 2337130 + 4 * n := by rw [← hn]
  have hn2 : n ≤ 3000000000 := by omega
  have hw1 : 0 ≤ wfirst n ∧ wfirst n < 1000 := by unfold wfirst; omega
  have hw2 : 0 ≤ wday n % 20 ∧ wday n % 20 < 1000 := by omega
  intro p loose mean mg mb news dp un gd cn cs a ccd cl outer A₀ base h₀ L mm s Q E B F X N T hk hd hu' hret
  w_strict (
    refine wpAny_call ?_
    k_dflt cell_enter
    k_steps)
  all_goals refine hret _ _ _ ⟨_, rfl⟩ (by k_asm) ?_
  all_goals (rename News h₀ _ _ (_ :: _) => hN9; exact fun p hp => hN9 p (.tail _ (.tail _ (.tail _ (.tail _ hp)))))
end
section
abbrev CValP (lv : Nat) (w : World) (f : Addr) (vs : List Value) (pre : List (Addr × Obj) → Prop) (P : Value → Prop) : Prop :=
  ∀ (p : Program) (loose : List Str) (mean : ExcName → Option Value) (mg mb : Str → Option Value) (news : List (Addr × Obj)) (dp un : Nat) (gd : Option (List Code)) (cn : Str) (cs : Scope) (a : Addr) (ccd : Value) (cl : List (Str × Addr)) (outer : List Env) (A₀ : Around) (base h₀ : Heap) (L : Addr) (m : Str → Option Value) (s : Shared) (Q E : Value → Shared → Prop),
    Below A₀ base outer h₀ → Fr h₀ L s.heap m → (hd.heap_39 w.params).In h₀ → News h₀ L s.heap news → Top p loose mean mg mb h₀ → cs.kind = .function → dp + 4 * lv < recursionLimit → un + 100 * lv < cLine → pre news →
    (∀ v h' tk', P v → Fr h₀ L h' m → News h₀ L h' news → Q v { s with heap := h', toks := tk' }) →
    wpAny (model PP w) (ktrTop dp un gd cn cs L a ccd cl outer) (call (.ref f) vs) Q E s
def seqObj (T : String) (vs : List Value) (c : Nat) : Obj := { cls := .type T, data := .seq vs.toArray c }
section
variable {w : World} {A : Around} {E : Value → Shared → Prop} {s₁ : Shared} {h₀ : Heap} {L : Addr} {m : Str → Option Value} {news : List (Addr × Obj)}
theorem none_src {env : Env} {elt : Expr} {x : Str} {ifs : List Expr} {scope : Scope} {Q : Value → Shared → Prop} {l : Addr} {vs : List Value} {c : Nat} {T : String} (hT : T = "tuple" ∨ T = "list")
    (hh : A.handled = none) (F : Fr h₀ L s₁.heap m) (N : News h₀ L s₁.heap news) (hl : (l, seqObj T vs c) ∈ news) (hi : ∀ v ∈ vs, ∃ k t, v = .int k t)
    (g1 : ∀ C k t s₂ m₂ E', s₂.heap.Ns C m₂ → m₂ x = some (.int k t) → Fr h₀ L s₂.heap m → News h₀ L s₂.heap news →
        wpAny (model PP w) A (forIn ifs true fun c r => if r = true then do let ok ← isTrue c (compEnv scope C env) (eval c (compEnv scope C env)); pure (ForInStep.yield ok) else pure (ForInStep.yield r))
          (fun ok s₃ => ok = false ∧ Keeps s₂ s₃) E' s₂)
    (g3 : ∀ D n h' tk, Fr h₀ L h' m → News h₀ L h' ((D, ({ cls := .type "list", data := .seq #[] n } : Obj)) :: news) → Q (.ref D) { s₁ with heap := h', toks := tk })
    (hsz : vs.length ≤ sizeLine) :
    wpAny (model PP w) A (pyIter (.ref l)) (CompPost PP w A env scope x ifs elt Q) E s₁ := by
  have hg := (N _ hl).1
  have hlt : l < s₁.heap.objs.size := Heap.lt_size hg
  have key : ∀ (I : Obj) (P : Nat → Value → Prop) (St : Nat → Heap → Prop), Walks PP w A s₁.heap.objs.size [s₁.heap.objs.size, l] [s₁.heap.objs.size] vs.toArray.size P St → St 0 (s₁.heap.push I) → (∀ i v, P i v → vs.toArray[i]? = some v) →
      CompPost PP w A env scope x ifs elt Q (.ref s₁.heap.objs.size) { s₁ with heap := s₁.heap.push I } := by
    intro I P St W h0 hP
    have up : ∀ (h' : Heap), (∀ b o', b ∉ [s₁.heap.objs.size] → (s₁.heap.push I).get? b = some o' → h'.get? b = some o') → ∀ b o', s₁.heap.get? b = some o' → h'.get? b = some o' :=
      fun h' hk b o' e => hk b o' (not_iter_of_old e) (Heap.get?_push_of_some _ e)
    refine ⟨fun _ => false, fun _ _ => True, s₁.heap.objs.size, [s₁.heap.objs.size, l], [s₁.heap.objs.size], vs.toArray.size, P, St, rfl, W, (by rw [List.size_toArray]; exact hsz), h0, ?_, ⟨?_, ?_⟩, ?_⟩
    · intro b hb
      show b < (s₁.heap.push _).objs.size
      rw [Heap.size_push]
      rcases List.mem_cons.mp hb with rfl | hb
      · exact Nat.lt_succ_self _
      · rw [List.mem_singleton.mp hb]; exact Nat.lt_succ_of_lt hlt
    · intro C i v s₃ m₃ E' hp hn hm hk htk
      have hv := hP i v hp
      obtain ⟨k, t, e⟩ := hi v (List.mem_of_getElem? (by simpa using hv))
      subst e
      exact g1 C k t s₃ m₃ E' hn hm (F.keeps (up _ hk)) (N.grown (up _ hk))
    · intro C i v s₃ m₃ E' _ hf
      cases hf
    · intro D h' tk ys vs' hnew hlD hplD hlen _ hF hk
      have hnil : ys = #[] := by
        have e : vs'.filter (fun _ => false) = [] := by simp
        rw [e] at hF
        cases hy : ys.toList with
        | nil => simpa using hy
        | cons a b => rw [hy] at hF; cases hF
      obtain ⟨n, hD⟩ := hplD
      rw [hnil] at hD
      refine g3 D n h' tk (F.keeps (up h' hk)) ?_
      intro p hp
      rcases List.mem_cons.mp hp with rfl | hp
      · refine ⟨hD, ?_, ?_⟩
        · rintro rfl
          obtain ⟨⟨oL, es, ep, hL, r⟩, _, _⟩ := F
          rw [Heap.get?_push_of_some _ hL] at hnew; cases hnew
        · cases e : h₀.get? D with
          | none => rfl
          | some o' => rw [Heap.get?_push_of_some _ (F.keep _ _ e)] at hnew; cases hnew
      · exact N.grown (up h' hk) p hp
  rcases hT with rfl | rfl
  · have hls : s₁.heap.IsTuple l vs.toArray := ⟨_, hg, rfl, _, rfl⟩
    exact wpAny_pyIter_tuple hls (key _ _ _ (Walks.tuple hh _ l (Nat.ne_of_lt hlt) vs.toArray) ⟨⟨_, Heap.get?_push_size _ rfl, rfl, rfl⟩, hls.at fun o e => Heap.get?_push_of_some _ e⟩ (fun i v h => by simpa using h))
  · have hls : s₁.heap.IsList l vs.toArray := ⟨_, hg, rfl, _, rfl⟩
    exact wpAny_pyIter_list hls (key _ _ _ (Walks.list hh _ l (Nat.ne_of_lt hlt) vs.toArray) ⟨⟨_, Heap.get?_push_size _ rfl, rfl, rfl⟩, hls.at fun o e => Heap.get?_push_of_some _ e⟩ (fun i v h => by simpa using h))
end
section
variable {M : Model} {A : Around} {E : Value → Shared → Prop} {s : Shared} {K : Frag} {h₀ : Heap} {L C : Addr} {m m₂ mg mb : Str → Option Value} {scope : Scope} {env : Env} {p : Program} {loose : List Str} {mean : ExcName → Option Value} {x : Str} {pos : Pos} {v : Value} {Q : Value → Shared → Prop}
theorem ce_own (hC : s.heap.Ns C m₂) (hx : m₂ x = some v) (h : Q v s)
    (hk : (compEnv scope C env).scope.kind = .function := by rfl) (hl : (compEnv scope C env).kindOf x = some .local := by rfl) (hd : (x == ("__debug__" : Str)) = false := by decide) :
    wpAny M A (eval (.Name x pos) (compEnv scope C env)) Q E s := wpAny_Name (wpAny_loadName_local hk hl (show s.heap.Ns (compEnv scope C env).locals m₂ from hC) hx h) hd
theorem ce_built (F : Fr h₀ L s.heap m) (X : K.In h₀) (T : Top p loose mean mg mb h₀) (e : nsIn K mainGlobals x = some none) (hv : bootBuiltins x = some v) (hn : x ≠ "__name__") (h : Q v s) (hg : env.globals = mainGlobals := by rfl) (hb : env.builtins = builtinsNs := by rfl)
    (hk : (compEnv scope C env).scope.kind = .function := by rfl) (hx : (compEnv scope C env).kindOf x = some .globalImplicit := by rfl) (hd : (x == ("__debug__" : Str)) = false := by decide) :
    wpAny M A (eval (.Name x pos) (compEnv scope C env)) Q E s :=
  Name_function_global hk hx (loadGlobal_builtin (env := compEnv scope C env) (show s.heap.Ns env.globals mg from hg ▸ (T.keeps F.keep).g) (mg_none_of X T.g e) (show s.heap.Ns env.builtins mb from hb ▸ (T.keeps F.keep).b) ((T.builtins x hn).trans hv) h) hd
end
local macro_rules | `(tactic| walk_at "eval Name") => `(tactic| (k_here; (with_reducible show wpAny _ _ (eval (Expr.Name _ _) (compEnv _ _ _)) _ _ _); k_dflt (first
  | refine ce_own (by assumption) (by assumption) ?_
  | refine ce_built (by assumption) (by k_asm) (by k_asm) (by k_is) (by boot_by_name) (by decide) ?_)))
local macro_rules | `(tactic| walk_at "pyIter ref") => `(tactic| (k_here; (with_reducible show wpAny _ _ (pyIter _) (CompPost _ _ _ _ _ _ _ _ _) _ _); k_dflt (refine' none_src ?hT ?hh ?kF ?kN ?hl ?hi ?g1 ?g3 ?hsz; (case hT => first | assumption | exact Or.inl rfl); (case hh => exact rfl); (case kF => assumption); (case kN => assumption); (case hl => assumption); (case hi => assumption); (case hsz => assumption)); intros))
set_option maxRecDepth 100000 in
set_option maxHeartbeats 1000000 in
theorem c_whole {w : World} {T : String} (hT : T = "tuple" ∨ T = "list") (D : Addr) (vs : List Value) (c : Nat) (hi : ∀ v ∈ vs, ∃ k t, v = Value.int k t) (hsz : vs.length ≤ sizeLine) :
    CValP 2 w 179 [.ref D] (fun news => (D, seqObj T vs c) ∈ news) (fun v => v = .bool true) := by
  intro p loose mean mg mb news dp un gd cn cs a ccd cl outer A₀ base h₀ L mm s Q E B F X N T hk hd hu' hmem hret
  w_strict (
    refine wpAny_call ?_
    k_dflt cell_enter
    k_steps)
  · exact ⟨_, _, rfl, fun _ _ e => e⟩
  · refine hret _ _ _ rfl (by k_asm) ?_
    rename News h₀ _ _ (_ :: _) => hN9
    exact fun p hp => hN9 p (.tail _ (.tail _ hp))
end
section
abbrev CMut (lv : Nat) (w : World) (f : Addr) (vs : List Value) (news : List (Addr × Obj)) (P : Value → List (Addr × Obj) → Prop) : Prop :=
  ∀ (p : Program) (loose : List Str) (mean : ExcName → Option Value) (mg mb : Str → Option Value) (dp un : Nat) (gd : Option (List Code)) (cn : Str) (cs : Scope) (a : Addr) (ccd : Value) (cl : List (Str × Addr)) (outer : List Env) (A₀ : Around) (base h₀ : Heap) (L : Addr) (m : Str → Option Value) (s : Shared) (Q E : Value → Shared → Prop),
    Below A₀ base outer h₀ → Fr h₀ L s.heap m → (hd.heap_39 w.params).In h₀ → News h₀ L s.heap news → Top p loose mean mg mb h₀ → cs.kind = .function → dp + 4 * lv < recursionLimit → un + 100 * lv < cLine →
    (∀ v news' h' tk', P v news' → Fr h₀ L h' m → News h₀ L h' news' → Q v { s with heap := h', toks := tk' }) →
    wpAny (model PP w) (ktrTop dp un gd cn cs L a ccd cl outer) (call (.ref f) vs) Q E s
theorem turn0 {n b k t u i : Int} (hP : Places n b k t u i) (hb : -1000000 ≤ b ∧ b ≤ 1000000) (h0 : i + 1 ≠ 20) : Places (n + 1) b k t u (i + 1) ∧ -1000001 ≤ b ∧ b ≤ 1000001 := by
  unfold Places at *; omega
theorem turn1 {n b k t u i : Int} (hP : Places n b k t u i) (hb : -1000000 ≤ b ∧ b ≤ 1000000) (h0 : i + 1 = 20) (h1 : u + 1 ≠ 18) : Places (n + 1) b k t (u + 1) 0 ∧ -1000001 ≤ b ∧ b ≤ 1000001 := by
  unfold Places at *; omega
theorem turn2 {n b k t u i : Int} (hP : Places n b k t u i) (hb : -1000000 ≤ b ∧ b ≤ 1000000) (h0 : i + 1 = 20) (h1 : u + 1 = 18) (h2 : t + 1 ≠ 20) : Places (n + 1) b k (t + 1) 0 0 ∧ -1000001 ≤ b ∧ b ≤ 1000001 := by
  unfold Places at *; omega
theorem turn3 {n b k t u i : Int} (hP : Places n b k t u i) (hb : -1000000 ≤ b ∧ b ≤ 1000000) (h0 : i + 1 = 20) (h1 : u + 1 = 18) (h2 : t + 1 = 20) (h3 : k + 1 ≠ 20) : Places (n + 1) b (k + 1) 0 0 0 ∧ -1000001 ≤ b ∧ b ≤ 1000001 := by
  unfold Places at *; omega
theorem turn4 {n b k t u i : Int} (hP : Places n b k t u i) (hb : -1000000 ≤ b ∧ b ≤ 1000000) (h0 : i + 1 = 20) (h1 : u + 1 = 18) (h2 : t + 1 = 20) (h3 : k + 1 = 20) : Places (n + 1) (b + 1) 0 0 0 0 ∧ -1000001 ≤ b + 1 ∧ b + 1 ≤ 1000001 := by
  unfold Places at *; omega
set_option maxRecDepth 100000 in
set_option maxHeartbeats 1000000 in
theorem c_turn {w : World} (D d2 d3 : Addr) (o2 o3 : Obj) (n b k t u i : Int) (tb tk tt tu ti : Tok) (c : Nat) (hne : @Ne Nat D d2) (hne' : @Ne Nat D d3) (hP : Places n b k t u i) (hb : -1000000 ≤ b ∧ b ≤ 1000000) :
    CMut 2 w 186 [.ref D] ((D, ({ cls := .type "list", data := .seq #[.int b tb, .int k tk, .int t tt, .int u tu, .int i ti] c } : Obj)) :: [(d2, o2), (d3, o3)]) (fun _ news' => ∃ b' k' t' u' i' tb' tk' tt' tu' ti' c', news' = (D, ({ cls := .type "list", data := .seq #[.int b' tb', .int k' tk', .int t' tt', .int u' tu', .int i' ti'] c' } : Obj)) :: [(d2, o2), (d3, o3)] ∧ Places (n + 1) b' k' t' u' i' ∧ -1000001 ≤ b' ∧ b' ≤ 1000001) := by
  intro p loose mean mg mb dp un gd cn cs a ccd cl outer A₀ base h₀ L mm s Q E B F X N T hk hd hu' hret
  w_strict (
    refine wpAny_call ?_
    k_dflt cell_enter
    k_steps)
  all_goals
    rename News h₀ _ _ [_, _, _, _] => hN9
    refine hret _ _ _ _ ⟨_, _, _, _, _, _, _, _, _, _, _, rfl, ?_⟩ (by k_asm) (fun p hp => hN9 p (.tail _ hp))
  · exact turn4 hP hb (by assumption) (by assumption) (by assumption) (by assumption)
  · exact turn3 hP hb (by assumption) (by assumption) (by assumption) (by assumption)
  · exact turn2 hP hb (by assumption) (by assumption) (by assumption)
  · exact turn1 hP hb (by assumption) (by assumption)
  · exact turn0 hP hb (by assumption)
end
section
section
variable {prog : Program} {w : World} {A : Around} {E : Value → Shared → Prop} {s : Shared} {env : Env} {h₀ : Heap} {x : Str} {body : List Stmt} {Q : Flow → Shared → Prop}
/-- a for over a range by ones whose ledger moves: its addresses may change from turn to turn -/
theorem range_mv {r : Addr} {a₀ b₀ : Int} {t₀ u₀ v₀ : Tok} {n : Nat} {m₀ : Str → Option Value} {news : List (Addr × Obj)} (stored : List Str) (P : Int → List (Str × Value) × List (Addr × Obj) → Prop) (c₀ : List (Str × Value) × List (Addr × Obj))
    (hh : A.handled = none) (hr : IsRange s.heap r a₀ b₀ 1 t₀ u₀ v₀) (hsmall : Builtin.Range.small a₀ b₀ 1 = true) (hsz : Builtin.Range.rangeSize a₀ b₀ 1 = (n : Int)) (F : Fr h₀ env.locals s.heap m₀) (N : News h₀ env.locals s.heap news) (hn : ∀ p ∈ c₀.2, p ∈ news) (hk : ∀ p ∈ c₀.1, m₀ p.1 = some p.2) (hp : P a₀ c₀)
    (turn : ∀ (c : List (Str × Value) × List (Addr × Obj)) (k : Int) t (u : Str → Option Value) h tk I o, a₀ ≤ k → k < a₀ + (n : Int) → (∀ p ∈ c.2, @Ne Nat p.1 I) → P k c →
      Fr h₀ env.locals h (fun y => if y = x then some (.int k t) else kstB (fun z => if stored.contains z then u z else m₀ z) c.1 y) → News h₀ env.locals h (c.2 ++ [(I, o)]) →
      wpAny (model prog w) A (execs body env) (fun f s₂ => match f with
        | .ret v => Q (.ret v) s₂
        | .brk => Q .next s₂
        | _ => ∃ h' tk' m' c', s₂ = { s with heap := h', toks := tk' } ∧ Fr h₀ env.locals h' m' ∧ News h₀ env.locals h' (c'.2 ++ [(I, o)]) ∧ (∀ p ∈ c'.2, @Ne Nat p.1 I) ∧ (∀ p ∈ c'.1, m' p.1 = some p.2) ∧ (∀ z, z ≠ x → (∀ p ∈ c'.1, z ≠ p.1) → stored.contains z = false → m' z = m₀ z) ∧ P (k + 1) c') E { s with heap := h, toks := tk })
    (done : ∀ c (m₁ : Str → Option Value) h tk, P (a₀ + (n : Int)) c → Fr h₀ env.locals h m₁ → News h₀ env.locals h c.2 → Q .next { s with heap := h, toks := tk }) :
    wpAny (model prog w) A (pyIter (.ref r)) (fun it s₂ => LoopAtV prog w A h₀ env x body Q E it s₂) E s := by
  refine wpAny_pyIter_range hr hsmall ?_
  have W : Walks prog w A s.heap.objs.size [s.heap.objs.size] [s.heap.objs.size] n (fun i v => i < n ∧ ∃ t, v = .int (a₀ + i * 1) t)
      (fun i h => IsRangeIter h s.heap.objs.size (a₀ + (i : Nat) * 1) ((n : Int) - (i : Nat)) 1) := (Walks.range hh _ a₀ 1 n).bound
  let J : Nat → (Str → Option Value) → List (Addr × Obj) → Prop := fun i m nx => ∃ c, nx = c.2 ∧ (∀ p ∈ c.1, m p.1 = some p.2) ∧ (∀ z, z ≠ x → (∀ p ∈ c.1, z ≠ p.1) → stored.contains z = false → m z = m₀ z) ∧ P (a₀ + (i : Int)) c
  refine ⟨s.heap.objs.size, [s.heap.objs.size], [s.heap.objs.size], n, _, _, m₀, c₀.2, J, rfl, W, ?_, ?_, ?_, (by show IsRangeIter _ _ _ _ _; rw [hsz]; simpa using Heap.get?_push_size _ rfl), F.push _, (fun p hp => ⟨Heap.get?_push_of_some _ (N p (hn p hp)).1, (N p (hn p hp)).2⟩), ⟨c₀, rfl, hk, fun _ _ _ _ => rfl, by simpa using hp⟩, ?_, ?_⟩
  · intro hm
    exact absurd F.ns.lt ((List.mem_singleton.mp hm) ▸ Nat.lt_irrefl _)
  · intro b hb
    rw [List.mem_singleton.mp hb]
    exact next_is_new F
  · intro p hp hI
    exact absurd (Heap.lt_size (N p (hn p hp)).1) ((List.mem_singleton.mp hI) ▸ Nat.lt_irrefl _)
  · rintro i v m₁ news₁ s₁ own ⟨hh', tk', rfl⟩ hin ⟨_, t, rfl⟩ ⟨c, rfl, h1, h2, hP⟩ hoff hown hget hmem hst F₁ N₁
    have e1 : a₀ + (i : Int) * 1 = a₀ + (i : Int) := by omega
    rw [e1] at F₁
    obtain ⟨oI, hoI⟩ : ∃ o, hh'.get? s.heap.objs.size = some o := ⟨_, hst⟩
    have hIown : (s.heap.objs.size, oI) ∈ own := hmem _ (List.mem_singleton.mpr rfl) (next_is_new F) _ hoI
    have hall : ∀ p ∈ own, p = (s.heap.objs.size, oI) := by
      intro p hp
      have e2 := List.mem_singleton.mp (hown p hp)
      have e3 := hget p hp
      obtain ⟨p1, p2⟩ := p
      dsimp only at e2 e3
      subst e2
      have e4 : some p2 = some oI := by rw [← e3]; exact hoI
      cases e4
      rfl
    have hcI : ∀ p ∈ c.2, @Ne Nat p.1 s.heap.objs.size := fun p hp e => hoff p hp (List.mem_singleton.mpr e)
    have N₂ : News h₀ env.locals hh' (c.2 ++ [(s.heap.objs.size, oI)]) := fun p hp => N₁ p ((List.mem_append.mp hp).elim (fun h => List.mem_append.mpr (.inr h)) fun h => List.mem_append.mpr (.inl ((List.mem_singleton.mp h) ▸ hIown)))
    refine wpAny_mono (turn c (a₀ + (i : Int)) t m₁ hh' tk' s.heap.objs.size oI (by omega) (by omega) hcI hP (kst_fr h1 h2 F₁) N₂) (fun f s₂ p => ?_) fun _ _ e => e
    have fin : (∃ h' tk' m' c', s₂ = { s with heap := h', toks := tk' } ∧ Fr h₀ env.locals h' m' ∧ News h₀ env.locals h' (c'.2 ++ [(s.heap.objs.size, oI)]) ∧ (∀ p ∈ c'.2, @Ne Nat p.1 s.heap.objs.size) ∧ (∀ p ∈ c'.1, m' p.1 = some p.2) ∧ (∀ z, z ≠ x → (∀ p ∈ c'.1, z ≠ p.1) → stored.contains z = false → m' z = m₀ z) ∧ P (a₀ + (i : Int) + 1) c') →
        LoopStepU h₀ env.locals [s.heap.objs.size] own (J (i + 1)) { s with heap := hh', toks := tk' } .next s₂ := by
      rintro ⟨h', tk₂, m', c', e, F', N', hne, hk', hr', hP'⟩
      refine ⟨rfl, h', tk₂, m', c'.2, e, F', fun p hp => ?_, fun p hp hq => hne p hp (List.mem_singleton.mp hq), c', rfl, hk', hr', ?_⟩
      · rcases List.mem_append.mp hp with hp | hp
        · exact N' p (List.mem_append.mpr (.inr (List.mem_singleton.mpr (hall p hp))))
        · exact N' p (List.mem_append.mpr (.inl hp))
      · have e5 : a₀ + ((i + 1 : Nat) : Int) = a₀ + (i : Int) + 1 := by omega
        rw [e5]; exact hP'
    cases f with
    | ret v => exact .ret p
    | brk => exact .brk p
    | next => exact .next (fin p)
    | cont => exact .cont (fin p)
  · rintro h' tk m' news' F' N' _ ⟨c, rfl, h1, h2, hP⟩
    exact done c m' h' tk hP F' N'
/-- the same, the turn asked in any frame, with no way out of it -/
theorem range_mv2 {r : Addr} {a₀ b₀ : Int} {t₀ u₀ v₀ : Tok} {n : Nat} {m₀ : Str → Option Value} {news : List (Addr × Obj)} (stored : List Str) (P : Int → List (Str × Value) × List (Addr × Obj) → Prop) (c₀ : List (Str × Value) × List (Addr × Obj))
    (hh : A.handled = none) (hr : IsRange s.heap r a₀ b₀ 1 t₀ u₀ v₀) (hsmall : Builtin.Range.small a₀ b₀ 1 = true) (hsz : Builtin.Range.rangeSize a₀ b₀ 1 = (n : Int)) (F : Fr h₀ env.locals s.heap m₀) (N : News h₀ env.locals s.heap news) (hn : ∀ p ∈ c₀.2, p ∈ news) (hk : ∀ p ∈ c₀.1, m₀ p.1 = some p.2) (hp : P a₀ c₀)
    (turn : ∀ (m₀ u : Str → Option Value) (E : Value → Shared → Prop) (s : Shared) (c : List (Str × Value) × List (Addr × Obj)) (k : Int) t I o, a₀ ≤ k → k < a₀ + (n : Int) → (∀ p ∈ c.2, @Ne Nat p.1 I) → P k c →
      Fr h₀ env.locals s.heap (fun y => if y = x then some (.int k t) else kstB (fun z => if stored.contains z then u z else m₀ z) c.1 y) → News h₀ env.locals s.heap (c.2 ++ [(I, o)]) →
      wpAny (model prog w) A (execs body env) (fun f s₂ => f = .next ∧ ∃ h' tk' m' c', s₂ = { s with heap := h', toks := tk' } ∧ Fr h₀ env.locals h' m' ∧ News h₀ env.locals h' (c'.2 ++ [(I, o)]) ∧ (∀ p ∈ c'.2, @Ne Nat p.1 I) ∧ (∀ p ∈ c'.1, m' p.1 = some p.2) ∧ (∀ z, z ≠ x → (∀ p ∈ c'.1, z ≠ p.1) → stored.contains z = false → m' z = m₀ z) ∧ P (k + 1) c') E s)
    (done : ∀ c (m₁ : Str → Option Value) h tk, P (a₀ + (n : Int)) c → Fr h₀ env.locals h m₁ → News h₀ env.locals h c.2 → Q .next { s with heap := h, toks := tk }) :
    wpAny (model prog w) A (pyIter (.ref r)) (fun it s₂ => LoopAtV prog w A h₀ env x body Q E it s₂) E s := by
  refine range_mv stored P c₀ hh hr hsmall hsz F N hn hk hp (fun c k t u h tk I o h1 h2 h3 h4 h5 h6 => ?_) done
  refine wpAny_mono (turn m₀ u E { s with heap := h, toks := tk } c k t I o h1 h2 h3 h4 h5 h6) (fun f s₂ p => ?_) fun _ _ e => e
  obtain ⟨rfl, q⟩ := p
  exact q
end
end
section
section
variable {w : World} {A : Around} {E : Value → Shared → Prop} {s : Shared} {x y : Int} {t u : Tok} {Q : Value → Shared → Prop}
theorem r_imod (hy : 0 < y) (h : ∀ z, z = x % y → Q (.int z s.toks) { s with toks := s.toks + 1 }) : wpAny (model PP w) A (binaryOp .Mod (.int x t) (.int y u)) Q E s :=
  mod_int' (by omega) (h _ (Int.fmod_eq_emod_of_nonneg _ (by omega)))
theorem r_idiv (hy : 0 < y) (hy' : y ≤ 1000000) (hb : -10000000000 ≤ x ∧ x ≤ 10000000000) (h : ∀ z, z = x / y → Q (.int z s.toks) { s with toks := s.toks + 1 }) : wpAny (model PP w) A (binaryOp .FloorDiv (.int x t) (.int y u)) Q E s :=
  floordiv_int (by omega) (h _ (Int.fdiv_eq_ediv_of_nonneg _ (by omega))) (Or.inl (PyProof.noPylong_small (by omega)))
end
theorem news_one {h₀ h : Heap} {L : Addr} {news : List (Addr × Obj)} {d : Addr} {o : Obj} (N : News h₀ L h news) (hm : (d, o) ∈ news) : News h₀ L h [(d, o)] := fun p hp => (List.mem_singleton.mp hp) ▸ N _ hm
theorem four_of {ys : List Value} {l : List Int} (h : IntsAre ys (List.map (fun k' => (k' + 1000).fmod 2001 - 1000) (List.take (min 5 (List.take 5 l ++ [0, 0, 0, 0, 0]).length - 1) (List.drop 1 (List.take 5 l ++ [0, 0, 0, 0, 0]))))) :
    ∃ k t u i tk tt tu ti, ys = [.int k tk, .int t tt, .int u tu, .int i ti] ∧ (-1000 ≤ k ∧ k ≤ 1000) ∧ (-1000 ≤ t ∧ t ≤ 1000) ∧ (-1000 ≤ u ∧ u ≤ 1000) ∧ (-1000 ≤ i ∧ i ≤ 1000) := by
  have b : ∀ z : Int, -1000 ≤ (z + 1000).fmod 2001 - 1000 ∧ (z + 1000).fmod 2001 - 1000 ≤ 1000 := by
    intro z
    rw [Int.fmod_eq_emod_of_nonneg _ (by decide)]
    omega
  generalize e : List.take (min 5 (List.take 5 l ++ [0, 0, 0, 0, 0]).length - 1) (List.drop 1 (List.take 5 l ++ [0, 0, 0, 0, 0])) = q at h
  have hl : q.length = 4 := by
    rw [← e]
    simp only [List.length_take, List.length_drop, List.length_append, List.length_cons, List.length_nil]
    omega
  match q, hl with
  | [a1, a2, a3, a4], _ =>
    cases h with
    | cons _ t1 h => cases h with
      | cons _ t2 h => cases h with
        | cons _ t3 h => cases h with
          | cons _ t4 h => cases h; exact ⟨_, _, _, _, _, _, _, _, rfl, b _, b _, b _, b _⟩
def LawP (M bk kk tt uu ii : Int) (k : Int) (c : List (Str × Value) × List (Addr × Obj)) : Prop :=
  ∃ (Dp Dc : Addr) (n first name hm hd b k' t u i y m d : Int) (t1 t2 t3 t4 t5 t6 t7 t8 t9 t10 p1 p2 p3 p4 p5 q1 q2 q3 : Tok) (cp cq : Nat),
    c.1 = [(Str.ofString "number", .int M t1), (Str.ofString "baktun", .int bk t2), (Str.ofString "katun", .int kk t3), (Str.ofString "tun", .int tt t4), (Str.ofString "uinal", .int uu t5), (Str.ofString "kin", .int ii t6), (Str.ofString "places", .ref Dp), (Str.ofString "first", .int first t7), (Str.ofString "name", .int name t8), (Str.ofString "hmonth", .int hm t9), (Str.ofString "hday", .int hd t10), (Str.ofString "civil", .ref Dc)] ∧
    c.2 = [(Dp, ({ cls := .type "list", data := .seq #[.int b p1, .int k' p2, .int t p3, .int u p4, .int i p5] cp } : Obj)), (Dc, ({ cls := .type "tuple", data := .seq #[.int y q1, .int m q2, .int d q3] cq } : Obj))] ∧
    @Ne Nat Dp Dc ∧ n = M + k ∧ first = wfirst n ∧ name = wname n ∧ hm = wday n / 20 ∧ hd = wday n % 20 ∧ Places n b k' t u i ∧ Valid y m d ∧ dn y m d = n - 1137142
def lawStored : List Str := [Str.ofString "jd", Str.ofString "year", Str.ofString "month", Str.ofString "mday", Str.ofString "told", Str.ofString "tzolkin", Str.ofString "haab", Str.ofString "a", Str.ofString "b", Str.ofString "c", Str.ofString "d", Str.ofString "e", Str.ofString "due"]
theorem law_start {bk kk tt uu ii k1 t1 u1 b' k' t' u' i' f nm yd hm hd : Int} (hu : u1 = ii / 20) (ht : t1 = (uu + u1) / 18) (hk : k1 = (tt + t1) / 20) (hb : b' = (kk + k1) / 20) (hk' : k' = (kk + k1) % 20) (ht' : t' = (tt + t1) % 20) (hu' : u' = (uu + u1) % 18) (hi' : i' = ii % 20)
    (hf : f = (3 + ii + 7 * uu + 9 * tt + 11 * kk + 12 * bk) % 13) (hnm : nm = (19 + ii) % 20) (hyd : yd = (348 + ii + 20 * uu - 5 * tt - 100 * kk - 2000 * bk) % 365) (hhm : hm = yd / 20) (hhd : hd = yd % 20) :
    f + 1 = wfirst ((((bk * 20 + kk) * 20 + tt) * 18 + uu) * 20 + ii) ∧ nm = wname ((((bk * 20 + kk) * 20 + tt) * 18 + uu) * 20 + ii) ∧ hm = wday ((((bk * 20 + kk) * 20 + tt) * 18 + uu) * 20 + ii) / 20 ∧ hd = wday ((((bk * 20 + kk) * 20 + tt) * 18 + uu) * 20 + ii) % 20 ∧ Places ((((bk * 20 + kk) * 20 + tt) * 18 + uu) * 20 + ii) (bk + b') k' t' u' i' := by
  have e1 : (3 + ii + 7 * uu + 9 * tt + 11 * kk + 12 * bk) % 13 = ((((bk * 20 + kk) * 20 + tt) * 18 + uu) * 20 + ii + 3) % 13 := by omega
  have e2 : (19 + ii) % 20 = ((((bk * 20 + kk) * 20 + tt) * 18 + uu) * 20 + ii + 19) % 20 := by omega
  have e3 : (348 + ii + 20 * uu - 5 * tt - 100 * kk - 2000 * bk) % 365 = ((((bk * 20 + kk) * 20 + tt) * 18 + uu) * 20 + ii + 348) % 365 := by omega
  refine ⟨?_, ?_, ?_, ?_, ?_⟩
  · unfold wfirst; omega
  · unfold wname; omega
  · unfold wday; omega
  · unfold wday; omega
  · unfold Places; omega
end
section
/-! the law's own frame: the def's parts out of the program -/
def lawParts : List Stmt × Scope := match PP.main.body.getLast? with
  | some (.FunctionDef _ _ body _ _ _ scope _ _ _) => (body, scope)
  | _ => ([], default)
def lawScope : Scope := lawParts.2
def turnBody : List Stmt := match lawParts.1.reverse.tail.head? with
  | some (.For _ _ body _ _) => body
  | _ => []
theorem places_inj {n b k t u i b' k' t' u' i' : Int} (h : Places n b k t u i) (h' : Places n b' k' t' u' i') : b = b' ∧ k = k' ∧ t = t' ∧ u = u' ∧ i = i' := by
  unfold Places at *; omega
theorem wname_b (n : Int) : 0 ≤ wname n ∧ wname n < 20 := by unfold wname; omega
theorem wday_b (n : Int) : 0 ≤ wday n / 20 ∧ wday n / 20 < 19 ∧ 0 ≤ wday n % 20 ∧ wday n % 20 < 20 ∧ (wday n / 20 = 18 → wday n % 20 < 5) := by unfold wday; omega
theorem wfirst_b (n : Int) : 1 ≤ wfirst n ∧ wfirst n ≤ 13 := by unfold wfirst; omega
theorem cobj_mono {lv : Nat} {w : World} {f : Addr} {vs : List Value} {pre : List (Addr × Obj) → Prop} {P P' : Obj → Prop} (h : CObj lv w f vs pre P) (hp : ∀ o, P o → P' o) : CObj lv w f vs pre P' := by
  intro p loose mean mg mb news dp un gd cn cs a ccd cl outer A₀ base h₀ L m s Q E B F X N T hk hd hu hpre hret
  exact h _ _ _ _ _ _ _ _ _ _ _ _ _ _ _ _ _ _ _ _ _ _ _ B F X N T hk hd hu hpre fun D o h' tk' q => hret D o h' tk' (hp o q)
section
variable {w : World} {n b k t u i y m d first name hm hd c : Int} {tb tk tt tu ti tx ty tm td : Tok} {x : UInt64}
theorem k_greg (hv : Valid y m d) (hdn : dn y m d = n - 1137142) (hB : Box b k t u i) (hn : ofPlaces b k t u i = n) (hn1 : -28000000 ≤ n ∧ n ≤ 2880000000) :
    CObj 5 w 101 [.int b tb, .int k tk, .int t tt, .int u tu, .int i ti] (fun _ => True) (TupI3 y m d) :=
  cobj_mono (c_to_gregorian b k t u i (n - 1137142) tb tk tt tu ti hB (by omega) (by omega)) fun o ⟨y', m', d', ho, hv', hd'⟩ => by
    obtain ⟨rfl, rfl, rfl⟩ := dn_inj hv' hv (by omega)
    exact ho
theorem k_haab (h1 : hd = wday n % 20) (h2 : hm = wday n / 20) (hx : IsQ x c) (hc : c = 2337130 + 4 * n) (hn : 4 ≤ 2337130 + 4 * n ∧ n ≤ 3000000000) : CObj 2 w 115 [.float x tx] (fun _ => True) (TupIS hd (hname hm)) := by
  subst h1 h2; exact c_to_haab_e x tx hx hc hn
theorem k_tzol (h1 : first = wfirst n) (h2 : name = wname n) (hx : IsQ x c) (hc : c = 2337130 + 4 * n) (hn : 4 ≤ 2337130 + 4 * n ∧ n ≤ 3000000000) : CObj 2 w 122 [.float x tx] (fun _ => True) (TupIS first (tname name)) := by
  subst h1 h2; exact c_to_tzolkin_e x tx hx hc hn
theorem k_lchaab (h1 : hd = wday n % 20) (h2 : hm = wday n / 20) (hB : Box b k t u i) (hn : ofPlaces b k t u i = n) (hn1 : 4 ≤ 2337130 + 4 * n) :
    CObj 3 w 129 [.int b tb, .int k tk, .int t tt, .int u tu, .int i ti] (fun _ => True) (TupIS hd (hname hm)) := by
  subst h1 h2; exact c_lc_to_haab b k t u i n tb tk tt tu ti hB hn hn1
theorem k_lctzol (h1 : first = wfirst n) (h2 : name = wname n) (hB : Box b k t u i) (hn : ofPlaces b k t u i = n) (hn1 : 4 ≤ 2337130 + 4 * n) :
    CObj 3 w 136 [.int b tb, .int k tk, .int t tt, .int u tu, .int i ti] (fun _ => True) (TupIS first (tname name)) := by
  subst h1 h2; exact c_lc_to_tzolkin b k t u i n tb tk tt tu ti hB hn hn1
theorem k_told (hP : Places n b k t u i) (hx : IsQ x c) (hf : 0 ≤ c - (2337130 + 4 * n) ∧ c - (2337130 + 4 * n) ≤ 3) (hn : 0 ≤ n ∧ n ≤ 3000000000) :
    CObj 4 w 193 [.float x tx] (fun _ => True) (TupI5 b k t u i) :=
  cobj_mono (c_told (n := n) (f := c - (2337130 + 4 * n)) x tx hx (by omega) hf hn) fun o ⟨b', k', t', u', i', ho, hP'⟩ => by
    obtain ⟨rfl, rfl, rfl, rfl, rfl⟩ := places_inj hP' hP
    exact ho
theorem k_sun (hP : Places n b k t u i) (hv : Valid y m d) (hdn : dn y m d = n - 1137142) (hn : 0 ≤ n ∧ n ≤ 2880000000) :
    CObj 6 w 200 [.int y ty, .int m tm, .int d td] (fun _ => True) (TupI5 b k t u i) :=
  cobj_mono (c_told_sun y m d n ty tm td hv (year_of_dn hv (by omega)) (by omega) (by omega)) fun o ⟨b', k', t', u', i', ho, hP'⟩ => by
    obtain ⟨rfl, rfl, rfl, rfl, rfl⟩ := places_inj hP' hP
    exact ho
theorem k_told_no (hP : Places n b k t u i) (hx : IsQ x c) (hf : 0 ≤ c - (2337130 + 4 * n) ∧ c - (2337130 + 4 * n) ≤ 3) (hn : -28000000 ≤ n ∧ n ≤ -1) :
    LVal w 193 [.float x tx] (fun v => ∃ t, v = .str (Str.ofString "refused") t) :=
  c_told_no (n := n) (f := c - (2337130 + 4 * n)) x tx hx (by omega) hf (by omega)
theorem k_sun_no (hv : Valid y m d) (hdn : dn y m d = n - 1137142) (hn : -28000000 ≤ n ∧ n ≤ -1) :
    LVal w 200 [.int y ty, .int m tm, .int d td] (fun v => ∃ t, v = .str (Str.ofString "refused") t) :=
  c_sun_no y m d n ty tm td hv (year_of_dn hv (by omega)) (by omega) (by omega)
end
theorem news_three {h₀ h : Heap} {L : Addr} {news : List (Addr × Obj)} {p1 p2 p3 : Addr × Obj} (N : News h₀ L h news) (h1 : p1 ∈ news) (h2 : p2 ∈ news) (h3 : p3 ∈ news) : News h₀ L h [p1, p2, p3] := by
  intro p hp
  rcases List.mem_cons.mp hp with rfl | hp
  · exact N _ h1
  · rcases List.mem_cons.mp hp with rfl | hp
    · exact N _ h2
    · exact (List.mem_singleton.mp hp) ▸ N _ h3
theorem whole_ints3 {a b c : Int} {ta tb tc : Tok} : ∀ v ∈ [Value.int a ta, Value.int b tb, Value.int c tc], ∃ k t, v = Value.int k t := by
  intro v hv; simp at hv; rcases hv with rfl | rfl | rfl <;> exact ⟨_, _, rfl⟩
theorem whole_ints2 {a b : Int} {ta tb : Tok} : ∀ v ∈ [Value.int a ta, Value.int b tb], ∃ k t, v = Value.int k t := by
  intro v hv; simp at hv; rcases hv with rfl | rfl <;> exact ⟨_, _, rfl⟩
theorem whole_ints5 {a b c d e : Int} {ta tb tc td te : Tok} : ∀ v ∈ [Value.int a ta, Value.int b tb, Value.int c tc, Value.int d td, Value.int e te], ∃ k t, v = Value.int k t := by
  intro v hv; simp at hv; rcases hv with rfl | rfl | rfl | rfl | rfl <;> exact ⟨_, _, rfl⟩
section
variable {lv : Nat} {w : World} {f : Addr} {vs : List Value} {P : Value → Prop} {pre : List (Addr × Obj) → Prop} {P' : Value → List (Addr × Obj) → Prop} {p : Program} {loose : List Str} {mean : ExcName → Option Value} {mg mb : Str → Option Value} {news : List (Addr × Obj)} {dp un : Nat} {gd : Option (List Code)} {cn : Str} {cs : Scope} {a : Addr} {ccd : Value} {cl : List (Str × Addr)} {outer : List Env} {A₀ : Around} {base h₀ : Heap} {L : Addr} {m : Str → Option Value} {s : Shared} {Q E : Value → Shared → Prop}
theorem cvalP_use (C : CValP lv w f vs pre P) (B : Below A₀ base outer h₀) (F : Fr h₀ L s.heap m) (X : (hd.heap_39 w.params).In h₀) (N : News h₀ L s.heap news) (T : Top p loose mean mg mb h₀) (hk : cs.kind = .function) (hd : dp + 4 * lv < recursionLimit) (hu : un + 100 * lv < cLine) (hp : pre news)
    (ret : ∀ v h' tk', P v → Fr h₀ L h' m → News h₀ L h' news → Q v { s with heap := h', toks := tk' }) : wpAny (model PP w) (ktrTop dp un gd cn cs L a ccd cl outer) (call (.ref f) vs) Q E s :=
  C _ _ _ _ _ _ _ _ _ _ _ _ _ _ _ _ _ _ _ _ _ _ _ B F X N T hk hd hu hp ret
theorem cmut_use (C : CMut lv w f vs news P') (B : Below A₀ base outer h₀) (F : Fr h₀ L s.heap m) (X : (hd.heap_39 w.params).In h₀) (N : News h₀ L s.heap news) (T : Top p loose mean mg mb h₀) (hk : cs.kind = .function) (hd : dp + 4 * lv < recursionLimit) (hu : un + 100 * lv < cLine)
    (ret : ∀ v news' h' tk', P' v news' → Fr h₀ L h' m → News h₀ L h' news' → Q v { s with heap := h', toks := tk' }) : wpAny (model PP w) (ktrTop dp un gd cn cs L a ccd cl outer) (call (.ref f) vs) Q E s :=
  C _ _ _ _ _ _ _ _ _ _ _ _ _ _ _ _ _ _ _ _ _ _ B F X N T hk hd hu ret
end
section
variable {w : World} {D : Addr} {a b c d e : Int} {ta tb tc td te : Tok} {n : Nat}
theorem whole3 : CValP 2 w 179 [.ref D] (fun news => (D, ({ cls := .type "tuple", data := .seq #[.int a ta, .int b tb, .int c tc] n } : Obj)) ∈ news) (fun v => v = .bool true) :=
  c_whole (Or.inl rfl) D [_, _, _] n whole_ints3 (show (3 : Nat) ≤ sizeLine by decide)
theorem whole5 : CValP 2 w 179 [.ref D] (fun news => (D, ({ cls := .type "tuple", data := .seq #[.int a ta, .int b tb, .int c tc, .int d td, .int e te] n } : Obj)) ∈ news) (fun v => v = .bool true) :=
  c_whole (Or.inl rfl) D [_, _, _, _, _] n whole_ints5 (show (5 : Nat) ≤ sizeLine by decide)
theorem whole2 : CValP 2 w 179 [.ref D] (fun news => (D, W.listOf #[.int a ta, .int b tb] n) ∈ news) (fun v => v = .bool true) :=
  c_whole (Or.inr rfl) D [_, _] n whole_ints2 (show (2 : Nat) ≤ sizeLine by decide)
end
theorem k_text {w : World} {n b k t u i first name hm hd : Int} {tb tk tt tu ti : Tok} (hP : Places n b k t u i) (h1 : first = wfirst n) (h2 : name = wname n) (h3 : hd = wday n % 20) (h4 : hm = wday n / 20) (hB : Box b k t u i) (hn : ofPlaces b k t u i = n) (hn1 : 4 ≤ 2337130 + 4 * n) :
    CVal 4 w 143 [.int b tb, .int k tk, .int t tt, .int u tu, .int i ti] (fun v => ∃ tok, v = .str (Str.ofString (toString first) ++ Str.ofString " " ++ tname name ++ Str.ofString " " ++ Str.ofString (toString hd) ++ Str.ofString " " ++ hname hm) tok) := by
  subst h1 h2 h3 h4
  exact c_text b k t u i n tb tk tt tu ti hB hn hn1
end
section
/-! the turn's ifs: none of them stores a name -/
abbrev lawEnv (L fa : Addr) (ccd : Value) : Env := envOf (Str.ofString "law") lawScope L fa ccd
abbrev lawA (L fa : Addr) (ccd : Value) : Around := callerA.deeper (lawEnv L fa ccd)
def stNo (k : Nat) : Stmt := match turnBody.drop k with
  | s :: _ => s
  | [] => .Pass default
def st181 : Stmt := stNo 2
def st184 : Stmt := stNo 4
def st188 : Stmt := stNo 7
def st200 : Stmt := stNo 11
def st202 : Stmt := stNo 12
theorem fr_in {h₀ h : Heap} {L : Addr} {m : Str → Option Value} {ps : List (Str × Value)} (hm : ∀ p ∈ ps, m p.1 = some p.2) (F : Fr h₀ L h m) : Fr h₀ L h (kstB m ps) := by
  rw [show kstB m ps = m from funext fun z => kstB_eq hm fun _ => rfl]; exact F
theorem fr_back {h₀ h : Heap} {L : Addr} {m : Str → Option Value} {ps : List (Str × Value)} (hm : ∀ p ∈ ps, m p.1 = some p.2) (F : Fr h₀ L h (kstB m ps)) : Fr h₀ L h m := by
  rw [show kstB m ps = m from funext fun z => kstB_eq hm fun _ => rfl] at F; exact F
end
section
theorem strOk_h (k : Int) : PyData.strOk (hname k) = true := by
  have h : ∀ i : Fin 20, PyData.strOk (haabs.getD i.val (Str.ofString "")) = true := by decide +kernel
  unfold hname
  by_cases hk : k.toNat < 20
  · exact h ⟨k.toNat, hk⟩
  · rw [List.getD_eq_getElem?_getD, List.getElem?_eq_none (by show haabs.length ≤ _; have : haabs.length = 19 := rfl; omega)]
    decide +kernel
theorem strOk_t (k : Int) : PyData.strOk (tname k) = true := by
  have h : ∀ i : Fin 20, PyData.strOk (tzols.getD i.val (Str.ofString "")) = true := by decide +kernel
  unfold tname
  by_cases hk : k.toNat < 20
  · exact h ⟨k.toNat, hk⟩
  · rw [List.getD_eq_getElem?_getD, List.getElem?_eq_none (by show tzols.length ≤ _; have : tzols.length = 20 := rfl; omega)]
    decide +kernel
theorem r_ne_ts {w : World} {A : Around} {E : Value → Shared → Prop} {s : Shared} {h₀ : Heap} {L D D' : Addr} {news : List (Addr × Obj)} {k : Int} {x : Str} {t u t' u' : Tok} {c c' : Nat} {Q : Value → Shared → Prop} (hx : PyData.strOk x = true) (N : News h₀ L s.heap news)
    (h1 : (D, ({ cls := .type "tuple", data := .seq #[.int k t, .str x u] c } : Obj)) ∈ news) (h2 : (D', ({ cls := .type "tuple", data := .seq #[.int k t', .str x u'] c' } : Obj)) ∈ news) (hu : A.units + 64 < cLine) (h : Q (.bool false) s) :
    wpAny (model PP w) A (compareOp .NotEq (.ref D) (.ref D')) Q E s := by
  have hs : SeqAt.shaped (.tuple [.int k, .str x]) = true := by simp [SeqAt.shaped, PyData.canLay0, PyData.canLayAll0, PyData.depth, PyData.depthAll, hx]
  refine ne_dataH (reads_tuple_at (News.get N h1) rfl rfl (ReadsAll.cons (Reads.int _ _) (ReadsAll.cons (Reads.str _ _) ReadsAll.nil))) (reads_tuple_at (News.get N h2) rfl rfl (ReadsAll.cons (Reads.int _ _) (ReadsAll.cons (Reads.str _ _) ReadsAll.nil))) hs hs hu ?_
  have e : PyData.eqv (.tuple [.int k, .str x]) (.tuple [.int k, .str x]) = true := by simp [PyData.eqv, PyData.eqvAll]
  rw [e]
  exact h
theorem le_app {a b : Str} {n m : Nat} (h1 : a.length ≤ n) (h2 : b.length ≤ m) : (a ++ b).length ≤ n + m := by
  rw [PySem.Str.length_append]; exact Nat.add_le_add h1 h2
theorem sp_short : (Str.ofString " ").length ≤ 1 := by decide
theorem int_short {k : Int} (h : 0 ≤ k ∧ k < 20) : (Str.ofString (toString k)).length ≤ 1000000 := by
  have h' : ∀ i : Fin 20, (Str.ofString (toString ((i.val : Nat) : Int))).length ≤ 1000000 := by decide +kernel
  have e : ((k.toNat : Nat) : Int) = k := Int.toNat_of_nonneg h.1
  have := h' ⟨k.toNat, by omega⟩
  rw [← e]
  exact this
theorem r_ne_same {w : World} {A : Around} {E : Value → Shared → Prop} {s : Shared} {x : Str} {t u : Tok} {Q : Value → Shared → Prop} (h : Q (.bool false) s) : wpAny (model PP w) A (compareOp .NotEq (.str x t) (.str x u)) Q E s := by
  refine P.ne_str ?_
  rw [bne_self_eq_false]
  exact h
end
section
/-! the turn's end -/
def TurnMark (a b c : Addr) : Prop := @Ne Nat a b ∧ @Ne Nat a c
theorem k_turn {w : World} {D d2 d3 : Addr} {o2 o3 : Obj} {n b k t u i : Int} {tb tk tt tu ti : Tok} {c : Nat} (hm : TurnMark D d2 d3) (hP : Places n b k t u i) (hb : -1000000 ≤ b ∧ b ≤ 1000000) :
    CMut 2 w 186 [.ref D] ((D, ({ cls := .type "list", data := .seq #[.int b tb, .int k tk, .int t tt, .int u tu, .int i ti] c } : Obj)) :: [(d2, o2), (d3, o3)]) (fun _ news' => ∃ b' k' t' u' i' tb' tk' tt' tu' ti' c', news' = (D, ({ cls := .type "list", data := .seq #[.int b' tb', .int k' tk', .int t' tt', .int u' tu', .int i' ti'] c' } : Obj)) :: [(d2, o2), (d3, o3)] ∧ Places (n + 1) b' k' t' u' i' ∧ -1000001 ≤ b' ∧ b' ≤ 1000001) :=
  c_turn D d2 d3 o2 o3 n b k t u i tb tk tt tu ti c hm.1 hm.2 hP hb
abbrev lawNames (M bk kk tt uu ii first name hm hd : Int) (t1 t2 t3 t4 t5 t6 t7 t8 t9 t10 : Tok) (Dp Dc : Addr) : List (Str × Value) :=
  [(Str.ofString "number", .int M t1), (Str.ofString "baktun", .int bk t2), (Str.ofString "katun", .int kk t3), (Str.ofString "tun", .int tt t4), (Str.ofString "uinal", .int uu t5), (Str.ofString "kin", .int ii t6), (Str.ofString "places", .ref Dp), (Str.ofString "first", .int first t7), (Str.ofString "name", .int name t8), (Str.ofString "hmonth", .int hm t9), (Str.ofString "hday", .int hd t10), (Str.ofString "civil", .ref Dc)]
theorem turn_end {h₀ h' : Heap} {L I Dp Dc : Addr} {o : Obj} {m₀ m' : Str → Option Value} {s : Shared} {tk : Nat} {news : List (Addr × Obj)} {M bk kk tt uu ii k first name hm hd b k' t u i y mo d : Int} {t1 t2 t3 t4 t5 t6 t7 t8 t9 t10 p1 p2 p3 p4 p5 q1 q2 q3 : Tok} {cp cq : Nat}
    (F : Fr h₀ L h' m') (N : News h₀ L h' news) (hp : (Dp, ({ cls := .type "list", data := .seq #[.int b p1, .int k' p2, .int t p3, .int u p4, .int i p5] cp } : Obj)) ∈ news) (hc : (Dc, ({ cls := .type "tuple", data := .seq #[.int y q1, .int mo q2, .int d q3] cq } : Obj)) ∈ news) (hi : (I, o) ∈ news)
    (n1 : @Ne Nat Dp Dc) (n2 : @Ne Nat Dp I) (n3 : @Ne Nat Dc I)
    (hm' : ∀ p ∈ lawNames M bk kk tt uu ii first name hm hd t1 t2 t3 t4 t5 t6 t7 t8 t9 t10 Dp Dc, m' p.1 = some p.2)
    (hr : ∀ z, z ≠ Str.ofString "step" → (∀ n ∈ [Str.ofString "number", Str.ofString "baktun", Str.ofString "katun", Str.ofString "tun", Str.ofString "uinal", Str.ofString "kin", Str.ofString "places", Str.ofString "first", Str.ofString "name", Str.ofString "hmonth", Str.ofString "hday", Str.ofString "civil"], z ≠ n) → (∀ n ∈ [Str.ofString "jd", Str.ofString "year", Str.ofString "month", Str.ofString "mday", Str.ofString "told", Str.ofString "tzolkin", Str.ofString "haab", Str.ofString "a", Str.ofString "b", Str.ofString "c", Str.ofString "d", Str.ofString "e", Str.ofString "due"], z ≠ n) → lawStored.contains z = false → m' z = m₀ z)
    (e1 : first = wfirst (M + (k + 1))) (e2 : name = wname (M + (k + 1))) (e3 : hm = wday (M + (k + 1)) / 20) (e4 : hd = wday (M + (k + 1)) % 20) (e5 : Places (M + k + 1) b k' t u i) (e6 : Valid y mo d) (e7 : dn y mo d = M + (k + 1) - 1137142) :
    ∃ h'' tk'' m'' c', ({ s with heap := h', toks := tk } : Shared) = { s with heap := h'', toks := tk'' } ∧ Fr h₀ L h'' m'' ∧ News h₀ L h'' (c'.2 ++ [(I, o)]) ∧ (∀ p ∈ c'.2, @Ne Nat p.1 I) ∧ (∀ p ∈ c'.1, m'' p.1 = some p.2) ∧ (∀ z, z ≠ Str.ofString "step" → (∀ p ∈ c'.1, z ≠ p.1) → lawStored.contains z = false → m'' z = m₀ z) ∧ LawP M bk kk tt uu ii (k + 1) c' := by
  refine ⟨h', tk, m', (lawNames M bk kk tt uu ii first name hm hd t1 t2 t3 t4 t5 t6 t7 t8 t9 t10 Dp Dc, [(Dp, _), (Dc, _)]), rfl, F, news_three N hp hc hi, ?_, hm', ?_, ?_⟩
  · intro p hp
    rcases List.mem_cons.mp hp with rfl | hp
    · exact n2
    · rw [List.mem_singleton.mp hp]; exact n3
  · intro z h1 h2 h3
    refine hr z h1 ?_ ?_ h3
    · have h2' : ∀ n ∈ (lawNames M bk kk tt uu ii first name hm hd t1 t2 t3 t4 t5 t6 t7 t8 t9 t10 Dp Dc).map (·.1), z ≠ n := by
        intro n hn
        obtain ⟨p, hp, rfl⟩ := List.mem_map.mp hn
        exact h2 p hp
      exact h2'
    · intro n hn e
      subst e
      have : lawStored.contains z = true := List.contains_iff_mem.mpr hn
      rw [this] at h3
      cases h3
  · exact ⟨Dp, Dc, _, first, name, hm, hd, b, k', t, u, i, y, mo, d, t1, t2, t3, t4, t5, t6, t7, t8, t9, t10, p1, p2, p3, p4, p5, q1, q2, q3, cp, cq, rfl, rfl, n1, rfl, e1, e2, e3, e4, by rw [← Int.add_assoc]; exact e5, e6, e7⟩
theorem kst_none {rest : Str → Option Value} {z : Str} : ∀ {ps : List (Str × Value)}, (∀ p ∈ ps, z ≠ p.1) → kstB rest ps z = rest z
  | [], _ => rfl
  | p :: r, h => by
    show (if z = p.1 then some p.2 else kstB rest r z) = rest z
    rw [if_neg (h p (.head _))]
    exact kst_none fun q hq => h q (.tail _ hq)
theorem wheel1 {n a : Int} (h : a = wfirst n) : a % 13 + 1 = wfirst (n + 1) := by subst h; unfold wfirst; omega
theorem wheel2 {n a : Int} (h : a = wname n) : (a + 1) % 20 = wname (n + 1) := by subst h; unfold wname; omega
theorem wday_next (n : Int) : (wday n < 364 ∧ wday (n + 1) = wday n + 1) ∨ (wday n = 364 ∧ wday (n + 1) = 0) := by unfold wday; omega
theorem wday_ge (n : Int) : 0 ≤ wday n ∧ wday n ≤ 364 := by unfold wday; omega
theorem wheel3 {n a b : Int} (h : a = wday n / 20) (h' : b = wday n % 20) (c : ¬ (a = 18 ∧ b + 1 = 5)) (c' : ¬ (a ≠ 18 ∧ b + 1 = 20)) : a = wday (n + 1) / 20 ∧ b + 1 = wday (n + 1) % 20 := by
  have h1 := wday_next n
  have h2 := wday_ge n
  generalize wday (n + 1) = x at *
  generalize wday n = y at *
  rcases h1 with ⟨h1, rfl⟩ | ⟨rfl, rfl⟩ <;> omega
theorem wheel4 {n a b : Int} (h : a = wday n / 20) (h' : b = wday n % 20) (c : (a = 18 ∧ b + 1 = 5) ∨ (a ≠ 18 ∧ b + 1 = 20)) : (a + 1) % 19 = wday (n + 1) / 20 ∧ 0 = wday (n + 1) % 20 := by
  have h1 := wday_next n
  have h2 := wday_ge n
  generalize wday (n + 1) = x at *
  generalize wday n = y at *
  have hq : a = 0 ∨ a = 1 ∨ a = 2 ∨ a = 3 ∨ a = 4 ∨ a = 5 ∨ a = 6 ∨ a = 7 ∨ a = 8 ∨ a = 9 ∨ a = 10 ∨ a = 11 ∨ a = 12 ∨ a = 13 ∨ a = 14 ∨ a = 15 ∨ a = 16 ∨ a = 17 ∨ a = 18 := by omega
  rcases hq with hq | hq | hq | hq | hq | hq | hq | hq | hq | hq | hq | hq | hq | hq | hq | hq | hq | hq | hq <;> (subst hq; omega)
end
section
section
local macro_rules | `(tactic| walk_at "call ref") => `(tactic| (k_here; (with_reducible show wpAny _ _ (call (Value.ref 87) _) _ _ _); k_dflt (refine' cval_use (c_to_jd_mayan _ _ _ _ _ _ _ _ _ _ (by omega) (by omega) (by omega) (by omega) (by omega)) ?k1 ?k2 ?k3 ?k4 ?k5 ?kK ?kd ?ku ?_; (case k1 => k_asm); (case k2 => k_asm); (case k3 => k_asm); (case k4 => k_asm); (case k5 => k_asm); (case kK => first | exact rfl | assumption); (case kd => ktr_room); (case ku => ktr_units)); intro v9 h9 tk9 hv9 F9 N9; (k_dflt (obtain ⟨y9, t9, e9, hz9⟩ := hv9; subst e9)); (try dsimp only); (try k_sweep); (try k_fold)))
set_option maxRecDepth 100000 in
set_option maxHeartbeats 8000000 in
theorem s181 {w : World} {mean : ExcName → Option Value} {mg mb : Str → Option Value} {h₀ : Heap} {L fa : Addr} {ccd : Value} (B : Below callerA h₀ [] h₀) (X : (hd.heap_39 w.params).In h₀) (T : Top hd.view_39 LS mean mg mb h₀) {M bk kk tt uu ii k : Int} (hbk : -100 ≤ bk ∧ bk ≤ 19899) (hkk : -1000 ≤ kk ∧ kk ≤ 1000) (htt : -1000 ≤ tt ∧ tt ≤ 1000) (huu : -1000 ≤ uu ∧ uu ≤ 1000) (hii : -1000 ≤ ii ∧ ii ≤ 1000) (hM : M = ((((bk * 20 + kk) * 20 + tt) * 18 + uu) * 20) + ii) (hk0 : 0 ≤ k) (hk7 : k < 7) {jd : UInt64} {c : Int} (hj : IsQ jd c) (hc : c = 2337130 + 4 * (M + k)) {t2 t3 t4 t5 t6 t7 tj : Tok}  {d0 : Addr} {o0 : Obj} {d1 : Addr} {o1 : Obj} {d2 : Addr} {o2 : Obj} {E : Value → Shared → Prop} {s : Shared} {Q : Flow → Shared → Prop} {m : Str → Option Value}
    (F : Fr h₀ L s.heap m) (N : News h₀ L s.heap [(d0, o0), (d1, o1), (d2, o2)])
    (hm : ∀ p ∈ ([(Str.ofString "baktun", .int bk t2), (Str.ofString "katun", .int kk t3), (Str.ofString "tun", .int tt t4), (Str.ofString "uinal", .int uu t5), (Str.ofString "kin", .int ii t6), (Str.ofString "step", .int k t7), (Str.ofString "jd", .float jd tj)] : List (Str × Value)), m p.1 = some p.2)
    (ret : ∀ h' tk', Fr h₀ L h' m → News h₀ L h' [(d0, o0), (d1, o1), (d2, o2)] → Q .next { s with heap := h', toks := tk' }) :
    wpAny (model PP w) (lawA L fa ccd) (exec st181 (lawEnv L fa ccd)) Q E s := by
  have F0 := fr_in hm F
  have hb : st181 = st181 := rfl
  conv at hb => rhs; whnf
  have hs : lawScope = lawScope := rfl
  conv at hs => rhs; whnf
  dsimp only at hb hs
  rw [hb, lawA, lawEnv, hs]
  clear hb hs F
  w_strict (
    k_steps)
  all_goals (rename News h₀ _ _ _ => hN9; exact ret _ _ (fr_back hm (by assumption)) (fun p hp => hN9 p (by (repeat (first | exact hp | refine List.Mem.tail _ ?_)))))
end

section
local macro_rules | `(tactic| walk_at "call ref") => `(tactic| (k_here; (with_reducible show wpAny _ _ (call (Value.ref 179) _) _ _ _); k_dflt (refine' cvalP_use whole2 ?k1 ?k2 ?k3 ?k4 ?k5 ?kK ?kd ?ku ?kp ?_; (case k4 => k_asm); (case kp => k_mem); (case k1 => k_asm); (case k2 => k_asm); (case k3 => k_asm); (case k5 => k_asm); (case kK => first | exact rfl | assumption); (case kd => ktr_room); (case ku => ktr_units)); intro v9 h9 tk9 hv9 F9 N9; subst hv9; (try k_sweep); (try dsimp only); (try k_fold)))
local macro_rules | `(tactic| walk_at "call ref") => `(tactic| (k_here; (with_reducible show wpAny _ _ (call (Value.ref 179) _) _ _ _); k_dflt (refine' cvalP_use whole5 ?k1 ?k2 ?k3 ?k4 ?k5 ?kK ?kd ?ku ?kp ?_; (case k4 => k_asm); (case kp => k_mem); (case k1 => k_asm); (case k2 => k_asm); (case k3 => k_asm); (case k5 => k_asm); (case kK => first | exact rfl | assumption); (case kd => ktr_room); (case ku => ktr_units)); intro v9 h9 tk9 hv9 F9 N9; subst hv9; (try k_sweep); (try dsimp only); (try k_fold)))
local macro_rules | `(tactic| walk_at "call ref") => `(tactic| (k_here; (with_reducible show wpAny _ _ (call (Value.ref 179) _) _ _ _); k_dflt (refine' cvalP_use whole3 ?k1 ?k2 ?k3 ?k4 ?k5 ?kK ?kd ?ku ?kp ?_; (case k4 => k_asm); (case kp => k_mem); (case k1 => k_asm); (case k2 => k_asm); (case k3 => k_asm); (case k5 => k_asm); (case kK => first | exact rfl | assumption); (case kd => ktr_room); (case ku => ktr_units)); intro v9 h9 tk9 hv9 F9 N9; subst hv9; (try k_sweep); (try dsimp only); (try k_fold)))
set_option maxRecDepth 100000 in
set_option maxHeartbeats 8000000 in
theorem s184 {w : World} {mean : ExcName → Option Value} {mg mb : Str → Option Value} {h₀ : Heap} {L fa : Addr} {ccd : Value} (B : Below callerA h₀ [] h₀) (X : (hd.heap_39 w.params).In h₀) (T : Top hd.view_39 LS mean mg mb h₀) {y mo d : Int} {p1 p2 p3 q1 q2 q3 : Tok} {cp cq : Nat}  {Dt Dc : Addr} {d0 : Addr} {o0 : Obj} {d1 : Addr} {o1 : Obj} {E : Value → Shared → Prop} {s : Shared} {Q : Flow → Shared → Prop} {m : Str → Option Value}
    (F : Fr h₀ L s.heap m) (N : News h₀ L s.heap [(Dt, ({ cls := .type "tuple", data := .seq #[.int y p1, .int mo p2, .int d p3] cp } : Obj)), (d0, o0), (Dc, ({ cls := .type "tuple", data := .seq #[.int y q1, .int mo q2, .int d q3] cq } : Obj)), (d1, o1)])
    (hm : ∀ p ∈ ([(Str.ofString "told", .ref Dt), (Str.ofString "civil", .ref Dc)] : List (Str × Value)), m p.1 = some p.2)
    (ret : ∀ h' tk', Fr h₀ L h' m → News h₀ L h' [(Dt, ({ cls := .type "tuple", data := .seq #[.int y p1, .int mo p2, .int d p3] cp } : Obj)), (d0, o0), (Dc, ({ cls := .type "tuple", data := .seq #[.int y q1, .int mo q2, .int d q3] cq } : Obj)), (d1, o1)] → Q .next { s with heap := h', toks := tk' }) :
    wpAny (model PP w) (lawA L fa ccd) (exec st184 (lawEnv L fa ccd)) Q E s := by
  have F0 := fr_in hm F
  have hb : st184 = st184 := rfl
  conv at hb => rhs; whnf
  have hs : lawScope = lawScope := rfl
  conv at hs => rhs; whnf
  dsimp only at hb hs
  rw [hb, lawA, lawEnv, hs]
  clear hb hs F
  w_strict (
    k_steps)
  all_goals (rename News h₀ _ _ _ => hN9; exact ret _ _ (fr_back hm (by assumption)) (fun p hp => hN9 p (by (repeat (first | exact hp | refine List.Mem.tail _ ?_)))))
end

section
local macro_rules | `(tactic| walk_at "call ref") => `(tactic| (k_here; (with_reducible show wpAny _ _ (call (Value.ref 193) _) _ _ _); k_dflt (refine' lval_use (k_told_no (by assumption) (by assumption) (by omega) (by omega)) ?k1 ?k2 ?k3 ?k4 ?k5 ?_; (case k1 => k_asm); (case k2 => k_asm); (case k3 => k_asm); (case k4 => k_asm); (case k5 => k_asm)); intro v9 h9 tk9 hv9 F9 N9; (k_dflt (obtain ⟨t9, e9⟩ := hv9; subst e9)); (try k_sweep); (try dsimp only); (try k_fold)))
local macro_rules | `(tactic| walk_at "call ref") => `(tactic| (k_here; (with_reducible show wpAny _ _ (call (Value.ref 200) _) _ _ _); k_dflt (refine' lval_use (k_sun_no (by assumption) (by assumption) (by omega)) ?k1 ?k2 ?k3 ?k4 ?k5 ?_; (case k1 => k_asm); (case k2 => k_asm); (case k3 => k_asm); (case k4 => k_asm); (case k5 => k_asm)); intro v9 h9 tk9 hv9 F9 N9; obtain ⟨t9, e9⟩ := hv9; subst e9; (try k_sweep); (try dsimp only); (try k_fold)))
set_option maxRecDepth 100000 in
set_option maxHeartbeats 8000000 in
theorem s200b {w : World} {mean : ExcName → Option Value} {mg mb : Str → Option Value} {h₀ : Heap} {L fa : Addr} {ccd : Value} (B : Below callerA h₀ [] h₀) (X : (hd.heap_39 w.params).In h₀) (T : Top hd.view_39 LS mean mg mb h₀) {M bk kk tt uu ii k : Int} (hbk : -100 ≤ bk ∧ bk ≤ 19899) (hkk : -1000 ≤ kk ∧ kk ≤ 1000) (htt : -1000 ≤ tt ∧ tt ≤ 1000) (huu : -1000 ≤ uu ∧ uu ≤ 1000) (hii : -1000 ≤ ii ∧ ii ≤ 1000) (hM : M = ((((bk * 20 + kk) * 20 + tt) * 18 + uu) * 20) + ii) (hk0 : 0 ≤ k) (hk7 : k < 7) {y mo d first name hm' hday : Int} (hfirst : first = wfirst (M + k)) (hnm : name = wname (M + k)) (hhm : hm' = wday (M + k) / 20) (hhd : hday = wday (M + k) % 20) (hv : Valid y mo d) (hdn : dn y mo d = M + k - 1137142) {b k' t' u' i : Int} (hpl : Places (M + k) b k' t' u' i) (hlt : ¬ 0 ≤ M + k) {t8 t9 r1 r2 r3 : Tok} {d0 : Addr} {o0 : Obj} {d1 : Addr} {o1 : Obj} {d2 : Addr} {o2 : Obj} {d3 : Addr} {o3 : Obj} {d4 : Addr} {o4 : Obj} {d5 : Addr} {o5 : Obj} {E : Value → Shared → Prop} {s : Shared} {Q : Flow → Shared → Prop} {m : Str → Option Value}
    (F : Fr h₀ L s.heap m) (N : News h₀ L s.heap [(d0, o0), (d1, o1), (d2, o2), (d3, o3), (d4, o4), (d5, o5)])
    (hm : ∀ p ∈ ([(Str.ofString "told", .str (Str.ofString "refused") t8), (Str.ofString "due", .str (Str.ofString "refused") t9), (Str.ofString "year", .int y r1), (Str.ofString "month", .int mo r2), (Str.ofString "mday", .int d r3)] : List (Str × Value)), m p.1 = some p.2)
    (ret : ∀ h' tk', Fr h₀ L h' m → News h₀ L h' [(d0, o0), (d1, o1), (d2, o2), (d3, o3), (d4, o4), (d5, o5)] → Q .next { s with heap := h', toks := tk' }) :
    wpAny (model PP w) (lawA L fa ccd) (exec st200 (lawEnv L fa ccd)) Q E s := by
  have F0 := fr_in hm F
  have hb : st200 = st200 := rfl
  conv at hb => rhs; whnf
  have hs : lawScope = lawScope := rfl
  conv at hs => rhs; whnf
  dsimp only at hb hs
  rw [hb, lawA, lawEnv, hs]
  clear hb hs F
  have hMb : -28000000 ≤ M + k ∧ M + k ≤ 2875000000 := by omega
  have hplb : -200 ≤ b ∧ b ≤ 20000 := by have := hpl; unfold Places at this; omega
  have hplr : 0 ≤ k' ∧ k' < 20 ∧ 0 ≤ t' ∧ t' < 20 ∧ 0 ≤ u' ∧ u' < 18 ∧ 0 ≤ i ∧ i < 20 := by have := hpl; unfold Places at this; omega
  have hM2 : M + k = (((b * 20 + k') * 20 + t') * 18 + u') * 20 + i := by have := hpl; unfold Places at this; omega
  w_strict (
    k_steps)
  all_goals (rename News h₀ _ _ _ => hN9; exact ret _ _ (fr_back hm (by assumption)) (fun p hp => hN9 p (by (repeat (first | exact hp | refine List.Mem.tail _ ?_)))))
end

section
set_option maxRecDepth 100000 in
set_option maxHeartbeats 8000000 in
theorem s202b {w : World} {mean : ExcName → Option Value} {mg mb : Str → Option Value} {h₀ : Heap} {L fa : Addr} {ccd : Value} (B : Below callerA h₀ [] h₀) (X : (hd.heap_39 w.params).In h₀) (T : Top hd.view_39 LS mean mg mb h₀) {M bk kk tt uu ii k : Int} (hbk : -100 ≤ bk ∧ bk ≤ 19899) (hkk : -1000 ≤ kk ∧ kk ≤ 1000) (htt : -1000 ≤ tt ∧ tt ≤ 1000) (huu : -1000 ≤ uu ∧ uu ≤ 1000) (hii : -1000 ≤ ii ∧ ii ≤ 1000) (hM : M = ((((bk * 20 + kk) * 20 + tt) * 18 + uu) * 20) + ii) (hk0 : 0 ≤ k) (hk7 : k < 7) (hlt : ¬ 0 ≤ M + k) {t2 t7 : Tok} {d0 : Addr} {o0 : Obj} {d1 : Addr} {o1 : Obj} {d2 : Addr} {o2 : Obj} {d3 : Addr} {o3 : Obj} {d4 : Addr} {o4 : Obj} {d5 : Addr} {o5 : Obj} {E : Value → Shared → Prop} {s : Shared} {Q : Flow → Shared → Prop} {m : Str → Option Value}
    (F : Fr h₀ L s.heap m) (N : News h₀ L s.heap [(d0, o0), (d1, o1), (d2, o2), (d3, o3), (d4, o4), (d5, o5)])
    (hm : ∀ p ∈ ([(Str.ofString "number", .int M t2), (Str.ofString "step", .int k t7)] : List (Str × Value)), m p.1 = some p.2)
    (ret : ∀ h' tk', Fr h₀ L h' m → News h₀ L h' [(d0, o0), (d1, o1), (d2, o2), (d3, o3), (d4, o4), (d5, o5)] → Q .next { s with heap := h', toks := tk' }) :
    wpAny (model PP w) (lawA L fa ccd) (exec st202 (lawEnv L fa ccd)) Q E s := by
  have F0 := fr_in hm F
  have hb : st202 = st202 := rfl
  conv at hb => rhs; whnf
  have hs : lawScope = lawScope := rfl
  conv at hs => rhs; whnf
  dsimp only at hb hs
  rw [hb, lawA, lawEnv, hs]
  clear hb hs F
  w_strict (
    k_steps)
  all_goals (rename News h₀ _ _ _ => hN9; exact ret _ _ (fr_back hm (by assumption)) (fun p hp => hN9 p (by (repeat (first | exact hp | refine List.Mem.tail _ ?_)))))
end
end
section
local macro_rules | `(tactic| walk_at "call ref") => `(tactic| (k_here; (with_reducible show wpAny _ _ (call (Value.ref 115) _) _ _ _); k_dflt (refine' cobj_use (k_haab (by assumption) (by assumption) (by assumption) (by omega) (by omega)) ?k1 ?k2 ?k3 ?k4 ?k5 ?kK ?kd ?ku ?kp ?_; (case k1 => k_asm); (case k2 => k_asm); (case k3 => k_asm); (case k4 => k_asm); (case k5 => k_asm); (case kK => first | exact rfl | assumption); (case kd => ktr_room); (case ku => ktr_units); (case kp => trivial)); intro D9 o9 h9 tk9 hv9 F9 N9 l9; (k_dflt (obtain ⟨ty9, tm9, c9, e9⟩ := hv9; subst e9)); (try k_sweep); (try dsimp only); (try k_fold)))
local macro_rules | `(tactic| walk_at "call ref") => `(tactic| (k_here; (with_reducible show wpAny _ _ (call (Value.ref 122) _) _ _ _); k_dflt (refine' cobj_use (k_tzol (by assumption) (by assumption) (by assumption) (by omega) (by omega)) ?k1 ?k2 ?k3 ?k4 ?k5 ?kK ?kd ?ku ?kp ?_; (case k1 => k_asm); (case k2 => k_asm); (case k3 => k_asm); (case k4 => k_asm); (case k5 => k_asm); (case kK => first | exact rfl | assumption); (case kd => ktr_room); (case ku => ktr_units); (case kp => trivial)); intro D9 o9 h9 tk9 hv9 F9 N9 l9; (k_dflt (obtain ⟨ty9, tm9, c9, e9⟩ := hv9; subst e9)); (try k_sweep); (try dsimp only); (try k_fold)))
local macro_rules | `(tactic| walk_at "call ref") => `(tactic| (k_here; (with_reducible show wpAny _ _ (call (Value.ref 129) _) _ _ _); k_dflt (refine' cobj_use (k_lchaab (by assumption) (by assumption) (by refine ⟨?_, ?_, ?_, ?_, ?_⟩ <;> omega) (by unfold ofPlaces; omega) (by omega)) ?k1 ?k2 ?k3 ?k4 ?k5 ?kK ?kd ?ku ?kp ?_; (case k1 => k_asm); (case k2 => k_asm); (case k3 => k_asm); (case k4 => k_asm); (case k5 => k_asm); (case kK => first | exact rfl | assumption); (case kd => ktr_room); (case ku => ktr_units); (case kp => trivial)); intro D9 o9 h9 tk9 hv9 F9 N9 l9; (k_dflt (obtain ⟨ty9, tm9, c9, e9⟩ := hv9; subst e9)); (try k_sweep); (try dsimp only); (try k_fold)))
local macro_rules | `(tactic| walk_at "call ref") => `(tactic| (k_here; (with_reducible show wpAny _ _ (call (Value.ref 136) _) _ _ _); k_dflt (refine' cobj_use (k_lctzol (by assumption) (by assumption) (by refine ⟨?_, ?_, ?_, ?_, ?_⟩ <;> omega) (by unfold ofPlaces; omega) (by omega)) ?k1 ?k2 ?k3 ?k4 ?k5 ?kK ?kd ?ku ?kp ?_; (case k1 => k_asm); (case k2 => k_asm); (case k3 => k_asm); (case k4 => k_asm); (case k5 => k_asm); (case kK => first | exact rfl | assumption); (case kd => ktr_room); (case ku => ktr_units); (case kp => trivial)); intro D9 o9 h9 tk9 hv9 F9 N9 l9; (k_dflt (obtain ⟨ty9, tm9, c9, e9⟩ := hv9; subst e9)); (try k_sweep); (try dsimp only); (try k_fold)))
local macro_rules | `(tactic| walk_at "call ref") => `(tactic| (k_here; (with_reducible show wpAny _ _ (call (Value.ref 179) _) _ _ _); k_dflt (refine' cvalP_use whole2 ?k1 ?k2 ?k3 ?k4 ?k5 ?kK ?kd ?ku ?kp ?_; (case k4 => k_asm); (case kp => k_mem); (case k1 => k_asm); (case k2 => k_asm); (case k3 => k_asm); (case k5 => k_asm); (case kK => first | exact rfl | assumption); (case kd => ktr_room); (case ku => ktr_units)); intro v9 h9 tk9 hv9 F9 N9; subst hv9; (try k_sweep); (try dsimp only); (try k_fold)))
local macro_rules | `(tactic| walk_at "call ref") => `(tactic| (k_here; (with_reducible show wpAny _ _ (call (Value.ref 179) _) _ _ _); k_dflt (refine' cvalP_use whole5 ?k1 ?k2 ?k3 ?k4 ?k5 ?kK ?kd ?ku ?kp ?_; (case k4 => k_asm); (case kp => k_mem); (case k1 => k_asm); (case k2 => k_asm); (case k3 => k_asm); (case k5 => k_asm); (case kK => first | exact rfl | assumption); (case kd => ktr_room); (case ku => ktr_units)); intro v9 h9 tk9 hv9 F9 N9; subst hv9; (try k_sweep); (try dsimp only); (try k_fold)))
local macro_rules | `(tactic| walk_at "call ref") => `(tactic| (k_here; (with_reducible show wpAny _ _ (call (Value.ref 179) _) _ _ _); k_dflt (refine' cvalP_use whole3 ?k1 ?k2 ?k3 ?k4 ?k5 ?kK ?kd ?ku ?kp ?_; (case k4 => k_asm); (case kp => k_mem); (case k1 => k_asm); (case k2 => k_asm); (case k3 => k_asm); (case k5 => k_asm); (case kK => first | exact rfl | assumption); (case kd => ktr_room); (case ku => ktr_units)); intro v9 h9 tk9 hv9 F9 N9; subst hv9; (try k_sweep); (try dsimp only); (try k_fold)))
local macro_rules | `(tactic| walk_at "compareOp NotEq ref ref") => `(tactic| (k_here; (with_reducible show wpAny _ _ (compareOp CmpOp.NotEq (Value.ref _) (Value.ref _)) _ _ _); k_dflt (refine' r_ne_ts ?hx ?N ?h1 ?h2 ?hu ?_; (case N => k_asm); (case h1 => k_mem); (case h2 => k_mem); (case hx => first | exact strOk_t _ | exact strOk_h _); (case hu => ke_room))))
set_option maxRecDepth 100000 in
set_option maxHeartbeats 8000000 in
theorem s188 {w : World} {mean : ExcName → Option Value} {mg mb : Str → Option Value} {h₀ : Heap} {L fa : Addr} {ccd : Value} (B : Below callerA h₀ [] h₀) (X : (hd.heap_39 w.params).In h₀) (T : Top hd.view_39 LS mean mg mb h₀) {M bk kk tt uu ii k : Int} (hbk : -100 ≤ bk ∧ bk ≤ 19899) (hkk : -1000 ≤ kk ∧ kk ≤ 1000) (htt : -1000 ≤ tt ∧ tt ≤ 1000) (huu : -1000 ≤ uu ∧ uu ≤ 1000) (hii : -1000 ≤ ii ∧ ii ≤ 1000) (hM : M = ((((bk * 20 + kk) * 20 + tt) * 18 + uu) * 20) + ii) (hk0 : 0 ≤ k) (hk7 : k < 7) {jd : UInt64} {c : Int} (hj : IsQ jd c) (hc : c = 2337130 + 4 * (M + k)) {y mo d first name hm' hday : Int} (hfirst : first = wfirst (M + k)) (hnm : name = wname (M + k)) (hhm : hm' = wday (M + k) / 20) (hhd : hday = wday (M + k) % 20) (hv : Valid y mo d) (hdn : dn y mo d = M + k - 1137142) {t2 t3 t4 t5 t6 t7 tj p1 p2 q1 q2 : Tok} {cp cq : Nat}  {Dz Dh : Addr} {d0 : Addr} {o0 : Obj} {d1 : Addr} {o1 : Obj} {d2 : Addr} {o2 : Obj} {d3 : Addr} {o3 : Obj} {E : Value → Shared → Prop} {s : Shared} {Q : Flow → Shared → Prop} {m : Str → Option Value}
    (F : Fr h₀ L s.heap m) (N : News h₀ L s.heap [(Dh, ({ cls := .type "tuple", data := .seq #[.int hday p1, .str (hname hm') p2] cp } : Obj)), (Dz, ({ cls := .type "tuple", data := .seq #[.int first q1, .str (tname name) q2] cq } : Obj)), (d0, o0), (d1, o1), (d2, o2), (d3, o3)])
    (hm : ∀ p ∈ ([(Str.ofString "baktun", .int bk t2), (Str.ofString "katun", .int kk t3), (Str.ofString "tun", .int tt t4), (Str.ofString "uinal", .int uu t5), (Str.ofString "kin", .int ii t6), (Str.ofString "step", .int k t7), (Str.ofString "jd", .float jd tj), (Str.ofString "tzolkin", .ref Dz), (Str.ofString "haab", .ref Dh)] : List (Str × Value)), m p.1 = some p.2)
    (ret : ∀ h' tk', Fr h₀ L h' m → News h₀ L h' [(Dh, ({ cls := .type "tuple", data := .seq #[.int hday p1, .str (hname hm') p2] cp } : Obj)), (Dz, ({ cls := .type "tuple", data := .seq #[.int first q1, .str (tname name) q2] cq } : Obj)), (d0, o0), (d1, o1), (d2, o2), (d3, o3)] → Q .next { s with heap := h', toks := tk' }) :
    wpAny (model PP w) (lawA L fa ccd) (exec st188 (lawEnv L fa ccd)) Q E s := by
  have F0 := fr_in hm F
  have hb : st188 = st188 := rfl
  conv at hb => rhs; whnf
  have hs : lawScope = lawScope := rfl
  conv at hs => rhs; whnf
  dsimp only at hb hs
  rw [hb, lawA, lawEnv, hs]
  clear hb hs F
  have hMb : -28000000 ≤ M + k ∧ M + k ≤ 2875000000 := by omega
  have w1 := wname_b (M + k)
  have w2 := wday_b (M + k)
  have w3 := wfirst_b (M + k)
  rw [← hnm] at w1
  rw [← hhm, ← hhd] at w2
  rw [← hfirst] at w3
  w_strict (
    k_steps)
  all_goals (rename News h₀ _ _ _ => hN9; exact ret _ _ (fr_back hm (by assumption)) (fun p hp => hN9 p (by (repeat (first | exact hp | refine List.Mem.tail _ ?_)))))
end
section
local macro_rules | `(tactic| walk_at "call ref") => `(tactic| (k_here; (with_reducible show wpAny _ _ (call (Value.ref 200) _) _ _ _); k_dflt (refine' cobj_use (k_sun (by assumption) (by assumption) (by assumption) (by omega)) ?k1 ?k2 ?k3 ?k4 ?k5 ?kK ?kd ?ku ?kp ?_; (case k1 => k_asm); (case k2 => k_asm); (case k3 => k_asm); (case k4 => k_asm); (case k5 => k_asm); (case kK => first | exact rfl | assumption); (case kd => ktr_room); (case ku => ktr_units); (case kp => trivial)); intro D9 o9 h9 tk9 hv9 F9 N9 l9; (k_dflt (obtain ⟨tb9, tk9, tt9, tu9, ti9, c9, e9⟩ := hv9; subst e9)); (try k_sweep); (try dsimp only); (try k_fold)))
set_option maxRecDepth 100000 in
set_option maxHeartbeats 8000000 in
theorem s200a {w : World} {mean : ExcName → Option Value} {mg mb : Str → Option Value} {h₀ : Heap} {L fa : Addr} {ccd : Value} (B : Below callerA h₀ [] h₀) (X : (hd.heap_39 w.params).In h₀) (T : Top hd.view_39 LS mean mg mb h₀) {M bk kk tt uu ii k : Int} (hbk : -100 ≤ bk ∧ bk ≤ 19899) (hkk : -1000 ≤ kk ∧ kk ≤ 1000) (htt : -1000 ≤ tt ∧ tt ≤ 1000) (huu : -1000 ≤ uu ∧ uu ≤ 1000) (hii : -1000 ≤ ii ∧ ii ≤ 1000) (hM : M = ((((bk * 20 + kk) * 20 + tt) * 18 + uu) * 20) + ii) (hk0 : 0 ≤ k) (hk7 : k < 7) {y mo d first name hm' hday : Int} (hfirst : first = wfirst (M + k)) (hnm : name = wname (M + k)) (hhm : hm' = wday (M + k) / 20) (hhd : hday = wday (M + k) % 20) (hv : Valid y mo d) (hdn : dn y mo d = M + k - 1137142) {b k' t' u' i : Int} (hpl : Places (M + k) b k' t' u' i) (hge : 0 ≤ M + k) {p1 p2 p3 p4 p5 q1 q2 q3 q4 q5 r1 r2 r3 : Tok} {cp cq : Nat}  {Dt Du : Addr} {d0 : Addr} {o0 : Obj} {d1 : Addr} {o1 : Obj} {d2 : Addr} {o2 : Obj} {d3 : Addr} {o3 : Obj} {d4 : Addr} {o4 : Obj} {d5 : Addr} {o5 : Obj} {E : Value → Shared → Prop} {s : Shared} {Q : Flow → Shared → Prop} {m : Str → Option Value}
    (F : Fr h₀ L s.heap m) (N : News h₀ L s.heap [(Dt, ({ cls := .type "tuple", data := .seq #[.int b p1, .int k' p2, .int t' p3, .int u' p4, .int i p5] cp } : Obj)), (Du, ({ cls := .type "tuple", data := .seq #[.int b q1, .int k' q2, .int t' q3, .int u' q4, .int i q5] cq } : Obj)), (d0, o0), (d1, o1), (d2, o2), (d3, o3), (d4, o4), (d5, o5)])
    (hm : ∀ p ∈ ([(Str.ofString "told", .ref Dt), (Str.ofString "due", .ref Du), (Str.ofString "year", .int y r1), (Str.ofString "month", .int mo r2), (Str.ofString "mday", .int d r3)] : List (Str × Value)), m p.1 = some p.2)
    (ret : ∀ h' tk', Fr h₀ L h' m → News h₀ L h' [(Dt, ({ cls := .type "tuple", data := .seq #[.int b p1, .int k' p2, .int t' p3, .int u' p4, .int i p5] cp } : Obj)), (Du, ({ cls := .type "tuple", data := .seq #[.int b q1, .int k' q2, .int t' q3, .int u' q4, .int i q5] cq } : Obj)), (d0, o0), (d1, o1), (d2, o2), (d3, o3), (d4, o4), (d5, o5)] → Q .next { s with heap := h', toks := tk' }) :
    wpAny (model PP w) (lawA L fa ccd) (exec st200 (lawEnv L fa ccd)) Q E s := by
  have F0 := fr_in hm F
  have hb : st200 = st200 := rfl
  conv at hb => rhs; whnf
  have hs : lawScope = lawScope := rfl
  conv at hs => rhs; whnf
  dsimp only at hb hs
  rw [hb, lawA, lawEnv, hs]
  clear hb hs F
  have hMb : -28000000 ≤ M + k ∧ M + k ≤ 2875000000 := by omega
  have hplb : -200 ≤ b ∧ b ≤ 20000 := by have := hpl; unfold Places at this; omega
  have hplr : 0 ≤ k' ∧ k' < 20 ∧ 0 ≤ t' ∧ t' < 20 ∧ 0 ≤ u' ∧ u' < 18 ∧ 0 ≤ i ∧ i < 20 := by have := hpl; unfold Places at this; omega
  have hM2 : M + k = (((b * 20 + k') * 20 + t') * 18 + u') * 20 + i := by have := hpl; unfold Places at this; omega
  w_strict (
    k_steps)
  all_goals (rename News h₀ _ _ _ => hN9; exact ret _ _ (fr_back hm (by assumption)) (fun p hp => hN9 p (by (repeat (first | exact hp | refine List.Mem.tail _ ?_)))))
end
section
local macro_rules | `(tactic| walk_at "call ref") => `(tactic| (k_here; (with_reducible show wpAny _ _ (call (Value.ref 87) _) _ _ _); k_dflt (refine' cval_use (c_to_jd_mayan _ _ _ _ _ _ _ _ _ _ (by omega) (by omega) (by omega) (by omega) (by omega)) ?k1 ?k2 ?k3 ?k4 ?k5 ?kK ?kd ?ku ?_; (case k1 => k_asm); (case k2 => k_asm); (case k3 => k_asm); (case k4 => k_asm); (case k5 => k_asm); (case kK => first | exact rfl | assumption); (case kd => ktr_room); (case ku => ktr_units)); intro v9 h9 tk9 hv9 F9 N9; (k_dflt (obtain ⟨y9, t9, e9, hz9⟩ := hv9; subst e9)); (try dsimp only); (try k_sweep); (try k_fold)))
local macro_rules | `(tactic| walk_at "call ref") => `(tactic| (k_here; (with_reducible show wpAny _ _ (call (Value.ref 179) _) _ _ _); k_dflt (refine' cvalP_use whole2 ?k1 ?k2 ?k3 ?k4 ?k5 ?kK ?kd ?ku ?kp ?_; (case k4 => k_asm); (case kp => k_mem); (case k1 => k_asm); (case k2 => k_asm); (case k3 => k_asm); (case k5 => k_asm); (case kK => first | exact rfl | assumption); (case kd => ktr_room); (case ku => ktr_units)); intro v9 h9 tk9 hv9 F9 N9; subst hv9; (try k_sweep); (try dsimp only); (try k_fold)))
local macro_rules | `(tactic| walk_at "call ref") => `(tactic| (k_here; (with_reducible show wpAny _ _ (call (Value.ref 179) _) _ _ _); k_dflt (refine' cvalP_use whole5 ?k1 ?k2 ?k3 ?k4 ?k5 ?kK ?kd ?ku ?kp ?_; (case k4 => k_asm); (case kp => k_mem); (case k1 => k_asm); (case k2 => k_asm); (case k3 => k_asm); (case k5 => k_asm); (case kK => first | exact rfl | assumption); (case kd => ktr_room); (case ku => ktr_units)); intro v9 h9 tk9 hv9 F9 N9; subst hv9; (try k_sweep); (try dsimp only); (try k_fold)))
local macro_rules | `(tactic| walk_at "call ref") => `(tactic| (k_here; (with_reducible show wpAny _ _ (call (Value.ref 179) _) _ _ _); k_dflt (refine' cvalP_use whole3 ?k1 ?k2 ?k3 ?k4 ?k5 ?kK ?kd ?ku ?kp ?_; (case k4 => k_asm); (case kp => k_mem); (case k1 => k_asm); (case k2 => k_asm); (case k3 => k_asm); (case k5 => k_asm); (case kK => first | exact rfl | assumption); (case kd => ktr_room); (case ku => ktr_units)); intro v9 h9 tk9 hv9 F9 N9; subst hv9; (try k_sweep); (try dsimp only); (try k_fold)))
local macro_rules | `(tactic| walk_at "call ref") => `(tactic| (k_here; (with_reducible show wpAny _ _ (call (Value.ref 143) _) _ _ _); k_dflt (refine' cval_use (k_text (by assumption) (by assumption) (by assumption) (by assumption) (by assumption) (by refine ⟨?_, ?_, ?_, ?_, ?_⟩ <;> omega) (by unfold ofPlaces; omega) (by omega)) ?k1 ?k2 ?k3 ?k4 ?k5 ?kK ?kd ?ku ?_; (case k1 => k_asm); (case k2 => k_asm); (case k3 => k_asm); (case k4 => k_asm); (case k5 => k_asm); (case kK => first | exact rfl | assumption); (case kd => ktr_room); (case ku => ktr_units)); intro v9 h9 tk9 hv9 F9 N9; (k_dflt (obtain ⟨t9, e9⟩ := hv9; subst e9)); (try dsimp only); (try k_sweep); (try k_fold)))
local macro_rules | `(tactic| walk_at "binaryOp Add str str") => `(tactic| (k_here; (with_reducible show wpAny _ _ (binaryOp Operator.Add (Value.str _ _) (Value.str _ _)) _ _ _); k_dflt (refine' KXadd.add ?kxaa ?kxab ?kxac ?_; (case kxaa => repeat (with_reducible first | exact tname_short _ | exact hname_short _ | exact sp_short | exact int_short (by omega) | apply le_app)); (case kxab => repeat (with_reducible first | exact tname_short _ | exact hname_short _ | exact sp_short | exact int_short (by omega) | apply le_app)); (case kxac => exact Nat.le_of_ble_eq_true rfl)); intro t9 k9 l9; clear l9))
local macro_rules | `(tactic| walk_at "compareOp NotEq str str") => `(tactic| (k_here; with_reducible refine r_ne_same ?_))
set_option maxRecDepth 100000 in
set_option maxHeartbeats 8000000 in
theorem s202a {w : World} {mean : ExcName → Option Value} {mg mb : Str → Option Value} {h₀ : Heap} {L fa : Addr} {ccd : Value} (B : Below callerA h₀ [] h₀) (X : (hd.heap_39 w.params).In h₀) (T : Top hd.view_39 LS mean mg mb h₀) {M bk kk tt uu ii k : Int} (hbk : -100 ≤ bk ∧ bk ≤ 19899) (hkk : -1000 ≤ kk ∧ kk ≤ 1000) (htt : -1000 ≤ tt ∧ tt ≤ 1000) (huu : -1000 ≤ uu ∧ uu ≤ 1000) (hii : -1000 ≤ ii ∧ ii ≤ 1000) (hM : M = ((((bk * 20 + kk) * 20 + tt) * 18 + uu) * 20) + ii) (hk0 : 0 ≤ k) (hk7 : k < 7) {jd : UInt64} {c : Int} (hj : IsQ jd c) (hc : c = 2337130 + 4 * (M + k)) {y mo d first name hm' hday : Int} (hfirst : first = wfirst (M + k)) (hnm : name = wname (M + k)) (hhm : hm' = wday (M + k) / 20) (hhd : hday = wday (M + k) % 20) (hv : Valid y mo d) (hdn : dn y mo d = M + k - 1137142) {b k' t' u' i : Int} (hpl : Places (M + k) b k' t' u' i) (hge : 0 ≤ M + k) {t2 t3 t4 t5 t6 t7 tj p1 p2 p3 p4 p5 q1 q2 q3 q4 q5 : Tok} {cp : Nat}  {Dt : Addr} {d0 : Addr} {o0 : Obj} {d1 : Addr} {o1 : Obj} {d2 : Addr} {o2 : Obj} {d3 : Addr} {o3 : Obj} {d4 : Addr} {o4 : Obj} {d5 : Addr} {o5 : Obj} {d6 : Addr} {o6 : Obj} {E : Value → Shared → Prop} {s : Shared} {Q : Flow → Shared → Prop} {m : Str → Option Value}
    (F : Fr h₀ L s.heap m) (N : News h₀ L s.heap [(Dt, ({ cls := .type "tuple", data := .seq #[.int b p1, .int k' p2, .int t' p3, .int u' p4, .int i p5] cp } : Obj)), (d0, o0), (d1, o1), (d2, o2), (d3, o3), (d4, o4), (d5, o5), (d6, o6)])
    (hm : ∀ p ∈ ([(Str.ofString "number", .int M t2), (Str.ofString "step", .int k t7), (Str.ofString "jd", .float jd tj), (Str.ofString "told", .ref Dt), (Str.ofString "a", .int b q1), (Str.ofString "b", .int k' q2), (Str.ofString "c", .int t' q3), (Str.ofString "d", .int u' q4), (Str.ofString "e", .int i q5), (Str.ofString "first", .int first t3), (Str.ofString "name", .int name t4), (Str.ofString "hday", .int hday t5), (Str.ofString "hmonth", .int hm' t6)] : List (Str × Value)), m p.1 = some p.2)
    (ret : ∀ h' tk', Fr h₀ L h' m → News h₀ L h' [(Dt, ({ cls := .type "tuple", data := .seq #[.int b p1, .int k' p2, .int t' p3, .int u' p4, .int i p5] cp } : Obj)), (d0, o0), (d1, o1), (d2, o2), (d3, o3), (d4, o4), (d5, o5), (d6, o6)] → Q .next { s with heap := h', toks := tk' }) :
    wpAny (model PP w) (lawA L fa ccd) (exec st202 (lawEnv L fa ccd)) Q E s := by
  have F0 := fr_in hm F
  have hb : st202 = st202 := rfl
  conv at hb => rhs; whnf
  have hs : lawScope = lawScope := rfl
  conv at hs => rhs; whnf
  dsimp only at hb hs
  rw [hb, lawA, lawEnv, hs]
  clear hb hs F
  have hMb : -28000000 ≤ M + k ∧ M + k ≤ 2875000000 := by omega
  have hplb : -200 ≤ b ∧ b ≤ 20000 := by have := hpl; unfold Places at this; omega
  have hplr : 0 ≤ k' ∧ k' < 20 ∧ 0 ≤ t' ∧ t' < 20 ∧ 0 ≤ u' ∧ u' < 18 ∧ 0 ≤ i ∧ i < 20 := by have := hpl; unfold Places at this; omega
  have hM2 : M + k = (((b * 20 + k') * 20 + t') * 18 + u') * 20 + i := by have := hpl; unfold Places at this; omega
  have w1 := wname_b (M + k)
  have w2 := wday_b (M + k)
  have w3 := wfirst_b (M + k)
  rw [← hnm] at w1
  rw [← hhm, ← hhd] at w2
  rw [← hfirst] at w3
  w_strict (
    k_steps)
  all_goals (rename News h₀ _ _ _ => hN9; exact ret _ _ (fr_back hm (by assumption)) (fun p hp => hN9 p (by (repeat (first | exact hp | refine List.Mem.tail _ ?_)))))
end
section
local macro_rules | `(tactic| walk_at "call ref") => `(tactic| (k_here; (with_reducible show wpAny _ _ (call (Value.ref 186) _) _ _ _); k_dflt (refine' cmut_use (k_turn (by assumption) (by assumption) (by omega)) ?k1 ?k2 ?k3 ?k4 ?k5 ?kK ?kd ?ku ?_; (case k4 => exact news_three (by assumption) (by k_mem) (by k_mem) (by k_mem)); (case k1 => k_asm); (case k2 => k_asm); (case k3 => k_asm); (case k5 => k_asm); (case kK => first | exact rfl | assumption); (case kd => ktr_room); (case ku => ktr_units)); intro v9 n9 h9 tk9 hv9 F9 N9; (k_dflt (obtain ⟨b9, k9, t9, u9, i9, tb9, tk9, tt9, tu9, ti9, c9, e9, P9, b9l, b9h⟩ := hv9; subst e9)); (try k_sweep); (try dsimp only); (try k_fold)))
local macro_rules | `(tactic| walk_at "call ref") => `(tactic| (k_here; (with_reducible show wpAny _ _ (call (Value.ref 193) _) _ _ _); k_dflt (refine' cobj_use (k_told (by assumption) (by assumption) (by omega) (by omega)) ?k1 ?k2 ?k3 ?k4 ?k5 ?kK ?kd ?ku ?kp ?_; (case k1 => k_asm); (case k2 => k_asm); (case k3 => k_asm); (case k4 => k_asm); (case k5 => k_asm); (case kK => first | exact rfl | assumption); (case kd => ktr_room); (case ku => ktr_units); (case kp => trivial)); intro D9 o9 h9 tk9 hv9 F9 N9 l9; (k_dflt (obtain ⟨tb9, tk9, tt9, tu9, ti9, c9, e9⟩ := hv9; subst e9)); (try k_sweep); (try dsimp only); (try k_fold)))
local macro_rules | `(tactic| walk_at "call ref") => `(tactic| (k_here; (with_reducible show wpAny _ _ (call (Value.ref 160) _) _ _ _); k_dflt (refine' cobj_use (c_tomorrow _ _ _ _ _ _ _ _ (by assumption)) ?k1 ?k2 ?k3 ?k4 ?k5 ?kK ?kd ?ku ?kp ?_; (case k1 => k_asm); (case k2 => k_asm); (case k3 => k_asm); (case k4 => k_asm); (case k5 => k_asm); (case kK => first | exact rfl | assumption); (case kd => ktr_room); (case ku => ktr_units); (case kp => k_mem)); intro D9 o9 h9 tk9 hv9 F9 N9 l9; (k_dflt (obtain ⟨y9, m9, d9, ⟨ty9, tm9, td9, c9, e9⟩, hv9, hd9⟩ := hv9; subst e9)); (try k_sweep); (try dsimp only); (try k_fold)))
local macro_rules | `(tactic| walk_at "call ref") => `(tactic| (k_here; (with_reducible show wpAny _ _ (call (Value.ref 193) _) _ _ _); k_dflt (refine' lval_use (k_told_no (by assumption) (by assumption) (by omega) (by omega)) ?k1 ?k2 ?k3 ?k4 ?k5 ?_; (case k1 => k_asm); (case k2 => k_asm); (case k3 => k_asm); (case k4 => k_asm); (case k5 => k_asm)); intro v9 h9 tk9 hv9 F9 N9; (k_dflt (obtain ⟨t9, e9⟩ := hv9; subst e9)); (try k_sweep); (try dsimp only); (try k_fold)))
local macro_rules | `(tactic| walk_at "call ref") => `(tactic| (k_here; (with_reducible show wpAny _ _ (call (Value.ref 200) _) _ _ _); k_dflt (refine' lval_use (k_sun_no (by assumption) (by assumption) (by omega)) ?k1 ?k2 ?k3 ?k4 ?k5 ?_; (case k1 => k_asm); (case k2 => k_asm); (case k3 => k_asm); (case k4 => k_asm); (case k5 => k_asm)); intro v9 h9 tk9 hv9 F9 N9; obtain ⟨t9, e9⟩ := hv9; subst e9; (try k_sweep); (try dsimp only); (try k_fold)))
local macro_rules | `(tactic| walk_at "binaryOp Mod int int") => `(tactic| (k_here; (refine' r_imod ?h1 ?_; (case h1 => decide)); intro z9 hz9))
local macro_rules | `(tactic| walk_at "exec If") => `(tactic| (k_here; (with_reducible show wpAny _ _ (exec (Stmt.If _ _ _ { line := 181, col := _, endLine := _, endCol := _ }) _) _ _ _); k_dflt (refine' s181 ?k1 ?k3 ?k5 ?a1 ?a2 ?a3 ?a4 ?a5 ?a6 ?a7 ?a8 ?b1 ?b2 ?kF ?kN ?km ?_; (case kF => k_asm); (case kN => k_asm); (case km => (repeat (first | exact List.forall_mem_nil _ | (refine' List.forall_mem_cons.mpr ⟨?_, ?_⟩; exact rfl)))); (case a6 => assumption); (case a1 => assumption); (case a2 => assumption); (case a3 => assumption); (case a4 => assumption); (case a5 => assumption); (case a7 => assumption); (case a8 => assumption); (case b1 => assumption); (case b2 => omega); (case k1 => k_asm); (case k3 => k_asm); (case k5 => k_asm)); intro h9 tk9 F9 N9; (try k_sweep); (try dsimp only); (try k_fold)))
local macro_rules | `(tactic| walk_at "exec If") => `(tactic| (k_here; (with_reducible show wpAny _ _ (exec (Stmt.If _ _ _ { line := 184, col := _, endLine := _, endCol := _ }) _) _ _ _); k_dflt (refine' s184 ?k1 ?k3 ?k5 ?kF ?kN ?km ?_; (case kF => k_asm); (case kN => k_asm); (case km => (repeat (first | exact List.forall_mem_nil _ | (refine' List.forall_mem_cons.mpr ⟨?_, ?_⟩; exact rfl)))); (case k1 => k_asm); (case k3 => k_asm); (case k5 => k_asm)); intro h9 tk9 F9 N9; (try k_sweep); (try dsimp only); (try k_fold)))
local macro_rules | `(tactic| walk_at "exec If") => `(tactic| (k_here; (with_reducible show wpAny _ _ (exec (Stmt.If _ _ _ { line := 188, col := _, endLine := _, endCol := _ }) _) _ _ _); k_dflt (refine' s188 ?k1 ?k3 ?k5 ?a1 ?a2 ?a3 ?a4 ?a5 ?a6 ?a7 ?a8 ?b1 ?b2 ?w1 ?w2 ?w3 ?w4 ?w5 ?w6 ?kF ?kN ?km ?_; (case kF => k_asm); (case kN => k_asm); (case km => (repeat (first | exact List.forall_mem_nil _ | (refine' List.forall_mem_cons.mpr ⟨?_, ?_⟩; exact rfl)))); (case w1 => assumption); (case w2 => assumption); (case w3 => assumption); (case w4 => assumption); (case w5 => assumption); (case w6 => assumption); (case a6 => assumption); (case a1 => assumption); (case a2 => assumption); (case a3 => assumption); (case a4 => assumption); (case a5 => assumption); (case a7 => assumption); (case a8 => assumption); (case b1 => assumption); (case b2 => omega); (case k1 => k_asm); (case k3 => k_asm); (case k5 => k_asm)); intro h9 tk9 F9 N9; (try k_sweep); (try dsimp only); (try k_fold)))
local macro_rules | `(tactic| walk_at "exec If") => `(tactic| (k_here; (with_reducible show wpAny _ _ (exec (Stmt.If _ _ _ { line := 200, col := _, endLine := _, endCol := _ }) _) _ _ _); k_dflt (refine' s200b ?k1 ?k3 ?k5 ?a1 ?a2 ?a3 ?a4 ?a5 ?a6 ?a7 ?a8 ?w1 ?w2 ?w3 ?w4 ?w5 ?w6 ?p1 ?g1 ?kF ?kN ?km ?_; (case kF => k_asm); (case kN => k_asm); (case km => (repeat (first | exact List.forall_mem_nil _ | (refine' List.forall_mem_cons.mpr ⟨?_, ?_⟩; exact rfl)))); (case w1 => assumption); (case w2 => assumption); (case w3 => assumption); (case w4 => assumption); (case w5 => assumption); (case w6 => assumption); (case p1 => assumption); (case a6 => assumption); (case a1 => assumption); (case a2 => assumption); (case a3 => assumption); (case a4 => assumption); (case a5 => assumption); (case a7 => assumption); (case a8 => assumption); (case g1 => omega); (case k1 => k_asm); (case k3 => k_asm); (case k5 => k_asm)); intro h9 tk9 F9 N9; (try k_sweep); (try dsimp only); (try k_fold)))
local macro_rules | `(tactic| walk_at "exec If") => `(tactic| (k_here; (with_reducible show wpAny _ _ (exec (Stmt.If _ _ _ { line := 200, col := _, endLine := _, endCol := _ }) _) _ _ _); k_dflt (refine' s200a ?k1 ?k3 ?k5 ?a1 ?a2 ?a3 ?a4 ?a5 ?a6 ?a7 ?a8 ?w1 ?w2 ?w3 ?w4 ?w5 ?w6 ?p1 ?g1 ?kF ?kN ?km ?_; (case kF => k_asm); (case kN => k_asm); (case km => (repeat (first | exact List.forall_mem_nil _ | (refine' List.forall_mem_cons.mpr ⟨?_, ?_⟩; exact rfl)))); (case w1 => assumption); (case w2 => assumption); (case w3 => assumption); (case w4 => assumption); (case w5 => assumption); (case w6 => assumption); (case p1 => assumption); (case a6 => assumption); (case a1 => assumption); (case a2 => assumption); (case a3 => assumption); (case a4 => assumption); (case a5 => assumption); (case a7 => assumption); (case a8 => assumption); (case g1 => omega); (case k1 => k_asm); (case k3 => k_asm); (case k5 => k_asm)); intro h9 tk9 F9 N9; (try k_sweep); (try dsimp only); (try k_fold)))
local macro_rules | `(tactic| walk_at "exec If") => `(tactic| (k_here; (with_reducible show wpAny _ _ (exec (Stmt.If _ _ _ { line := 202, col := _, endLine := _, endCol := _ }) _) _ _ _); k_dflt (refine' s202b ?k1 ?k3 ?k5 ?a1 ?a2 ?a3 ?a4 ?a5 ?a6 ?a7 ?a8 ?g1 ?kF ?kN ?km ?_; (case kF => k_asm); (case kN => k_asm); (case km => (repeat (first | exact List.forall_mem_nil _ | (refine' List.forall_mem_cons.mpr ⟨?_, ?_⟩; exact rfl)))); (case a6 => assumption); (case a1 => assumption); (case a2 => assumption); (case a3 => assumption); (case a4 => assumption); (case a5 => assumption); (case a7 => assumption); (case a8 => assumption); (case g1 => omega); (case k1 => k_asm); (case k3 => k_asm); (case k5 => k_asm)); intro h9 tk9 F9 N9; (try k_sweep); (try dsimp only); (try k_fold)))
local macro_rules | `(tactic| walk_at "exec If") => `(tactic| (k_here; (with_reducible show wpAny _ _ (exec (Stmt.If _ _ _ { line := 202, col := _, endLine := _, endCol := _ }) _) _ _ _); k_dflt (refine' s202a ?k1 ?k3 ?k5 ?a1 ?a2 ?a3 ?a4 ?a5 ?a6 ?a7 ?a8 ?b1 ?b2 ?w1 ?w2 ?w3 ?w4 ?w5 ?w6 ?p1 ?g1 ?kF ?kN ?km ?_; (case kF => k_asm); (case kN => k_asm); (case km => (repeat (first | exact List.forall_mem_nil _ | (refine' List.forall_mem_cons.mpr ⟨?_, ?_⟩; exact rfl)))); (case w1 => assumption); (case w2 => assumption); (case w3 => assumption); (case w4 => assumption); (case w5 => assumption); (case w6 => assumption); (case p1 => assumption); (case a6 => assumption); (case a1 => assumption); (case a2 => assumption); (case a3 => assumption); (case a4 => assumption); (case a5 => assumption); (case a7 => assumption); (case a8 => assumption); (case b1 => assumption); (case b2 => omega); (case g1 => omega); (case k1 => k_asm); (case k3 => k_asm); (case k5 => k_asm)); intro h9 tk9 F9 N9; (try k_sweep); (try dsimp only); (try k_fold)))
local macro_rules | `(tactic| walk_at "call ref") => `(tactic| (k_here; (with_reducible show wpAny _ _ (call (Value.ref 101) _) _ _ _); k_dflt (refine' cobj_use (k_greg (by assumption) (by assumption) (by refine ⟨?_, ?_, ?_, ?_, ?_⟩ <;> omega) (by unfold ofPlaces; omega) (by omega)) ?k1 ?k2 ?k3 ?k4 ?k5 ?kK ?kd ?ku ?kp ?_; (case k1 => k_asm); (case k2 => k_asm); (case k3 => k_asm); (case k4 => k_asm); (case k5 => k_asm); (case kK => first | exact rfl | assumption); (case kd => ktr_room); (case ku => ktr_units); (case kp => trivial)); intro D9 o9 h9 tk9 hv9 F9 N9 l9; (k_dflt (obtain ⟨ty9, tm9, td9, c9, e9⟩ := hv9; subst e9)); (try k_sweep); (try dsimp only); (try k_fold)))
local macro_rules | `(tactic| walk_at "And") => `(tactic| ((with_reducible show (Flow.next = Flow.next ∧ _)); refine stop ?_))
set_option maxRecDepth 100000 in
set_option maxHeartbeats 8000000 in
theorem turn_ok {w : World} {mean : ExcName → Option Value} {mg mb : Str → Option Value} {h₀ : Heap} {L fa : Addr} {ccd : Value} (B : Below callerA h₀ [] h₀) (X : (hd.heap_39 w.params).In h₀) (T : Top hd.view_39 LS mean mg mb h₀)
    {M bk kk tt uu ii : Int} (hbk : -100 ≤ bk ∧ bk ≤ 19899) (hkk : -1000 ≤ kk ∧ kk ≤ 1000) (htt : -1000 ≤ tt ∧ tt ≤ 1000) (huu : -1000 ≤ uu ∧ uu ≤ 1000) (hii : -1000 ≤ ii ∧ ii ≤ 1000) (hM : M = ((((bk * 20 + kk) * 20 + tt) * 18 + uu) * 20) + ii)
    (m₀ u : Str → Option Value) (E : Value → Shared → Prop) (s : Shared) (c : List (Str × Value) × List (Addr × Obj)) (k : Int) (t : Tok) (I : Addr) (o : Obj) (hk0 : 0 ≤ k) (hk7 : k < 7) (hI : ∀ p ∈ c.2, @Ne Nat p.1 I) (hP : LawP M bk kk tt uu ii k c)
    (F : Fr h₀ L s.heap (fun y => if y = Str.ofString "step" then some (.int k t) else kstB (fun z => if lawStored.contains z then u z else m₀ z) c.1 y)) (N : News h₀ L s.heap (c.2 ++ [(I, o)])) :
    wpAny (model PP w) (lawA L fa ccd) (execs turnBody (lawEnv L fa ccd))
      (fun f s₂ => f = .next ∧ ∃ h' tk' m' c', s₂ = { s with heap := h', toks := tk' } ∧ Fr h₀ L h' m' ∧ News h₀ L h' (c'.2 ++ [(I, o)]) ∧ (∀ p ∈ c'.2, @Ne Nat p.1 I) ∧ (∀ p ∈ c'.1, m' p.1 = some p.2) ∧ (∀ z, z ≠ Str.ofString "step" → (∀ p ∈ c'.1, z ≠ p.1) → lawStored.contains z = false → m' z = m₀ z) ∧ LawP M bk kk tt uu ii (k + 1) c') E s := by
  have hb : turnBody = turnBody := rfl
  conv at hb => rhs; whnf
  have hs : lawScope = lawScope := rfl
  conv at hs => rhs; whnf
  dsimp only at hb hs
  rw [hb, lawA, lawEnv, hs]
  clear hb hs
  obtain ⟨c1, c2⟩ := c
  obtain ⟨Dp, Dc, n, first, name, hm', hday, b, k', t', u', i, y, mo, d, t1, t2, t3, t4, t5, t6, t7, t8, t9, t10, p1, p2, p3, p4, p5, q1, q2, q3, cp, cq, e1, e2, hDD, hn, hfirst, hnm, hhm, hhd, hpl, hv, hdn⟩ := hP
  dsimp only at e1 e2
  subst e1 e2 hn
  dsimp only [List.cons_append, List.nil_append] at F N hI
  have hIp : @Ne Nat Dp I := hI _ (.head _)
  have hIc : @Ne Nat Dc I := hI _ (.tail _ (.head _))
  have hmk : TurnMark Dp Dc I := ⟨hDD, hIp⟩
  clear hI
  have w1 := wname_b (M + k)
  have w2 := wday_b (M + k)
  have w3 := wfirst_b (M + k)
  rw [← hnm] at w1
  rw [← hhm, ← hhd] at w2
  rw [← hfirst] at w3
  have hMb : -28000000 ≤ M + k ∧ M + k ≤ 2875000000 := by omega
  have hplb : -200 ≤ b ∧ b ≤ 20000 := by have := hpl; unfold Places at this; omega
  w_strict (
    k_steps)
  all_goals
    refine Stop.out ?_
    rename News h₀ L _ (_ :: _) => hN9
    rename Fr h₀ L _ _ => hF9
    rename AllLt _ _ => hl9
    rename Places _ _ _ _ _ _ => hP9
    rename Valid _ _ _ => hV9
    rename dn _ _ _ = dn _ _ _ + 1 => hD9
    refine ⟨rfl, ?_⟩
    refine' turn_end hF9 hN9 (.tail _ (.head _)) (.head _) (.tail _ (.tail _ (.tail _ (.head _)))) (Nat.ne_of_lt hl9.1) hIp (Nat.ne_of_lt hl9.2.2.1).symm ?hm ?hr ?e1 ?e2 ?e3 ?e4 hP9 hV9 ?e7
    case hm => (repeat (first | exact List.forall_mem_nil _ | (refine' List.forall_mem_cons.mpr ⟨?_, ?_⟩; exact rfl)))
    case hr =>
      intro z h1 h2 h3 h4
      (repeat (refine (if_neg ?_).trans ?_; first | exact h1 | exact h2 _ (by k_mem) | exact h3 _ (by k_mem)))
      refine (kst_none ?_).trans ?_
      · (repeat (first | exact List.forall_mem_nil _ | refine List.forall_mem_cons.mpr ⟨h2 _ (by k_mem), ?_⟩))
      · show (if lawStored.contains z = true then _ else _) = _
        rw [h4]; rfl
    case e1 => have h := wheel1 hfirst; rw [Int.add_assoc M k 1] at h; omega
    case e2 => have h := wheel2 hnm; rw [Int.add_assoc M k 1] at h; omega
    case e3 => first | (have h := wheel3 hhm hhd (by omega) (by omega); rw [Int.add_assoc M k 1] at h; omega) | (have h := wheel4 hhm hhd (by omega); rw [Int.add_assoc M k 1] at h; omega)
    case e4 => first | (have h := wheel3 hhm hhd (by omega) (by omega); rw [Int.add_assoc M k 1] at h; omega) | (have h := wheel4 hhm hhd (by omega); rw [Int.add_assoc M k 1] at h; omega)
    case e7 => omega
end
section
abbrev numOf (bk kk tt uu ii : Int) : Int := (((bk * 20 + kk) * 20 + tt) * 18 + uu) * 20 + ii
theorem loop_ok {w : World} {mean : ExcName → Option Value} {mg mb : Str → Option Value} {h₀ : Heap} {L fa : Addr} {ccd : Value} (B : Below callerA h₀ [] h₀) (X : (hd.heap_39 w.params).In h₀) (T : Top hd.view_39 LS mean mg mb h₀)
    {bk kk tt uu ii first name hm hday b k' t' u' i y mo d : Int} {t1 t2 t3 t4 t5 t6 t7 t8 t9 t10 p1 p2 p3 p4 p5 q1 q2 q3 t₀ u₀ v₀ : Tok} {cp cq : Nat} {Dp Dc r : Addr} {s : Shared} {m₀ : Str → Option Value} {news : List (Addr × Obj)} {Q : Flow → Shared → Prop} {E : Value → Shared → Prop}
    (hr : IsRange s.heap r 0 7 1 t₀ u₀ v₀) (F : Fr h₀ L s.heap m₀) (N : News h₀ L s.heap news)
    (hm' : ∀ p ∈ lawNames (numOf bk kk tt uu ii) bk kk tt uu ii first name hm hday t1 t2 t3 t4 t5 t6 t7 t8 t9 t10 Dp Dc, m₀ p.1 = some p.2)
    (hp : (Dp, ({ cls := .type "list", data := .seq #[.int b p1, .int k' p2, .int t' p3, .int u' p4, .int i p5] cp } : Obj)) ∈ news) (hc : (Dc, ({ cls := .type "tuple", data := .seq #[.int y q1, .int mo q2, .int d q3] cq } : Obj)) ∈ news) (hne : @Ne Nat Dp Dc)
    (hls : first = wfirst (numOf bk kk tt uu ii) ∧ name = wname (numOf bk kk tt uu ii) ∧ hm = wday (numOf bk kk tt uu ii) / 20 ∧ hday = wday (numOf bk kk tt uu ii) % 20 ∧ Places (numOf bk kk tt uu ii) b k' t' u' i)
    (hv : Valid y mo d) (hdn : dn y mo d = numOf bk kk tt uu ii - 1137142)
    (hkk : -1000 ≤ kk ∧ kk ≤ 1000) (htt : -1000 ≤ tt ∧ tt ≤ 1000) (huu : -1000 ≤ uu ∧ uu ≤ 1000) (hii : -1000 ≤ ii ∧ ii ≤ 1000) (hbk : -100 ≤ bk ∧ bk ≤ 19899)
    (done : ∀ (m₁ : Str → Option Value) h tk news', Fr h₀ L h m₁ → News h₀ L h news' → Q .next { s with heap := h, toks := tk }) :
    wpAny (model PP w) (lawA L fa ccd) (pyIter (.ref r)) (fun it s₂ => LoopAtV PP w (lawA L fa ccd) h₀ (lawEnv L fa ccd) (Str.ofString "step") turnBody Q E it s₂) E s := by
  obtain ⟨e1, e2, e3, e4, e5⟩ := hls
  refine range_mv2 (n := 7) lawStored (LawP (numOf bk kk tt uu ii) bk kk tt uu ii) (lawNames (numOf bk kk tt uu ii) bk kk tt uu ii first name hm hday t1 t2 t3 t4 t5 t6 t7 t8 t9 t10 Dp Dc, [(Dp, { cls := .type "list", data := .seq #[.int b p1, .int k' p2, .int t' p3, .int u' p4, .int i p5] cp }), (Dc, { cls := .type "tuple", data := .seq #[.int y q1, .int mo q2, .int d q3] cq })]) rfl hr rfl rfl F N ?_ hm' ?_ ?_ ?_
  · intro p h
    rcases List.mem_cons.mp h with rfl | h
    · exact hp
    · rw [List.mem_singleton.mp h]; exact hc
  · refine ⟨Dp, Dc, _, first, name, hm, hday, b, k', t', u', i, y, mo, d, t1, t2, t3, t4, t5, t6, t7, t8, t9, t10, p1, p2, p3, p4, p5, q1, q2, q3, cp, cq, rfl, rfl, hne, rfl, ?_, ?_, ?_, ?_, ?_, hv, ?_⟩
    · rw [Int.add_zero]; exact e1
    · rw [Int.add_zero]; exact e2
    · rw [Int.add_zero]; exact e3
    · rw [Int.add_zero]; exact e4
    · rw [Int.add_zero]; exact e5
    · rw [Int.add_zero]; exact hdn
  · intro m₀' u E' s' c k t I o hk0 hk7 hI hP F' N'
    exact turn_ok B X T hbk hkk htt huu hii rfl m₀' u E' s' c k t I o hk0 (by omega) hI hP F' N'
  · intro c m₁ h tk _ F' N'
    exact done m₁ h tk _ F' N'
theorem loop_ok' {body : List Stmt} {sc : Scope} {w : World} {mean : ExcName → Option Value} {mg mb : Str → Option Value} {h₀ : Heap} {L fa : Addr} {ccd : Value} (B : Below callerA h₀ [] h₀) (X : (hd.heap_39 w.params).In h₀) (T : Top hd.view_39 LS mean mg mb h₀)
    {bk kk tt uu ii first name hm hday b k' t' u' i y mo d : Int} {t1 t2 t3 t4 t5 t6 t7 t8 t9 t10 p1 p2 p3 p4 p5 q1 q2 q3 t₀ u₀ v₀ : Tok} {cp cq : Nat} {Dp Dc r : Addr} {s : Shared} {m₀ : Str → Option Value} {news : List (Addr × Obj)} {Q : Flow → Shared → Prop} {E : Value → Shared → Prop}
    (hr : IsRange s.heap r 0 7 1 t₀ u₀ v₀) (F : Fr h₀ L s.heap m₀) (N : News h₀ L s.heap news)
    (hm' : ∀ p ∈ lawNames (numOf bk kk tt uu ii) bk kk tt uu ii first name hm hday t1 t2 t3 t4 t5 t6 t7 t8 t9 t10 Dp Dc, m₀ p.1 = some p.2)
    (hp : (Dp, ({ cls := .type "list", data := .seq #[.int b p1, .int k' p2, .int t' p3, .int u' p4, .int i p5] cp } : Obj)) ∈ news) (hc : (Dc, ({ cls := .type "tuple", data := .seq #[.int y q1, .int mo q2, .int d q3] cq } : Obj)) ∈ news) (hne : @Ne Nat Dp Dc)
    (hls : first = wfirst (numOf bk kk tt uu ii) ∧ name = wname (numOf bk kk tt uu ii) ∧ hm = wday (numOf bk kk tt uu ii) / 20 ∧ hday = wday (numOf bk kk tt uu ii) % 20 ∧ Places (numOf bk kk tt uu ii) b k' t' u' i)
    (hv : Valid y mo d) (hdn : dn y mo d = numOf bk kk tt uu ii - 1137142)
    (hkk : -1000 ≤ kk ∧ kk ≤ 1000) (htt : -1000 ≤ tt ∧ tt ≤ 1000) (huu : -1000 ≤ uu ∧ uu ≤ 1000) (hii : -1000 ≤ ii ∧ ii ≤ 1000) (hbk : -100 ≤ bk ∧ bk ≤ 19899) (hb : turnBody = body) (hs : lawScope = sc)
    (done : ∀ (m₁ : Str → Option Value) h tk news', Fr h₀ L h m₁ → News h₀ L h news' → Q .next { s with heap := h, toks := tk }) :
    wpAny (model PP w) (callerA.deeper (envOf (Str.ofString "law") sc L fa ccd)) (pyIter (.ref r)) (fun it s₂ => LoopAtV PP w (callerA.deeper (envOf (Str.ofString "law") sc L fa ccd)) h₀ (envOf (Str.ofString "law") sc L fa ccd) (Str.ofString "step") body Q E it s₂) E s := by
  subst hb hs
  exact loop_ok B X T hr F N hm' hp hc hne hls hv hdn hkk htt huu hii hbk done
end
section
local macro_rules | `(tactic| walk_at "assign Tuple cons ref") => `(tactic| (k_here; (rename IntsAre _ (List.map _ _) => hI9); (obtain ⟨k9, t9, u9, i9, tk9, tt9, tu9, ti9, e9, b9⟩ := four_of hI9); subst e9; clear hI9; obtain ⟨b1, b2, b3, b4⟩ := b9))
local macro_rules | `(tactic| walk_at "binaryOp Mod int int") => `(tactic| (k_here; (fail_if_success (rename LCg.NsObj _ _ => hN9)); (refine' r_imod ?h1 ?_; (case h1 => decide)); intro z9 hz9))
local macro_rules | `(tactic| walk_at "binaryOp FloorDiv int int") => `(tactic| (k_here; (refine' r_idiv ?h1 ?h1' ?h2 ?_; (case h1 => decide); (case h1' => decide); (case h2 => omega)); intro z9 hz9))
local macro_rules | `(tactic| walk_at "call ref") => `(tactic| (k_here; (with_reducible show wpAny _ _ (call (Value.ref 167) _) _ _ _); k_dflt (refine' cobjAt_use (c_sun _ _ _ _) ?k1 ?k2 ?k3 ?k4 ?k5 ?kK ?kd ?ku ?_; (case k1 => k_asm); (case k2 => k_asm); (case k3 => k_asm); (case k4 => exact news_one (by assumption) (.tail _ (.head _))); (case k5 => k_asm); (case kK => exact rfl); (case kd => ktr_room); (case ku => ktr_units)); intro D9 o9 h9 tk9 hv9 F9 N9 l9; (k_dflt (obtain ⟨y9, m9, d9, ⟨ty9, tm9, td9, c9, e9⟩, hv9, hd9⟩ := hv9)); subst e9; (try k_sweep); (try dsimp only); (try k_fold)))
local macro_rules | `(tactic| walk_at "pyIter ref") => `(tactic| (k_here; (with_reducible show wpAny _ _ (pyIter _) (fun _ _ => LoopAtV _ _ _ _ _ _ _ _ _ _ _) _ _); k_dflt (refine' loop_ok' ?k1 ?k3 ?k5 ?hr ?kF ?kN ?km ?hp ?hc ?hne ?ls ?hv ?hdn ?b1 ?b2 ?b3 ?b4 ?b5 ?hb ?hs ?_; (case hr => assumption); (case kF => assumption); (case kN => assumption); (case km => (repeat (first | exact List.forall_mem_nil _ | (refine' List.forall_mem_cons.mpr ⟨?_, ?_⟩; exact rfl)))); (case hp => k_mem); (case hc => k_mem); (case hne => (rename AllLt _ _ => hl9; exact Nat.ne_of_lt hl9.1)); (case ls => exact law_start (by assumption) (by assumption) (by assumption) (by assumption) (by assumption) (by assumption) (by assumption) (by assumption) (by assumption) (by assumption) (by assumption) (by assumption) (by assumption)); (case hv => assumption); (case hdn => assumption); (case b1 => omega); (case b2 => omega); (case b3 => omega); (case b4 => omega); (case b5 => omega); (case hb => (have q9 : turnBody = turnBody := rfl; (conv at q9 => (rhs; whnf)); (try dsimp only at q9); exact q9)); (case hs => (have q9 : lawScope = lawScope := rfl; (conv at q9 => (rhs; whnf)); (try dsimp only at q9); exact q9)); (case k1 => k_asm); (case k3 => k_asm); (case k5 => k_asm)); intro m9 h9 tk9 news9 F9 N9; (try k_sweep); (try dsimp only); (try k_fold)))
local macro_rules | `(tactic| w_fin) => `(tactic| first | (with_reducible exact beq_self_eq_true _) | k_dflt (exact rfl))
set_option maxRecDepth 100000 in
set_option maxHeartbeats 8000000 in
theorem law_holds : PySem.Challenge.rw_ad5019_01.Holds := by
  refine Mine.hd ?_
  w_strict (
    k_go0
    (all_goals try k_fold)
    (all_goals try rw [show PySem.Challenge.rw_ad5019_01.row.prog = PP from rfl])
    k_steps)
end
end Mine
theorem PySem.Challenge.cw_ad5019_01_holds : PySem.Challenge.rw_ad5019_01.Holds := by
  exact Mine.law_holds
