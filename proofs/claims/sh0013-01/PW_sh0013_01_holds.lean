import PyProof.Rows.All
import Wide.All
import OpenK.AllK
import Wide.FinOn
import Lean
import PySem.Challenge.RW_sh0013_01
set_option Elab.async false
section
namespace Mine
theorem ar318 {a : Nat} {b : Nat} {c : Nat} (h0 : Min.min b c - Min.min a c = c) (h1 : ¬c = 0) : a = 0 :=
  Nat.eq_zero_of_not_pos fun h => Nat.lt_irrefl c (Nat.lt_of_le_of_lt (Nat.le_trans (Nat.le_of_eq h0.symm) (Nat.sub_le_sub_right (Nat.min_le_right b c) _)) (Nat.sub_lt (Nat.pos_of_ne_zero h1) (Nat.lt_min.mpr ⟨h, Nat.pos_of_ne_zero h1⟩)))
theorem ar122 {a : Nat} {b : Nat} {c : Nat} {d : Nat} {e : Nat} (h0 : ¬c < b) (h1 : a < b) (h2 : a + e ≤ b) : a ≥ b ∧ a - b < c - b ∧ c - b < a - b + d ↔ a < c ∧ c < a + e :=
  ⟨fun h => absurd h.1 (Nat.not_le.mpr h1), fun h => absurd (Nat.lt_of_lt_of_le h.2 h2) h0⟩
theorem ar121 {a : Nat} {b : Nat} {c : Nat} {d : Nat} {e : Nat} (h0 : b < e) (h1 : ¬a < e) : a < b ∧ b < a + c ↔ a < b ∧ b < a + d :=
  ⟨fun h => absurd (Nat.lt_trans h.1 h0) h1, fun h => absurd (Nat.lt_trans h.1 h0) h1⟩
theorem ar85 {a : Nat} {b : Nat} {c : Nat} (h0 : ¬(a < b ∧ b < c)) (hz : a < b) : c ≤ b := Nat.not_lt.mp fun h => h0 ⟨hz, h⟩
theorem ar431 {a : Nat} {b : Nat} {c : Nat} (h0 : b ≤ 9) (h1 : c + a ≤ b) (h2 : 0 < a) : 0 < a ∧ a ≤ 9 := ⟨h2, Nat.le_trans (Nat.le_trans (Nat.le_add_left _ _) h1) h0⟩
theorem ar264 {a : Nat} {b : Nat} (h0 : a + 1 < b) : a < b ∧ 1 ≤ 2 ∧ a + 2 ≤ b := ⟨Nat.lt_of_succ_lt h0, by decide, h0⟩
theorem ar163 {a : Nat} {b : Nat} {c : Nat} {d : Nat} (h0 : a < d) (h1 : d ≤ b ∧ b < c) : a ≤ b ∧ b < c := ⟨Nat.le_of_lt (Nat.lt_of_lt_of_le h0 h1.1), h1.2⟩
theorem ar338 {a : Nat} {b : Nat} {c : Nat} {d : Nat} (h0 : c * d = b) (h1 : a ≤ c) (h2 : c ≤ c * d) : a ≤ b := h0 ▸ Nat.le_trans h1 h2
theorem ar488 {a : Nat} {b : Nat} {c : Nat} {d : Nat} (h0 : c = 0 + a) (h1 : b = c + 1 + d) : a ≤ b + 1 := by
  subst h0 h1; exact Nat.le_succ_of_le (Nat.le_trans (Nat.le_succ_of_le (Nat.le_add_left _ _)) (Nat.le_add_right _ _))
theorem ar256 {a : Nat} {b : Nat} {c : Nat} {d : Nat} (h0 : c + 2 * (d + 1) ≤ b) (h1 : a ≤ c + 1) : a ≤ b := Nat.le_trans (Nat.le_trans h1 (Nat.add_le_add_left (Nat.succ_pos _) c)) h0
theorem ar419 {a : Nat} {b : Nat} {c : Nat} (h0 : b ≤ 2) (h1 : b = a + (c + 1)) : a < 2 := Nat.lt_of_lt_of_le (Nat.lt_add_of_pos_right (Nat.succ_pos c)) (h1 ▸ h0)
theorem ar159 {a : Nat} {b : Nat} {c : Nat} {d : Nat} (h0 : c ≤ d) (h1 : a < c ∧ b = d) : a < b := h1.2 ▸ Nat.lt_of_lt_of_le h1.1 h0
theorem ar88 {a : Nat} {b : Nat} {c : Nat} (h0 : ¬c < a) (h1 : c < b) : a ≤ b := Nat.le_trans (Nat.not_lt.mp h0) (Nat.le_of_lt h1)
theorem ar132 {a : Nat} {b : Nat} {c : Nat} (h0 : a = b + 2 + c) (h1 : a < 2) : False := Nat.not_lt.mpr (Nat.le_trans (Nat.le_add_left 2 b) (Nat.le_add_right _ c)) (h0 ▸ h1)
theorem ar11 {a : Nat} {b : Nat} {c : Nat} (h0 : a < b ∧ b < a + c) (h1 : a + c ≤ b) : False := Nat.not_lt.mpr h1 h0.2
theorem ar30 {a : Nat} {b : Nat} (h0 : a < 2 ^ b) : a + 2 ^ b < 2 ^ b * 2 := Nat.mul_two (2 ^ b) ▸ Nat.add_lt_add_right h0 _
theorem ar219 {a : Nat} {b : Nat} (h0 : a - b < 1) : a < b ∨ a - b = 0 := .inr (Nat.lt_one_iff.mp h0)
theorem ar131 {a : Nat} {b : Nat} {c : Nat} {d : Nat} (h0 : a = b) (h1 : c = b) (h2 : a + d ≤ c) (h3 : d = 2) : False := by
  subst h0 h1 h3; exact Nat.not_lt.mpr h2 (Nat.lt_add_of_pos_right (by decide))
theorem ar484 {a : Nat} {b : Nat} {c : Nat} (h0 : b = 0 + c) (h1 : 0 ≤ a ∧ a < 0 + c) : a < b := h0 ▸ h1.2
theorem ar65 {a : Nat} {b : Nat} {c : Nat} {d : Nat} {e : Nat} {f : Nat} (h0 : d ≤ 7) (h1 : a ≤ 2 + 4 * e) (h2 : e ≤ 14) (h3 : f + 2 ≤ d) (h4 : c ≤ 2 + 4 * f) (h5 : b ≤ 2) : a + b + c ≤ 150 :=
  Nat.le_trans (Nat.add_le_add (Nat.add_le_add (Nat.le_trans h1 (Nat.add_le_add_left (Nat.mul_le_mul_left 4 h2) 2)) h5) (Nat.le_trans h4 (Nat.add_le_add_left (Nat.mul_le_mul_left 4 (Nat.le_of_succ_le_succ (Nat.le_trans (Nat.le_of_succ_le h3) (Nat.le_succ_of_le h0)))) 2))) (Nat.le_of_ble_eq_true rfl)
theorem ar63 {a : Nat} {b : Nat} {c : Nat} {d : Nat} (h0 : b ≤ 7) (h1 : a ≤ 2 + 4 * c) (h2 : c + 1 ≤ b ∧ d + 1 ≤ b) : a ≤ 150 :=
  Nat.le_trans h1 (Nat.le_trans (Nat.add_le_add_left (Nat.mul_le_mul_left 4 (Nat.le_trans (Nat.le_of_lt h2.1) h0)) 2) (Nat.le_of_ble_eq_true rfl))
theorem ar64 {a : Nat} {b : Nat} {c : Nat} {d : Nat} (h0 : b ≤ 7) (h1 : a ≤ 2 + c) (h2 : c + 1 ≤ b ∧ d + 1 ≤ b) : a ≤ 20 :=
  Nat.le_trans h1 (Nat.le_trans (Nat.add_le_add_left (Nat.le_trans (Nat.le_of_lt h2.1) h0) 2) (Nat.le_of_ble_eq_true rfl))
theorem ar66 {a : Nat} {b : Nat} (h0 : a ≤ 2 + b) (h1 : b ≤ 14) : a ≤ 20 := Nat.le_trans h0 (Nat.le_trans (Nat.add_le_add_left h1 2) (Nat.le_of_ble_eq_true rfl))
theorem ar67 {a : Nat} {b : Nat} {c : Nat} (h0 : b ≤ 7) (h1 : c + 2 ≤ b) (h2 : a ≤ 2 + c) : a ≤ 20 := Nat.le_trans h2 (Nat.le_trans (Nat.le_of_eq (Nat.add_comm 2 c)) (Nat.le_trans h1 (Nat.le_trans h0 (Nat.le_of_ble_eq_true rfl))))
theorem ar78 {a : Nat} {b : Nat} {c : Nat} (h0 : b ≤ 7) (h1 : a + 1 ≤ 7 ∧ c + 1 ≤ 7) : a + b ≤ 21 := Nat.le_trans (Nat.add_le_add (Nat.le_of_lt h1.1) h0) (Nat.le_of_ble_eq_true rfl)
theorem ar75 {a : Nat} {b : Nat} {c : Nat} {d : Nat} (h0 : c ≤ 7) (h1 : a + 1 ≤ c ∧ d + 1 ≤ c) (h2 : b ≤ c) : a + b ≤ 14 := Nat.add_le_add (Nat.le_trans (Nat.le_of_lt h1.1) h0) (Nat.le_trans h2 h0)
theorem ar70 {a : Nat} {b : Nat} {c : Nat} {d : Nat} (h0 : b ≤ 1) (h1 : d + 1 ≤ c ∧ a + 1 ≤ c) : a + b + 1 ≤ c + 1 := Nat.succ_le_succ (Nat.le_trans (Nat.add_le_add_left h0 a) h1.2)
theorem ar506 {a : Nat} {b : Nat} {c : Nat} {d : Nat} {e : Nat} {f : Nat} (h0 : c ≤ 300) (h1 : d ≤ c) (h2 : a ≤ c) (h3 : e ≤ d) (h4 : b ≤ f) (h5 : f < e) : a + b < 2 ^ 20 :=
  Nat.lt_of_le_of_lt (Nat.add_le_add (Nat.le_trans h2 h0) (Nat.le_trans h4 (Nat.le_trans (Nat.le_of_lt h5) (Nat.le_trans h3 (Nat.le_trans h1 h0))))) (Nat.le_of_ble_eq_true rfl)
theorem ar403 {a : Nat} {b : Nat} {c : Nat} {d : Nat} {e : Nat} (h0 : d ≤ 21) (h1 : e ≤ 4 * d) (h2 : b ≤ e) (h3 : a ≤ 2) (h4 : c ≤ 1) : a + (b + c) ≤ 100 :=
  Nat.le_trans (Nat.add_le_add h3 (Nat.add_le_add (Nat.le_trans h2 (Nat.le_trans h1 (Nat.mul_le_mul_left 4 h0))) h4)) (Nat.le_of_ble_eq_true rfl)
theorem ar422 {a : Nat} {b : Nat} {c : Nat} {d : Nat} (h0 : c < 2) (h1 : a ≤ 8 * c) (h2 : d ≤ 8) (h3 : b < d) : a + b < 100 :=
  Nat.lt_of_le_of_lt (Nat.add_le_add (Nat.le_trans h1 (Nat.mul_le_mul_left 8 (Nat.le_of_lt h0))) (Nat.le_trans (Nat.le_of_lt h3) h2)) (Nat.le_of_ble_eq_true rfl)
theorem ar329 {a : Nat} {b : Nat} {c : Nat} (h0 : a < b ^ c) (h1 : b ^ c ≤ 1000 ^ c) (h2 : 1000 ^ c ≤ 1000 ^ 9) : a ≤ 2 ^ 90 := Nat.le_trans (Nat.le_of_lt (Nat.lt_of_lt_of_le h0 (Nat.le_trans h1 h2))) (Nat.le_of_ble_eq_true rfl)
theorem ar344 {a : Nat} {b : Nat} {c : Nat} (h0 : a < 2 ^ c) (h1 : 2 ^ c ≤ 2 ^ 9) (h2 : 2 ^ b ≤ 2 ^ 9) : a + 2 ^ b < 2 ^ 12 := Nat.lt_of_lt_of_le (Nat.add_lt_add_of_lt_of_le (Nat.lt_of_lt_of_le h0 h1) h2) (Nat.le_of_ble_eq_true rfl)
theorem ar319 {a : Nat} {b : Nat} {c : Nat} (h0 : b ≤ 2 ^ 20) : Min.min a b ≤ 16777216 + c := Nat.le_trans (Nat.min_le_right _ _) (Nat.le_trans h0 (Nat.le_trans (Nat.le_of_ble_eq_true rfl : 2 ^ 20 ≤ 16777216) (Nat.le_add_right _ _)))
theorem ar269 {a : Nat} {b : Nat} {c : Nat} (h0 : a + 3 * (c + 1) + 300 < b) : a + 3 + 200 < b := Nat.lt_of_le_of_lt (Nat.add_le_add (Nat.add_le_add_left (Nat.le_add_left 3 (3 * c)) a) (by decide)) h0
theorem ar274 {a : Nat} {b : Nat} {c : Nat} (h0 : a + 3 * (b + 1) + 300 < c) : a + 3 * b + 300 < c := Nat.lt_of_le_of_lt (Nat.add_le_add_right (Nat.add_le_add_left (Nat.mul_le_mul_left 3 (Nat.le_succ b)) a) _) h0
theorem ar243 {a : Nat} {b : Nat} (h0 : a + 210 < b) : a + 1 + 0 + 3 + 200 < b := Nat.lt_of_le_of_lt (Nat.add_le_add_left (by decide : 204 ≤ 210) a) h0
theorem ar245 {a : Nat} {b : Nat} (h0 : a + 220 < b) : a + 210 < b := Nat.lt_of_le_of_lt (Nat.add_le_add_left (by decide) a) h0
theorem ar454 {a : Nat} {b : Nat} {c : Nat} {d : Nat} {e : Nat} {f : Nat} (h0 : b ≤ 300) (h1 : b = c + d + e) (h2 : a ≤ f) (h3 : f ≤ c) : a < 2 ^ 60 :=
  Nat.lt_of_le_of_lt (Nat.le_trans (Nat.le_trans h2 h3) (Nat.le_trans (Nat.le_trans (Nat.le_add_right _ _) (Nat.le_add_right _ _)) (h1 ▸ h0))) (Nat.le_of_ble_eq_true rfl : 300 < 2 ^ 60)
theorem ar455 {a : Nat} {b : Nat} {c : Nat} {d : Nat} {e : Nat} (h0 : b ≤ 300) (h1 : b = c + d + e) (h2 : a ≤ c) : a < 2 ^ 60 := ar454 h0 h1 (Nat.le_refl a) h2
theorem ar499 {a : Nat} {b : Nat} {c : Nat} {d : Nat} (h0 : b ≤ 300) (h1 : b = c + a + d) : a ≤ 2 ^ 20 := Nat.le_trans (Nat.le_trans (Nat.le_add_left _ _) (Nat.le_add_right _ _)) (Nat.le_trans (h1 ▸ h0) (Nat.le_of_ble_eq_true rfl : 300 ≤ 2 ^ 20))
theorem ar456 {a : Nat} {b : Nat} {c : Nat} {d : Nat} (h0 : b ≤ 300) (h1 : c ≤ b) (h2 : a ≤ d) (h3 : d < c) : a < 2 ^ 20 := Nat.lt_trans (Nat.lt_of_le_of_lt h2 (Nat.lt_of_lt_of_le h3 (Nat.le_trans h1 h0))) (Nat.le_of_ble_eq_true rfl)
theorem ar369 {a : Nat} {b : Nat} {c : Nat} (h0 : c < 7) (h1 : a ≤ 150) (h2 : b ≤ c) : a + b ≤ 2 ^ 20 := Nat.le_trans (Nat.add_le_add h1 (Nat.le_trans h2 (Nat.le_of_lt h0))) (Nat.le_of_ble_eq_true rfl)
theorem ar371 {a : Nat} {b : Nat} {c : Nat} {d : Nat} (h0 : d < 7) (h1 : a ≤ 150) (h2 : b ≤ d) (h3 : c ≤ 2) : a + b + c ≤ 2 ^ 20 := Nat.le_trans (Nat.add_le_add (Nat.add_le_add h1 (Nat.le_trans h2 (Nat.le_of_lt h0))) h3) (Nat.le_of_ble_eq_true rfl)
theorem ar377 {a : Nat} {b : Nat} {c : Nat} {d : Nat} (h0 : d < 7) (h1 : a ≤ 150) (h2 : b ≤ d) (h3 : c ≤ 2) : a + b + c ≤ 200 := Nat.le_trans (Nat.add_le_add (Nat.add_le_add h1 (Nat.le_trans h2 (Nat.le_of_lt h0))) h3) (Nat.le_of_ble_eq_true rfl)
theorem ar409 {a : Nat} {b : Nat} {c : Nat} {d : Nat} (h0 : c + d ≤ 5) (h1 : a ≤ 2 + c) (h2 : b ≤ 2 + d) : a + b ≤ 9 := Nat.le_trans (Nat.add_le_add h1 h2) (Nat.le_trans (Nat.le_of_eq (Nat.add_add_add_comm 2 c 2 d)) (Nat.add_le_add_left h0 4))
theorem ar417 {a : Nat} {b : Nat} {c : Nat} {d : Nat} (h0 : b ≤ 174) (h1 : c ≤ 2 * b) (h2 : d ≤ 2 * c) (h3 : a ≤ d) : a ≤ 2 ^ 20 := Nat.le_trans (Nat.le_trans h3 (Nat.le_trans h2 (Nat.mul_le_mul_left 2 (Nat.le_trans h1 (Nat.mul_le_mul_left 2 h0))))) (Nat.le_of_ble_eq_true rfl)
theorem ar416 {a : Nat} {b : Nat} {c : Nat} (h0 : b ≤ 174) (h1 : c ≤ 2 * b) (h2 : a ≤ 2 * c) : a ≤ 2 ^ 20 := ar417 h0 h1 h2 (Nat.le_refl _)
theorem ar262 {a : Nat} (h0 : a ≤ 1048576) : 5 * (a + 2) ≤ 2 ^ 60 := Nat.le_trans (Nat.mul_le_mul_left 5 (Nat.add_le_add_right h0 2)) (Nat.le_of_ble_eq_true rfl)
theorem ar267 {a : Nat} {b : Nat} {c : Nat} (h0 : a ≤ c) (h1 : c = 1048576) (h2 : b = 16777216) : 2 * (a + 1) ≤ b := by subst h1 h2; exact Nat.le_trans (Nat.mul_le_mul_left 2 (Nat.add_le_add_right h0 1)) (Nat.le_of_ble_eq_true rfl)
theorem ar277 {a : Nat} {b : Nat} {c : Nat} (h0 : b ≤ 2 ^ 20) (h1 : c + a ≤ b + 1) : a ≤ 16777216 := Nat.le_trans (Nat.le_add_left _ _) (Nat.le_trans h1 (Nat.le_trans (Nat.succ_le_succ h0) (Nat.le_of_ble_eq_true rfl)))
theorem ar328 {a : Nat} {b : Nat} {c : Nat} {d : Nat} (h0 : d + b = c) (h1 : a + 1 = d) : a + (b + 1) = c := by subst h1 h0; exact (Nat.add_right_comm a 1 b).symm
theorem ar312 {a : Int} {b : Nat} {c : Nat} (h0 : a = (↑c : Int)) : Max.max (0 : Int) (Min.min a (↑b : Int)) = (↑(Min.min c b) : Int) := by
  rw [h0]
  rcases Nat.le_total c b with h | h
  · rw [Nat.min_eq_left h, Int.min_eq_left (Int.ofNat_le.mpr h)]; exact Int.max_eq_right (Int.natCast_nonneg _)
  · rw [Nat.min_eq_right h, Int.min_eq_right (Int.ofNat_le.mpr h)]; exact Int.max_eq_right (Int.natCast_nonneg _)
theorem ar310 {a : Nat} {b : Nat} (h0 : (0 : Int) = (↑a : Int)) : (0 : Int) = (↑(Min.min a b) : Int) := by
  rw [← Int.ofNat.inj h0, Nat.zero_min]; rfl
theorem ar313 {a : Nat} {b : Nat} (h0 : (↑a : Int) = (↑b : Int)) : (↑a : Int) = (↑(Min.min b a) : Int) := by rw [← Int.ofNat.inj h0, Nat.min_self]
theorem ar480 {a : Nat} {b : Nat} (h0 : (0 : Nat) < b) : (↑(a + b - (1 : Nat)) : Int) = (↑a : Int) + (↑b : Int) - (1 : Int) := Int.ofNat_sub (Nat.le_trans h0 (Nat.le_add_left _ _))
theorem ar148 {a : Nat} (h0 : (1 : Nat) ≤ a) : (↑a : Int) - (1 : Int) = (↑(a - (1 : Nat)) : Int) := (Int.ofNat_sub h0).symm
theorem ar283 {a : Int} {b : Int} (h0 : b < a) : a - b - (1 : Int) + (1 : Int) = (↑(a - b).toNat : Int) := by
  rw [Int.sub_add_cancel]; exact (Int.toNat_of_nonneg (Int.le_of_lt (Int.sub_pos_of_lt h0))).symm
theorem ar284 {a : Int} {b : Int} (h0 : ¬b < a) : (0 : Int) = (↑(a - b).toNat : Int) := by
  rw [Int.toNat_of_nonpos (Int.sub_nonpos_of_le (Int.not_lt.mp h0))]; rfl
theorem ar230 {a : Int} (h0 : -(2 : Int) ^ (62 : Nat) < a ∧ a < (2 : Int) ^ (62 : Nat)) : -(2 : Int) ^ (63 : Nat) ≤ a ∧ a < (2 : Int) ^ (63 : Nat) :=
  ⟨Int.le_of_lt (Int.lt_of_le_of_lt (by decide) h0.1), Int.lt_of_lt_of_le h0.2 (by decide)⟩
theorem ar285 {a : Int} (h0 : (0 : Int) ≤ a) (h1 : a ≤ (1048577 : Int)) : -(2 : Int) ^ (63 : Nat) ≤ a ∧ a < (2 : Int) ^ (63 : Nat) :=
  ⟨Int.le_trans (by decide) h0, Int.lt_of_le_of_lt h1 (by decide)⟩
theorem ar305 {a : Int} {b : Nat} (h0 : (0 : Int) ≤ a) (h1 : a.toNat < b) : (0 : Int) ≤ a ∧ a < (↑b : Int) := ⟨h0, (Int.toNat_lt h0).mp h1⟩
theorem ar307 {a : Int} {b : Nat} (h0 : a < (0 : Int)) (h1 : (0 : Int) ≤ a + (↑b : Int)) : (0 : Int) ≤ a + (↑b : Int) ∧ a + (↑b : Int) < (↑b : Int) := ⟨h1, Int.lt_of_lt_of_le (Int.add_lt_add_right h0 _) (Int.le_of_eq (Int.zero_add _))⟩
theorem ar320 {a : Nat} (h0 : a < (2 : Nat) ^ (60 : Nat)) : -(2 : Int) ^ (62 : Nat) < (↑a : Int) ∧ (↑a : Int) < (2 : Int) ^ (62 : Nat) :=
  ⟨Int.lt_of_lt_of_le (by decide) (Int.natCast_nonneg a), Int.lt_trans (Int.ofNat_lt.mpr h0) (by decide)⟩
theorem ar356 {a : Nat} {b : Nat} (h0 : a < (2 : Nat) ^ (60 : Nat)) (h1 : b < (2 : Nat) ^ (60 : Nat)) : (-4611686018427387904 : Int) < (↑a : Int) ∧ (↑a : Int) < (4611686018427387904 : Int) ∧ (-4611686018427387904 : Int) < (↑b : Int) ∧ (↑b : Int) < (4611686018427387904 : Int) :=
  ⟨(ar320 h0).1, (ar320 h0).2, (ar320 h1).1, (ar320 h1).2⟩
theorem ar309 {a : Int} (h0 : -(2 : Int) ^ (62 : Nat) < a ∧ a < (2 : Int) ^ (62 : Nat)) : (↑a.toNat : Int) < (2 : Int) ^ (62 : Nat) := by
  rcases Int.le_total 0 a with h | h
  · rw [Int.toNat_of_nonneg h]; exact h0.2
  · rw [Int.toNat_of_nonpos h]; decide
theorem ar325 {a : Nat} {b : Nat} : (↑a : Int) - (↑b : Int) = (0 : Int) ↔ b = a := ⟨fun h => (Int.ofNat.inj (Int.sub_eq_zero.mp h)).symm, fun h => by rw [h]; exact Int.sub_self _⟩
theorem ar476 {a : Nat} : (↑a : Int) - (1 : Int) = (0 : Int) ↔ a = (1 : Nat) := ⟨fun h => Int.ofNat.inj (Int.sub_eq_zero.mp h), fun h => by rw [h]; rfl⟩
theorem ar375 {a : Nat} {b : Nat} (h0 : (↑(a % (6 : Nat)) : Int) = (0 : Int) ∧ (↑b : Int) = (1 : Int)) : a % (6 : Nat) = (0 : Nat) ∧ b = (1 : Nat) := ⟨Int.ofNat.inj h0.1, Int.ofNat.inj h0.2⟩
theorem ar293 {a : Int} {b : Int} {c : Nat} (h0 : (0 : Int) ≤ b) (h1 : a ≤ (↑c : Int)) (h2 : (↑c : Int) = (1048576 : Int)) : (↑(a - b).toNat : Int) ≤ (1048577 : Int) := by
  rcases Int.le_total 0 (a - b) with h | h
  · rw [Int.toNat_of_nonneg h]; exact Int.le_trans (Int.sub_le_self a h0) (Int.le_trans (h2 ▸ h1) (by decide))
  · rw [Int.toNat_of_nonpos h]; decide
theorem ar298 {a : Int} {b : Int} {c : Nat} (h0 : (0 : Int) ≤ b) (h1 : a ≤ (↑c : Int)) (h2 : (↑c : Int) = (1048576 : Int)) : (a - b).toNat ≤ (2 : Nat) ^ (24 : Nat) := Int.ofNat_le.mp (Int.le_trans (ar293 h0 h1 h2) (by decide))
theorem ar287 {a : Int} {b : Int} {c : Nat} (h0 : a ≤ b) (h1 : b ≤ (↑c : Int)) (h2 : (↑c : Int) = (1048576 : Int)) : a ≤ (1048577 : Int) := Int.le_trans h0 (Int.le_trans (h2 ▸ h1) (by decide))
theorem ar498 {a : Nat} {b : Nat} {c : Nat} (h0 : b ≤ (300 : Nat)) (h1 : c ≤ b) (h2 : a < (↑c : Int).toNat) : a + (1 : Nat) < (2 : Nat) ^ (60 : Nat) := Nat.lt_of_le_of_lt (Nat.le_trans h2 (Nat.le_trans h1 h0)) (Nat.le_of_ble_eq_true rfl : 300 < 2 ^ 60)
theorem ar190 {a : Nat} (h0 : a ≤ (1000 : Nat)) : ¬(1 : Nat) * (↑a : Int).toNat > (16777216 : Nat) := Nat.not_lt.mpr (Nat.le_trans (Nat.le_of_eq (Nat.one_mul a)) (Nat.le_trans h0 (Nat.le_of_ble_eq_true rfl)))
theorem ar183 {a : Nat} {b : Nat} (h0 : a ≤ (4000 : Nat)) (h1 : b ≤ (4000 : Nat)) : ¬(↑a : Int) + (↑b : Int) > (↑(134217728 : Nat) : Int) := Int.not_lt.mpr (Int.ofNat_le.mpr (Nat.le_trans (Nat.add_le_add h0 h1) (Nat.le_of_ble_eq_true rfl)))
theorem ar424 {a : Nat} {b : Nat} {c : Nat} {d : Nat} (h0 : c < (2 : Nat)) (h1 : a ≤ (8 : Nat) * c) (h2 : d ≤ (8 : Nat)) (h3 : b < (0 : Nat) + d) : (↑a : Int) + (↑b : Int) ≤ (1000 : Int) :=
  Int.ofNat_le.mpr (Nat.le_trans (Nat.le_of_lt (ar422 h0 h1 h2 (Nat.zero_add d ▸ h3))) (by decide))
theorem ar412 {a : Nat} {b : Int} (h0 : (0 : Int) ≤ b) (h1 : (2 : Int) + b = (↑a : Int)) : (2 : Nat) ≤ a := Int.ofNat_le.mp (h1 ▸ Int.le_add_of_nonneg_right h0)
theorem ar413 {a : Nat} {b : Int} (h0 : b < (998 : Int)) (h1 : (2 : Int) + b = (↑a : Int)) : a ≤ (1000 : Nat) := Int.ofNat_le.mp (h1 ▸ Int.add_le_add_left (Int.le_of_lt h0) 2)
theorem ar381 {a : Nat} {b : Nat} {c : Prop} {d : Nat} {e : Nat} {f : Nat} {g : Nat} (h0 : a = 0) (h1 : b < 3 ∧ c ∧ d ≤ 14 ∧ e + 2 ≤ a ∧ f + g + 2 ≤ a) : False := Nat.not_succ_le_zero _ (h0 ▸ h1.2.2.2.1)
theorem ar322 {a : Nat} {b : Nat} : (↑(a / (2 : Nat) ^ b) : Int) % (2 : Int) = (0 : Int) ↔ ¬a / (2 : Nat) ^ b % (2 : Nat) = (1 : Nat) :=
  ⟨fun h h' => absurd ((Int.ofNat.inj h).symm.trans h') (by decide), fun h => congrArg Int.ofNat ((Nat.mod_two_eq_zero_or_one _).resolve_right h)⟩
theorem ar123 {a : Nat} {b : Nat} {c : Nat} {d : Nat} (h0 : ¬a < b) : a ≥ b ∧ a - b < c - b ∧ c - b < a - b + d ↔ a < c ∧ c < a + d := by
  obtain ⟨k, rfl⟩ := Nat.exists_eq_add_of_le (Nat.not_lt.mp h0)
  rw [Nat.add_sub_cancel_left, Nat.add_assoc]
  exact ⟨fun h => ⟨Nat.lt_sub_iff_add_lt'.mp h.2.1, Nat.lt_of_le_of_lt (Nat.sub_le_iff_le_add'.mp (Nat.le_refl _)) (Nat.add_lt_add_left h.2.2 b)⟩, fun h => ⟨Nat.le_add_right _ _, Nat.lt_sub_iff_add_lt'.mpr h.1, Nat.sub_lt_left_of_lt_add (Nat.le_trans (Nat.le_add_right _ _) (Nat.le_of_lt h.1)) h.2⟩⟩
theorem ar206 {a : Nat} {b : Nat} {c : Nat} (h0 : a - b = c + 1) : a - (b + 1) = c := congrArg Nat.pred h0
theorem ar14 {a : Nat} {b : Nat} {c : Nat} {d : Nat} (h0 : c + (a + 1) = d) (h1 : c + b ≤ d) : a = b - 1 + (a - (b - 1)) :=
  (Nat.add_sub_of_le (Nat.sub_le_of_le_add (Nat.le_of_add_le_add_left (h0 ▸ h1)))).symm
theorem ar203 {a : Nat} {b : Nat} {c : Nat} (h0 : a - b < c) : a - (b + 1) < c := Nat.lt_of_le_of_lt (Nat.pred_le _) h0
theorem arSub1 {a b : Nat} (h : b < a) : a - (b + 1) < a - b := Nat.pred_lt (Nat.sub_ne_zero_of_lt h)
theorem ar202 {a : Nat} {b : Nat} {c : Nat} (h0 : a - b < c) (h1 : b < a) : a - (b + 1) < c - 1 := Nat.lt_of_lt_of_le (arSub1 h1) (Nat.le_sub_one_of_lt h0)
theorem ar201 {a : Nat} {b : Nat} {c : Nat} (h0 : a - b = c) (h1 : b < a) : a - (b + 1) < c := h0 ▸ arSub1 h1
theorem ar200 {a : Nat} {b : Nat} {c : Nat} {d : Nat} (h0 : a - b < c) (h1 : b + 1 < a ∧ d = 10) : a - (b + 2) < c - 1 := Nat.lt_of_le_of_lt (Nat.pred_le _) (ar202 h0 (Nat.lt_of_succ_lt h1.1))
theorem ar199 {a : Nat} {b : Nat} {c : Nat} {d : Nat} (h0 : a - b = c) (h1 : b + 1 < a ∧ d = 10) : a - (b + 2) < c := Nat.lt_of_le_of_lt (Nat.pred_le _) (ar201 h0 (Nat.lt_of_succ_lt h1.1))
theorem ar254 {a : Nat} {b : Nat} {c : Nat} {d : Nat} (h0 : c ≤ d) : Min.min (a - b) (c - b) ≤ d := Nat.le_trans (Nat.min_le_right _ _) (Nat.le_trans (Nat.sub_le _ _) h0)
theorem ar13 {a : Nat} {b : Nat} {c : Nat} (h0 : a + 1 ≤ b) (h1 : b < a + 1 + (c - 1)) : a < b ∧ b < a + c :=
  ⟨h0, match c, h1 with | 0, h => absurd h0 (Nat.not_le.mpr h) | _ + 1, h => Nat.lt_of_lt_of_le h (Nat.le_of_eq (Nat.add_right_comm _ _ _))⟩
theorem ar120 {a : Nat} {b : Nat} {c : Nat} {d : Nat} {e : Nat} (h0 : ¬c < e) (h1 : a - e + b ≤ c - e + d) : a + b ≤ c + d := by
  have h := Nat.add_le_add_right h1 e
  rw [Nat.add_right_comm, Nat.add_right_comm (c - e), Nat.sub_add_cancel (Nat.not_lt.mp h0)] at h
  exact Nat.le_trans (Nat.add_le_add_right (Nat.le_add_of_sub_le (Nat.le_refl _)) _) h
theorem ar118 {a : Nat} {b : Nat} {c : Nat} {d : Nat} (h0 : c < a) (h1 : a < c + d) : a - b < c - b + d := by
  obtain ⟨t, rfl⟩ := Nat.exists_eq_add_of_le (Nat.le_of_lt h0)
  refine Nat.lt_of_le_of_lt (Nat.sub_le_iff_le_add.mpr ?_) (Nat.add_lt_add_left (Nat.lt_of_add_lt_add_left h1) _)
  rw [Nat.add_right_comm]; exact Nat.add_le_add_right (Nat.sub_le_iff_le_add.mp (Nat.le_refl _)) t
theorem ar162 {a : Nat} {b : Nat} (h0 : ¬b ≤ a) : a - b = a + 1 - b := by
  rw [Nat.sub_eq_zero_of_le (Nat.le_of_not_le h0), Nat.sub_eq_zero_of_le (Nat.gt_of_not_le h0)]
theorem ar257 {a : Nat} {b : Nat} {c : Nat} {d : Nat} {e : Nat} (h0 : a - e < d + 1) (h1 : e ≤ b) (h2 : 1 ≤ c) (h3 : b + c ≤ a) : a - (b + c) < d :=
  Nat.lt_of_lt_of_le (Nat.sub_lt_sub_left (Nat.lt_of_lt_of_le (Nat.lt_add_of_pos_right h2) h3) (Nat.lt_add_of_pos_right h2)) (Nat.le_trans (Nat.sub_le_sub_left h1 _) (Nat.le_of_lt_succ h0))
theorem ar97 {a : Nat} {b : Nat} {c : Nat} (h0 : b < a) : a - (b + 1) < c ↔ a < b + (1 + c) := by
  rw [← Nat.add_assoc]; exact Nat.sub_lt_iff_lt_add' h0
theorem ar466 {a : Nat} {b : Nat} {c : Nat} (h0 : b ≤ 300) : Min.min (a + 1) b - c ≤ 300 := Nat.le_trans (Nat.sub_le _ _) (Nat.le_trans (Nat.min_le_right _ _) h0)
theorem ar489 {a : Nat} {b : Nat} {c : Nat} {d : Nat} (h0 : d = 0 + b) (h1 : a = d + 1 + c) : a + 1 - b ≤ 1 + c + 1 := by
  subst h0 h1; rw [Nat.zero_add, Nat.add_assoc, Nat.add_assoc, Nat.add_sub_cancel_left]; exact Nat.le_refl _
theorem ar117 {a : Nat} {b : Nat} {c : Nat} (h0 : a < c) (h1 : ¬a < b) : a - b < c - b := Nat.sub_lt_sub_right (Nat.not_lt.mp h1) h0
theorem ar317 {a : Nat} {b : Nat} {c : Nat} (h0 : Min.min b a - Min.min c a = a) : a ≤ b := by rw [← h0]; exact Nat.le_trans (Nat.sub_le _ _) (Nat.min_le_left _ _)
theorem ar41 {a : Nat} {b : Nat} {c : Nat} (h0 : ¬a = b) : a ≤ b ∧ b < a + (c + 1) ↔ a + 1 ≤ b ∧ b < a + 1 + c := by
  rw [Nat.add_right_comm a 1 c]; exact ⟨fun h => ⟨Nat.lt_of_le_of_ne h.1 h0, h.2⟩, fun h => ⟨Nat.le_of_lt h.1, h.2⟩⟩
theorem ar1 {a : Nat} (h0 : 0 < a) : a = a - 1 + 1 := (Nat.succ_pred_eq_of_pos h0).symm
theorem ar490 {a : Nat} {b : Nat} {c : Nat} {d : Nat} (h0 : d = 0 + c) (h1 : b = d + 1 + a) : 1 + a + 1 ≤ b + 1 - c := by
  subst h0 h1; rw [Nat.zero_add, Nat.add_assoc c 1 a, Nat.add_assoc c, Nat.add_sub_cancel_left]; exact Nat.le_refl _
theorem ar354 {a : Nat} : ((-1 : Int) + (↑a : Int)).toNat = a - (1 : Nat) := by rw [Int.add_comm]; exact Int.toNat_sub a 1
theorem ar12 {a : Nat} {b : Nat} {c : Nat} {d : Nat} (h0 : 0 < c) (h1 : d + c ≤ b) (h2 : a < d + 1 + (c - 1)) : a < b :=
  match c, h0, h1, h2 with | _ + 1, _, h1, h2 => Nat.lt_of_lt_of_le (Nat.lt_of_lt_of_le h2 (Nat.le_of_eq (Nat.add_right_comm _ _ _))) h1
theorem ar114 {a : Nat} {b : Nat} {c : Nat} {d : Nat} (h0 : a - c + b ≤ d) : a + b ≤ c + d :=
  Nat.le_trans (Nat.add_le_add_right (Nat.sub_le_iff_le_add'.mp (Nat.le_refl _)) b) (Nat.le_trans (Nat.le_of_eq (Nat.add_assoc _ _ _)) (Nat.add_le_add_left h0 c))
theorem ar223 {a : Nat} {b : Nat} {c : Nat} (h0 : a ≤ 5 * (b - c + 1)) : a ≤ 5 * (b + 2) := Nat.le_trans h0 (Nat.mul_le_mul_left 5 (Nat.succ_le_succ (Nat.le_succ_of_le (Nat.sub_le _ _))))
theorem ar128 {a : Nat} {b : Nat} (h0 : b < a) : a - b = a - b - 1 + 1 := (Nat.succ_pred_eq_of_pos (Nat.sub_pos_of_lt h0)).symm
theorem ar101 {a : Nat} {b : Nat} (h0 : 0 < b) (h1 : ¬b = 1) : a < a + b - 1 := match b, h0, h1 with | 1, _, h => absurd rfl h | _ + 2, _, _ => Nat.lt_add_of_pos_right (Nat.succ_pos _)
theorem ar99 {a : Nat} {b : Nat} {c : Nat} (h0 : a < c) (h1 : b ≤ c - (a + 1)) : a + (1 + b) ≤ c := Nat.le_trans (Nat.le_of_eq (Nat.add_assoc _ _ _).symm) (Nat.add_le_of_le_sub' h0 h1)
theorem ar106 {a : Nat} {b : Nat} {c : Nat} {d : Nat} (h0 : a + b - 1 < c + d) : a + b ≤ c + d := Nat.le_of_pred_lt h0
theorem ar102 {a : Nat} {b : Nat} {c : Nat} (h0 : 0 < b) (h1 : a + b ≤ c) : a + b - 1 < c := Nat.lt_of_lt_of_le (Nat.pred_lt (Nat.ne_of_gt (Nat.add_pos_right a h0))) h1
theorem ar315 {a : Nat} {b : Nat} {c : Nat} (h0 : ¬b ≤ a) : a ≤ b - c + c := Nat.le_trans (Nat.le_of_not_le h0) (Nat.le_add_of_sub_le (Nat.le_refl _))
theorem ar196 {a : Nat} {b : Nat} (h0 : b < a) : ¬a + 1 - b = 0 := Nat.sub_ne_zero_of_lt (Nat.lt_succ_of_lt h0)
theorem ar113 {a : Nat} {b : Nat} {c : Nat} (h0 : a < b + c) (h1 : ¬a < b) : a - b < c := Nat.sub_lt_left_of_lt_add (Nat.not_lt.mp h1) h0
theorem ar112 {a : Nat} {b : Nat} {c : Nat} {d : Nat} (h0 : c = d) (h1 : b ≤ a) (h2 : a < b + d) : a - b < c := h0 ▸ Nat.sub_lt_left_of_lt_add h1 h2
theorem ar137 {a : Nat} (h0 : 1 ≤ a) (h1 : ¬a = 1) : 1 ≤ a - 1 := Nat.le_sub_one_of_lt (Nat.lt_of_le_of_ne h0 (Ne.symm h1))
theorem ar161 {a : Nat} {b : Nat} (h0 : b ≤ a) : a - b + 1 = a + 1 - b := (Nat.succ_sub h0).symm
theorem ar252 {a : Nat} (h0 : 4 < a) : 4 + (a - 4) = a := Nat.add_sub_of_le (Nat.le_of_lt h0)
theorem ar119 {a : Nat} {b : Nat} {c : Nat} {d : Nat} (h0 : d < a) (h1 : a < b + c) (h2 : ¬d < b) : a - b < c := Nat.sub_lt_left_of_lt_add (Nat.le_trans (Nat.not_lt.mp h2) (Nat.le_of_lt h0)) h1
theorem ar472 {a : Nat} (h0 : ¬a ≤ 1) : 0 < a - 1 := Nat.sub_pos_of_lt (Nat.not_le.mp h0)
theorem ar224 {a : Nat} {b : Nat} (h0 : ¬b - a < 1) : a ≤ b ∧ ¬b - a = 0 := ⟨Nat.le_of_lt (Nat.lt_of_sub_pos (Nat.not_lt.mp h0)), Nat.ne_of_gt (Nat.not_lt.mp h0)⟩
theorem ar205 {a : Nat} {b : Nat} {c : Nat} (h0 : b - a = c + 1) : a < b := Nat.lt_of_sub_pos (h0 ▸ Nat.succ_pos c)
theorem ar103 {a : Nat} {b : Nat} (h0 : 0 < b) : a + b - 1 < a + b := Nat.pred_lt (Nat.ne_of_gt (Nat.add_pos_right a h0))
theorem ar35 {a : Nat} {b : Nat} (h0 : ¬b = a) : a < b + 1 ↔ a < b := ⟨fun h => Nat.lt_of_le_of_ne (Nat.le_of_lt_succ h) (Ne.symm h0), Nat.lt_succ_of_lt⟩
theorem ar29 {a : Nat} {b : Nat} : a % 2 ^ b + 2 ^ b * 0 < 2 ^ b := Nat.mod_lt _ (Nat.two_pow_pos b)
theorem ar32 {a : Nat} {b : Nat} {c : Nat} (h0 : c % 2 ^ (b + 1) = a) : a < 2 ^ (b + 1) := h0 ▸ Nat.mod_lt _ (Nat.two_pow_pos _)
theorem ar18 {a : Nat} {b : Nat} (h0 : 0 < a) : 1 + (a - 1 + b) = a + b := by rw [← Nat.add_assoc, Nat.add_sub_of_le h0]
theorem ar15 {a : Nat} {b : Nat} (h0 : 0 < b) : a + 1 + (b - 1) = a + b := by rw [Nat.add_assoc, Nat.add_sub_of_le h0]
theorem ar17 {a : Nat} {b : Nat} {c : Nat} {d : Nat} {e : Nat} (h0 : a + (e + 1) = d) (h1 : 0 < b) (h2 : e = b - 1 + c) : a + b + c = d := by
  rw [← h0, h2, Nat.add_right_comm (b - 1), Nat.sub_add_cancel h1, Nat.add_assoc]
theorem ar227 {a : Nat} {b : Nat} {c : Nat} (h0 : b - c < 1) (h1 : c ≤ a) : ¬a < b := Nat.not_lt.mpr (Nat.le_trans (Nat.le_of_sub_eq_zero (Nat.lt_one_iff.mp h0)) h1)
theorem ar238 {a : Nat} {b : Nat} (h0 : b - a = 0) (h1 : a ≤ b) : a = b := Nat.le_antisymm h1 (Nat.le_of_sub_eq_zero h0)
theorem ar214 {a : Nat} {b : Nat} (h0 : b - a = 0) : ¬a < b := Nat.not_lt.mpr (Nat.le_of_sub_eq_zero h0)
theorem ar204 {a : Nat} {b : Nat} (h0 : a - b = 0) : a ≤ b := Nat.le_of_sub_eq_zero h0
theorem ar10 {a : Nat} {b : Nat} {c : Nat} (h0 : a + (c + 1) = b) : a < b := h0 ▸ Nat.lt_add_of_pos_right (Nat.succ_pos c)
theorem ar195 {a : Nat} {b : Nat} {c : Nat} (h0 : b - c < a) : a = a - 1 + 1 := (Nat.succ_pred_eq_of_pos (Nat.zero_lt_of_lt h0)).symm
theorem ar263 {a : Nat} {b : Nat} (h0 : b ≤ a) : a + 1 - b = a - b + 1 := Nat.succ_sub h0
theorem ar86 {a : Nat} : (1 + 2 * a) / 2 = a := by rw [Nat.add_mul_div_left _ _ (by decide)]; exact Nat.zero_add a
theorem ar361 {a : Nat} {b : Nat} (h0 : b = 27) : a / 6 % 27 < b := by subst h0; exact Nat.mod_lt _ (by decide)
theorem ar386 {a : Nat} {b : Nat} (h0 : b = 13) : a % 13 < b := by subst h0; exact Nat.mod_lt _ (by decide)
theorem ar308 {a : Int} (h0 : (0 : Int) ≤ a) : a = (↑a.toNat : Int) := (Int.toNat_of_nonneg h0).symm
theorem ar362 {a : Nat} : a / 6 % 27 < 2 ^ 60 := Nat.lt_trans (Nat.mod_lt _ (by decide)) (Nat.le_of_ble_eq_true rfl : 27 < 2 ^ 60)
theorem ar370 {a : Nat} : a / 162 % 3 < 2 ^ 60 := Nat.lt_trans (Nat.mod_lt _ (by decide)) (Nat.le_of_ble_eq_true rfl : 3 < 2 ^ 60)
theorem ar382 {a : Nat} : a % 4 < 2 ^ 60 := Nat.lt_trans (Nat.mod_lt _ (by decide)) (Nat.le_of_ble_eq_true rfl : 4 < 2 ^ 60)
theorem ar387 {a : Nat} : a % 13 < 2 ^ 60 := Nat.lt_trans (Nat.mod_lt _ (by decide)) (Nat.le_of_ble_eq_true rfl : 13 < 2 ^ 60)
theorem ar391 {a : Nat} : a % 6 < 2 ^ 60 := Nat.lt_trans (Nat.mod_lt _ (by decide)) (Nat.le_of_ble_eq_true rfl : 6 < 2 ^ 60)
theorem ar496 {a : Nat} {b : Nat} (h0 : a ≤ 300) : a - b ≤ 2 ^ 20 := Nat.le_trans (Nat.sub_le _ _) (Nat.le_trans h0 (Nat.le_of_ble_eq_true rfl))
theorem ar339 {a : Nat} {b : Nat} {c : Nat} (h0 : a + c = b) : a = b - c := Nat.eq_sub_of_add_eq h0
theorem ar2 {a : Nat} {b : Nat} {c : Nat} (h0 : 0 < b ^ c) : 0 < a + b ^ c := by exact Nat.lt_of_lt_of_le h0 (Nat.le_add_left _ _)
theorem ar3 {a : Nat} : 0 < a + 1 := by exact Nat.succ_pos _
theorem ar4 {a : Nat} {b : Nat} : a < a + (b + 1) := by simp +arith
theorem ar5 {a : Nat} {b : Nat} (h0 : a + 1 ≤ b) : a ≤ b := by exact Nat.le_of_lt (by assumption)
theorem ar6 {a : Nat} {b : Nat} {c : Nat} (h0 : a < b + 1 + c) : a < b + (c + 1) := by exact by simpa +arith using h0
theorem ar7 {a : Nat} {b : Nat} : a + 1 + b = a + b + 1 := by exact Nat.add_right_comm _ _ _
theorem ar8 {a : Nat} {b : Nat} : a + 1 + b = a + (b + 1) := by exact Nat.add_right_comm _ _ _
theorem ar9 {a : Nat} {b : Nat} : 1 + (a + b) = a + 1 + b := by simp +arith
theorem ar16 {a : Nat} {b : Nat} {c : Nat} (h0 : b = c - 1 + a) : a < b + 1 := by exact by simp +arith [h0]
theorem ar19 {a : Nat} {b : Nat} {c : Nat} {d : Nat} (h0 : a + b ≤ c) : a + b ≤ c + d := by exact Nat.le_trans h0 (Nat.le_add_right _ _)
theorem ar20 {a : Nat} {b : Nat} (h0 : ¬b < a) (h1 : ¬b = a) : a < b := by lia
theorem ar21 {a : Nat} {b : Nat} {c : Nat} {d : Nat} (h0 : c + d ≤ b) (h1 : a < c + d) : a < b := by exact Nat.lt_of_lt_of_le h1 h0
theorem ar22 {a : Nat} : a < a + 1 := by exact Nat.lt_succ_self _
theorem ar23 {a : Nat} {b : Nat} {c : Nat} (h0 : a + (b + 1) = c) : a + 1 + b = c := by exact by simpa +arith using h0
theorem ar24 {a : Nat} {b : Nat} (h0 : a < b + 1) (h1 : a ≠ b) : a < b := by lia
theorem ar25 {a : Nat} {b : Nat} {c : Nat} (h0 : a + b ≤ c) : a + b ≤ c + 1 := by exact Nat.le_succ_of_le (by assumption)
theorem ar26 {a : Nat} : 0 + a = a := by exact Nat.add_comm _ _
theorem ar27 {a : Prop} {b : Nat} {c : Nat} (h0 : b < 0) (hz : a) : b + c ≤ 0 := by exact by simpa +arith using h0
theorem ar28 {a : Nat} {b : Nat} (h0 : ¬a / 2 ^ b % 2 = 1) : a / 2 ^ b % 2 = 0 := by exact by simpa +arith using h0
theorem ar31 {a : Nat} {b : Nat} {c : Nat} {d : Nat} (h0 : a = 2 ^ (b + 1) * c + d) : a + 2 ^ b = 2 ^ (b + 1) * c + (d + 2 ^ b) := by exact by simpa +arith using h0
theorem ar33 {a : Nat} {b : Nat} (h0 : a < b + 1) (h1 : ¬a = b) : a < b := by lia
theorem ar34 {a : Nat} {b : Nat} (h0 : ¬a < b + 1) : a ≠ b := by lia
theorem ar36 {a : Nat} {b : Nat} (h0 : a < b) : a < b + 1 := by exact Nat.le_succ_of_le (by assumption)
theorem ar37 : 0 < 1 := by exact Nat.succ_pos _
theorem ar38 {a : Nat} {b : Nat} : ¬(a + 1 ≤ a ∧ a < a + 1 + b) := by simp +arith
theorem ar39 {a : Nat} {b : Nat} : a ≤ a ∧ a < a + (b + 1) := by simp +arith
theorem ar40 {a : Nat} {b : Nat} (h0 : a + 0 = b) : a + 1 = 1 + b := by exact by simpa +arith using h0
theorem ar42 {a : Nat} {b : Nat} (h0 : a ≤ b) : 0 + a ≤ b + 1 := by lia
theorem ar43 {a : Nat} {b : Nat} (h0 : a ≤ b) : 1 + a ≤ b + 1 := by exact by simpa +arith using h0
theorem ar44 {a : Nat} {b : Nat} (h0 : a ≤ b) (h1 : b < a + 0) : False := by exact Nat.lt_irrefl _ (Nat.lt_of_lt_of_le h1 h0)
theorem ar45 {a : Nat} {b : Nat} (h0 : a ≤ b) (h1 : ¬b = a) : a + 1 ≤ b := by exact Nat.lt_of_le_of_ne h0 (Ne.symm h1)
theorem ar46 {a : Nat} {b : Nat} {c : Nat} (h0 : a < b + (c + 1)) : a < b + 1 + c := by exact by simpa +arith using h0
theorem ar47 {a : Nat} : 1 + a = a + 1 := by exact Nat.add_comm _ _
theorem ar48 {a : Nat} {b : Nat} (h0 : ¬a = b) : ¬(↑a : Int) = (↑b : Int) := by lia
theorem ar49 {a : Nat} {b : Nat} (h0 : ¬a = b) : (↑a : Int) ≠ (↑b : Int) := by lia
theorem ar50 {a : Nat} {b : Nat} {c : Nat} {d : Nat} : a * b + c * b + d = a * b + d + c * b := by exact Nat.add_right_comm _ _ _
theorem ar51 {a : Nat} {b : Nat} {c : Nat} {d : Nat} {e : Nat} : a * b + (c + d * e) = a * b + c + d * e := by exact (Nat.add_assoc _ _ _).symm
theorem ar52 {a : Nat} {b : Nat} {c : Nat} {d : Nat} {e : Nat} (h0 : a * b ≤ e) : a * b ≤ c * d + e := by exact Nat.le_trans h0 (Nat.le_add_left _ _)
theorem ar53 {a : Nat} {b : Nat} {c : Nat} {d : Nat} : a * b + (c + d) = a * b + c + d := by exact (Nat.add_assoc _ _ _).symm
theorem ar54 {a : Nat} {b : Nat} {c : Nat} (h0 : a ≤ a * b) : a ≤ a * b + c := by exact Nat.le_trans h0 (Nat.le_add_right _ _)
theorem ar55 {a : Nat} {b : Nat} {c : Nat} {d : Nat} (h0 : a ≤ d) : a ≤ b * c + d := by exact Nat.le_trans h0 (Nat.le_add_left _ _)
theorem ar56 {a : Nat} {b : Nat} (h0 : b < 0) : a ≤ 0 := by exact by simpa +arith using h0
theorem ar57 {a : Nat} {b : Nat} (h0 : a - 1 ≤ b) : a ≤ b + 1 := by exact Nat.le_add_of_sub_le h0
theorem ar58 {a : Nat} {b : Nat} (h0 : a ≤ b) : a ≤ b + 1 := by exact Nat.le_succ_of_le (by assumption)
theorem ar59 {a : Nat} {b : Nat} {c : Nat} (h0 : a ≤ 4) (h1 : b ≤ 4 * c) : a + b ≤ 4 * (c + 1) := by exact by simpa +arith using Nat.add_le_add h0 h1
theorem ar60 {a : Nat} {b : Nat} {c : Nat} (h0 : a ≤ 1) (h1 : b ≤ c) : a + b ≤ c + 1 := by exact by simpa +arith using Nat.add_le_add h0 h1
theorem ar61 {a : Nat} {b : Nat} {c : Nat} (h0 : a ≤ 2) (h1 : b ≤ 4 * c) : a + b ≤ 2 + 4 * c := by exact Nat.add_le_add h0 h1
theorem ar62 {a : Nat} {b : Nat} {c : Nat} (h0 : a ≤ 2) (h1 : b ≤ c) : a + b ≤ 2 + c := by exact Nat.add_le_add h0 h1
theorem ar68 {a : Nat} {b : Nat} {c : Nat} (h0 : a ≤ c + 1) (h1 : c ≤ b) : a ≤ b + 1 := by exact Nat.le_trans h0 (Nat.add_le_add_right h1 _)
theorem ar69 {a : Nat} {b : Nat} {c : Nat} (h0 : a + 1 ≤ b ∧ c + 1 ≤ b) : a + 1 ≤ b := by exact by simp [h0]
theorem ar71 {a : Nat} {b : Nat} (h0 : a + 2 ≤ b) : a + 2 ≤ b := by assumption
theorem ar72 {a : Nat} {b : Nat} {c : Nat} {d : Nat} (h0 : c ≤ 1) (h1 : a + b + 2 ≤ d) : a + (b + c) + 2 ≤ d + 1 := by exact by simpa +arith using Nat.add_le_add h1 h0
theorem ar73 : 0 ≤ 1 := by exact Nat.zero_le _
theorem ar74 {a : Nat} : 0 ≤ a + 1 := by exact Nat.zero_le _
theorem ar76 {a : Nat} {b : Nat} {c : Nat} (h0 : b + 1 ≤ a ∧ c + 1 ≤ a) : 1 ≤ a := by lia
theorem ar77 {a : Nat} {b : Nat} {c : Nat} (h0 : c + 1 ≤ b ∧ a + 1 ≤ b) : a + 1 ≤ b := by exact by simp [h0]
theorem ar79 {a : Nat} {b : Nat} (h0 : b + 1 ≤ 7 ∧ a + 1 ≤ 7) : a + 0 ≤ 6 := by lia
theorem ar80 {a : Nat} (h0 : a ≤ 14) : a ≤ 21 := by exact Nat.le_trans h0 (Nat.le_add_left _ _)
theorem ar81 {a : Nat} {b : Nat} (h0 : b ≤ 7) (h1 : a + 2 ≤ 7) : a + b ≤ 21 := by lia
theorem ar82 {a : Nat} {b : Nat} (h0 : a + b + 2 ≤ 7) : a + (b + 0) ≤ 5 := by exact Nat.le_sub_of_add_le h0
theorem ar83 {a : Nat} : (1 + 2 * a) % 2 = 1 := by simp
theorem ar84 {a : Nat} : (0 + 2 * a) % 2 = 0 := by simp +arith
theorem ar87 {a : Nat} : (0 + 2 * a) / 2 = a := by simp +arith
theorem ar89 {a : Nat} {b : Nat} (h0 : ¬b < a) : a ≤ b := by exact Nat.le_of_not_lt (by assumption)
theorem ar90 {a : Nat} {b : Nat} {c : Nat} (h0 : b < a) : a ≤ b → c ≤ b := by lia
theorem ar91 {a : Nat} {b : Nat} (h0 : a < b) : a < b := by assumption
theorem ar92 {a : Nat} {b : Nat} (h0 : a < b) : a ≤ b := by exact Nat.le_of_lt (by assumption)
theorem ar93 {a : Nat} : 0 + (a + 1) = 1 + a := by simp only [Nat.add_comm, Nat.add_left_comm, Nat.add_assoc]
theorem ar94 {a : Nat} {b : Nat} {c : Nat} (h0 : a < c) (h1 : c < b) : a < b := by exact Nat.lt_trans h0 h1
theorem ar95 {a : Nat} {b : Nat} {c : Nat} (h0 : b < a) (h1 : a < c) : a - (b + 1) < c - (b + 1) := by exact Nat.sub_lt_sub_right (by assumption) h1
theorem ar96 {a : Nat} {b : Nat} (h0 : a < b) : a + 1 + (b - (a + 1)) = b := by exact Nat.add_sub_cancel' h0
theorem ar98 {a : Nat} : 0 < 1 + a := by exact Nat.le_add_right _ _
theorem ar100 {a : Nat} {b : Nat} {c : Nat} {d : Nat} (h0 : a < c + d) (h1 : b = 1) : a + b ≤ c + d := by exact by subst h1; assumption
theorem ar104 {a : Nat} {b : Nat} {c : Nat} (h0 : a < b) (h1 : b < b + c - 1) : a < b + c - 1 := by exact Nat.lt_trans h0 h1
theorem ar105 {a : Nat} {b : Nat} {c : Nat} (h0 : c ≤ b) (h1 : a < c) : a < b := by exact Nat.lt_of_lt_of_le h1 h0
theorem ar107 {a : Nat} {b : Nat} (h0 : b < b) : a < a := by exact by simpa +arith using h0
theorem ar108 {a : Nat} {b : Nat} {c : Nat} {d : Nat} (h0 : c < d) (h1 : d < c) : a < b := by exact by simpa +arith using Nat.add_le_add h0 h1
theorem ar109 {a : Nat} {b : Nat} {c : Nat} (h0 : c < b) (h1 : a < c) : a < b := by exact Nat.lt_trans h1 h0
theorem ar110 {a : Nat} {b : Nat} {c : Nat} (h0 : b = c) (h1 : a < c) : a < b := by exact by subst h0; assumption
theorem ar111 {a : Nat} {b : Nat} {c : Nat} (h0 : a = c) (h1 : c ≤ b) : a ≤ b := by exact Nat.le_trans (Nat.le_of_eq h0) h1
theorem ar115 {a : Nat} {b : Nat} {c : Nat} {d : Nat} (h0 : a < c + d) (h1 : c + d ≤ b) : a < b := by exact Nat.lt_of_lt_of_le h0 h1
theorem ar116 {a : Nat} {b : Nat} {c : Nat} (h0 : c < b) (h1 : ¬c < a) : a ≤ b := by lia
theorem ar124 {a : Nat} {b : Nat} (h0 : a + 1 < b) : a + 2 ≤ b := by assumption
theorem ar125 : ¬1 < 1 := by simp +arith
theorem ar126 : ¬2 < 1 := by decide
theorem ar127 : ¬4 < 1 := by decide
theorem ar129 {a : Nat} : a ≤ a + 1 := by exact Nat.le_succ _
theorem ar130 {a : Nat} {b : Nat} : a + (b + 1 + 1) = a + 2 + b := by simp +arith
theorem ar133 {a : Nat} {b : Nat} : a ≤ b + (a + 1 + 1) - (b + 2) := by simp +arith
theorem ar134 {a : Nat} : 1 ≤ a + 1 := by exact Nat.succ_pos _
theorem ar135 {a : Nat} {b : Nat} (h0 : a ≤ b) : a + 1 ≤ b + 1 := by exact Nat.succ_le_succ (by assumption)
theorem ar136 {a : Nat} {b : Nat} (h0 : 1 ≤ b) (h1 : b ≤ a) (h2 : ¬b = 1) : ¬a = 1 := by lia
theorem ar138 {a : Nat} {b : Nat} (h0 : a ≤ b) : a - 1 ≤ b - 1 := by exact Nat.sub_le_sub_right h0 _
theorem ar139 {a : Nat} (h0 : a = 41) : ¬256 ≤ a := by exact by simp [h0]
theorem ar140 {a : Nat} {b : Nat} {c : Nat} {d : Nat} {e : Nat} (h0 : e < c + 1) (h1 : c < e) : a ≤ if b = 1 then c + 1 else d := by exact absurd h0 (Nat.not_lt.mpr h1)
theorem ar141 {a : Nat} {b : Nat} (h0 : a < b) : a + 1 ≤ b := by assumption
theorem ar142 {a : Nat} (h0 : ¬a = 40) (h1 : a = 40) : 256 ≤ a := by exact absurd h1 h0
theorem ar143 {a : Nat} (h0 : ¬a = 41) (h1 : a = 41) : 256 ≤ a := by exact absurd h1 h0
theorem ar144 {a : Nat} (h0 : 256 ≤ a) : 256 ≤ a := by assumption
theorem ar145 {a : Nat} : ¬(↑a : Int) + (1 : Int) = (0 : Int) := by lia
theorem ar146 {a : Int} {b : Nat} : a + (1 : Int) + (↑b : Int) = a + ((↑b : Int) + (1 : Int)) := by simp +arith
theorem ar147 : ¬41 = 40 := by simp +arith
theorem ar149 {a : Nat} (h0 : ¬a = (1 : Nat)) : ¬(↑a : Int) - (1 : Int) = (0 : Int) := by lia
theorem ar150 {a : Nat} (h0 : ¬a = (1 : Nat)) (h1 : (↑a : Int) - (1 : Int) = (↑(a - (1 : Nat)) : Int)) : (1 : Nat) ≤ a - (1 : Nat) := by lia
theorem ar151 {a : Nat} (h0 : 1 ≤ a) : ¬a = 0 := by exact Nat.ne_of_gt (by assumption)
theorem ar152 {a : Int} {b : Nat} {c : Nat} : a + (↑b : Int) + (↑c : Int) = a + ((↑b : Int) + (↑c : Int)) := by simp +arith
theorem ar153 {a : Nat} (h0 : 256 ≤ a) : ¬a = 40 := by lia
theorem ar154 {a : Nat} (h0 : 256 ≤ a) : ¬a = 41 := by lia
theorem ar155 {a : Nat} (h0 : 256 ≤ a) : ¬a = 46 := by lia
theorem ar156 : ¬256 ≤ 41 := by decide
theorem ar157 {a : Nat} (h0 : 256 ≤ a) : a ≠ 41 := by lia
theorem ar158 {a : Nat} {b : Nat} {c : Nat} {d : Nat} (h0 : c < d + 1) (h1 : d < c) : a ≤ b := by exact absurd h1 (Nat.not_le.mpr h0)
theorem ar160 {a : Nat} {b : Nat} : a - b = a + 1 - b.succ := by simp +arith
theorem ar164 {a : Nat} {b : Prop} (h0 : 256 ≤ a ∧ ¬b) : a ≠ 92 := by lia
theorem ar165 {a : Nat} {b : Prop} (h0 : 256 ≤ a ∧ ¬b) : a ≠ 34 := by lia
theorem ar166 {a : Nat} {b : Prop} (h0 : 256 ≤ a ∧ ¬b) : a ≠ 13 := by lia
theorem ar167 {a : Nat} {b : Prop} (h0 : 256 ≤ a ∧ ¬b) : a ≠ 10 := by lia
theorem ar168 {a : Nat} {b : Prop} (h0 : 256 ≤ a ∧ ¬b) : a ≠ 46 := by lia
theorem ar169 {a : Nat} {b : Nat} (h0 : a + 1 ≤ b) : a < b := by assumption
theorem ar170 {a : Nat} {b : Nat} (h0 : 0 ≤ a ∧ a < 0 + b) : a < b := by exact by simpa +arith using h0
theorem ar171 {a : Nat} {b : Nat} {c : Nat} {d : Nat} (h0 : a ≤ c) (h1 : c ≤ b ∧ b < c + d) : a ≤ b := by lia
theorem ar172 {a : Nat} : a - a = 0 := by exact Nat.sub_self _
theorem ar173 {a : Nat} : a + 1 + 1 - a = 2 := by simp +arith
theorem ar174 {a : Nat} : a + 1 - a = 1 := by simp +arith
theorem ar175 {a : Nat} {b : Nat} {c : Nat} (h0 : a ≤ b) : a ≤ b + c := by exact Nat.le_trans h0 (Nat.le_add_right _ _)
theorem ar176 {a : Nat} (h0 : a ≤ 2) : a ≤ 2 := by assumption
theorem ar177 {a : Nat} (h0 : a ≤ 0) : a = 0 := by exact Nat.eq_zero_of_le_zero h0
theorem ar178 {a : Nat} {b : Nat} (h0 : a ≤ 2 * b) : a + 1 + 1 ≤ 2 * (b + 1 + 1) := by lia
theorem ar179 {a : Nat} {b : Nat} (h0 : a ≤ b) : a ≤ b := by assumption
theorem ar180 {a : Nat} {b : Nat} (h0 : a ≤ 2 * b) : a + 1 + 1 ≤ 2 * (b + 1) := by exact Nat.le_add_of_sub_le h0
theorem ar181 {a : Nat} {b : Nat} (h0 : a ≤ 2 * b) : a + 1 ≤ 2 * (b + 1) := by lia
theorem ar182 {a : Int} (h0 : a ≠ (0 : Int)) : a.natAbs ≠ (0 : Nat) := by exact by simpa +arith using h0
theorem ar184 {a : Nat} {b : Nat} (h0 : a + b ≤ 2 ^ 20) : a + b ≤ 16777216 := by exact Nat.le_trans h0 (Nat.le_add_left _ _)
theorem ar185 {a : Nat} : ¬(↑a : Int) < -(2 : Int) ^ (63 : Nat) := by simp
theorem ar186 {a : Nat} (h0 : a ≤ (1000 : Nat)) : ¬(↑a : Int) ≥ (2 : Int) ^ (63 : Nat) := by lia
theorem ar187 {a : Nat} (h0 : ¬(↑a : Int) < (1 : Int)) : (0 : Int) < (↑a : Int) := by omega
theorem ar188 {a : Nat} (h0 : a ≤ (1000 : Nat)) : (1 : Int) * (↑a : Int) ≤ (2 : Int) ^ (63 : Nat) - (1 : Int) := by lia
theorem ar189 {a : Nat} (h0 : (1 : Int) ≤ ((2 : Int) ^ (63 : Nat) - (1 : Int)) / (↑a : Int)) : ¬(↑(1 : Nat) : Int) > ((2 : Int) ^ (63 : Nat) - (1 : Int)) / (↑a : Int) := by exact by simpa +arith using h0
theorem ar191 {a : Nat} (h0 : (↑a : Int) < (1 : Int)) : a = (0 : Nat) := by exact by simpa +arith using h0
theorem ar192 {a : Nat} (h0 : (↑a : Int) = (1 : Int)) : a = (1 : Nat) := by exact Int.ofNat.inj h0
theorem ar193 {a : Int} (h0 : a ≤ (1000 : Int)) : a ≤ (1000000 : Int) := by lia
theorem ar194 {a : Nat} {b : Nat} {c : Nat} (h0 : a ≤ b) (h1 : b ≤ c) (h2 : c < a) : False := by lia
theorem ar197 {a : Nat} {b : Nat} : a + 1 - (b + 1) = a + 1 - b - 1 := by rfl
theorem ar198 {a : Nat} {b : Nat} (h0 : b + 1 ≤ a) : a - b = a - (b + 1) + 1 := by lia
theorem ar207 {a : Nat} : a - 0 < a + 1 := by exact Nat.lt_succ_self _
theorem ar208 {a : Nat} (h0 : a + 1 ≤ 0) : False := by exact Nat.not_lt_zero _ (by assumption)
theorem ar209 {a : Nat} {b : Nat} (h0 : a + 1 ≤ b + 1) : a ≤ b := by exact Nat.le_of_lt_succ (by assumption)
theorem ar210 : 1 ≤ 2 := by exact Nat.succ_pos _
theorem ar211 : 2 ≤ 2 := by exact Nat.le_refl _
theorem ar212 {a : Nat} {b : Nat} (h0 : a ≤ 2) (h1 : b ≤ 2) : a + b ≤ 5 := by lia
theorem ar213 {a : Nat} : 5 ≤ 5 * (a + 1) := by exact Nat.le_add_left _ _
theorem ar215 {a : Nat} (h0 : a ≤ 5) : a ≤ 5 * (0 + 1) := by assumption
theorem ar216 {a : Nat} {b : Nat} {c : Nat} (h0 : b - a = c + 1) : a + 1 ≤ b := by omega
theorem ar217 {a : Nat} {b : Nat} {c : Nat} (h0 : a ≤ 5) (h1 : b ≤ 5 * (c + 1)) : a + b ≤ 5 * (c + 1 + 1) := by exact by simpa +arith using Nat.add_le_add h0 h1
theorem ar220 {a : Nat} {b : Nat} (h0 : a - b < 1) : a - b = 0 := by exact by simpa +arith using h0
theorem ar221 {a : Nat} {b : Nat} (h0 : b - a < 1) : ¬a < b := by lia
theorem ar222 {a : Nat} : 1 ≤ 5 * (a + 2) := by exact Nat.succ_pos _
theorem ar225 {a : Nat} {b : Nat} {c : Nat} (h0 : c ≥ b) (h1 : c + 1 ≤ a) : ¬a < b := by lia
theorem ar226 {a : Nat} {b : Nat} {c : Prop} (h0 : c ∧ a + 1 ≤ b) : a ≤ b := by lia
theorem ar228 : 1 ≤ 20 := by exact Nat.succ_pos _
theorem ar229 {a : Nat} {b : Nat} (h0 : a ≤ b) (h1 : a = b + 1) : False := by lia
theorem ar231 {a : Nat} {b : Nat} (h0 : a + b ≤ 1) (h1 : 0 < a) (h2 : 0 < b) : False := by lia
theorem ar232 {a : Nat} (h0 : 3 < a) (h1 : a = 1) : False := by lia
theorem ar234 {a : Nat} {b : Nat} (h0 : b + 1 ≤ 1) (h1 : 0 < b) : 0 = a + 1 := by exact absurd h0 (Nat.not_lt.mpr h1)
theorem ar235 {a : Nat} {b : Nat} (h0 : b + 1 ≤ 1) (h1 : 0 < b) : a + 1 = 0 := by exact absurd h0 (Nat.not_lt.mpr h1)
theorem ar236 {a : Nat} (h0 : a + 1 ≤ 1) : a ≤ 1 := by exact Nat.le_of_lt (by assumption)
theorem ar237 {a : Nat} {b : Nat} (h0 : b = a) : a ≤ b := by exact Nat.le_of_eq (Eq.symm h0)
theorem ar239 {a : Nat} {b : Nat} (h0 : a < b) : Min.min a b = a := by lia
theorem ar240 {a : Nat} {b : Nat} {c : Nat} (h0 : c ≤ b) (h1 : a < c) : a ≤ b := by exact Nat.le_trans (Nat.le_of_lt h1) h0
theorem ar242 {a : Nat} {b : Nat} (h0 : b ≤ a) (h1 : a ≤ b) : a = b := by exact Nat.le_antisymm h1 h0
theorem ar244 {a : Nat} {b : Nat} (h0 : a + 210 < b) : a + 1 + (3 + 0) + 0 + 200 < b := by lia
theorem ar246 {a : Nat} {b : Nat} (h0 : a + 220 < b) : a + 1 + 1 + 210 < b := by lia
theorem ar247 {a : Nat} : ¬(↑a : Int) < (0 : Int) := by simp
theorem ar248 {a : Nat} (h0 : a < (1114112 : Nat)) : ¬(↑a : Int) > (1114111 : Int) := by lia
theorem ar249 {a : Nat} (h0 : a ≤ 4 * 0) : a = 0 := by exact Nat.eq_zero_of_le_zero h0
theorem ar250 {a : Nat} (h0 : a ≤ 4) : a + (4 - a) = 4 := by exact Nat.add_sub_cancel' h0
theorem ar251 {a : Nat} {b : Nat} (h0 : a ≤ 4 * (b + 1)) : a - 4 ≤ 4 * b := by exact Nat.sub_le_of_le_add h0
theorem ar253 {a : Nat} (h0 : a ≤ 2 ^ 60) : a ≤ 4 * (2 ^ 64 - 1) := by exact Nat.le_trans h0 (Nat.le_add_left _ _)
theorem ar255 {a : Nat} {b : Nat} {c : Prop} {d : Prop} {e : Prop} {f : Nat} {g : Nat} {h : Nat} {i : Nat} {j : Prop} {k : Prop} (h0 : b - a < 0) (hz : a ≤ b) (hz : c) (hz : d) (hz : e) (hz : f + 2 * 0 ≤ g) (hz : h + i ≤ g) (hz : j) : k := by exact by simpa +arith using h0
theorem ar258 {a : Nat} {b : Nat} {c : Nat} {d : Nat} (h0 : d + 2 * (b + 1) ≤ c) (h1 : a ≤ d + 1) : a + 1 + 2 * b ≤ c := by exact by simpa +arith using Nat.add_le_add h1 h0
theorem ar259 {a : Nat} {b : Nat} {c : Nat} {d : Nat} {e : Nat} {f : Nat} {g : Nat} (h0 : a + (Min.min (b - c) (d - c) + (e + f)) ≤ g) : a + (Min.min (b - c) (d - c) + e) + f ≤ g := by exact by simpa +arith using h0
theorem ar260 {a : Nat} {b : Nat} {c : Nat} (h0 : a + 2 * (c + 1) ≤ b) : a ≤ b := by exact Nat.le_of_add_right_le h0
theorem ar261 {a : Nat} {b : Nat} (h0 : a ≤ b) (h1 : ¬a < b) : a = b := by lia
theorem ar265 {a : Nat} {b : Nat} (h0 : a < b) : a < b ∧ 1 ≤ 1 ∧ a + 1 ≤ b := by lia
theorem ar266 {a : Nat} {b : Nat} {c : Nat} (h0 : a ≤ c) (h1 : c = 1048576) (h2 : b = 16777216) : a ≤ b := by lia
theorem ar268 {a : Nat} {b : Nat} (h0 : (↑a : Int) = (↑b : Int)) : a = b := by exact Int.ofNat.inj h0
theorem ar270 {a : Nat} {b : Nat} {c : Nat} (h0 : a + (b + 1) < c) : a + 1 + b < c := by exact by simpa +arith using h0
theorem ar271 {a : Nat} {b : Nat} {c : Nat} (h0 : a + 3 * (b + 1) + 300 < c) : a + 3 + 3 * b + 300 < c := by exact by simpa +arith using h0
theorem ar272 {a : Nat} {b : Nat} {c : Nat} (h0 : a + (c + 1) < b) : a < b := by exact Nat.lt_of_add_right_lt h0
theorem ar273 {a : Nat} {b : Nat} {c : Nat} (h0 : a + (b + 1) < c) : a + b < c := by exact Nat.le_of_lt (by assumption)
theorem ar275 {a : Nat} {b : Nat} {c : Nat} (h0 : a + 3 * (c + 1) + 300 < b) : a + 220 < b := by lia
theorem ar276 {a : Nat} (h0 : a ≤ 2 ^ 20) : a ≤ 16777216 := by exact Nat.le_trans h0 (Nat.le_add_left _ _)
theorem ar278 {a : Nat} {b : Nat} (h0 : a ≤ 2 ^ 20) : a + b * 0 ≤ 16777216 := by exact Nat.le_trans h0 (Nat.le_add_left _ _)
theorem ar286 {a : Int} (h0 : (0 : Int) ≤ a) : (0 : Int) ≤ a := by assumption
theorem ar288 {a : Int} {b : Int} (h0 : (0 : Int) ≤ b) (h1 : b ≤ a) : (0 : Int) ≤ a := by lia
theorem ar289 {a : Int} {b : Nat} (h0 : a ≤ (↑b : Int)) (h1 : (↑b : Int) = (1048576 : Int)) : a ≤ (1048577 : Int) := by lia
theorem ar290 : (0 : Int) ≤ (1 : Int) := by exact Int.ofNat_nonneg _
theorem ar291 : (1 : Int) ≤ (1048577 : Int) := by exact Int.ofNat_nonneg _
theorem ar292 {a : Int} {b : Int} : (0 : Int) ≤ (↑(a - b).toNat : Int) := by exact Int.ofNat_nonneg _
theorem ar294 {a : Int} {b : Int} (h0 : (0 : Int) ≤ b) (h1 : b ≤ a) : (0 : Int) ≤ a + ((1 : Int) - (1 : Int)) := by lia
theorem ar295 {a : Int} {b : Nat} (h0 : a ≤ (↑b : Int)) (h1 : (↑b : Int) = (1048576 : Int)) : a + ((1 : Int) - (1 : Int)) ≤ (1048577 : Int) := by lia
theorem ar296 {a : Nat} {b : Nat} : (↑(a + (1 : Nat) + b) : Int) = (↑(a + (b + (1 : Nat))) : Int) := by simp only [Nat.add_comm, Nat.add_left_comm, Nat.add_assoc]
theorem ar297 {a : Nat} {b : Nat} : a + (b + 1) = a + 1 + b := by simp only [Nat.add_comm, Nat.add_left_comm, Nat.add_assoc]
theorem ar299 {a : Int} (h0 : ¬(0 : Int) ≤ a) : a < (0 : Int) := by lia
theorem ar300 {a : Int} (h0 : a < (2 : Int) ^ (62 : Nat)) : a < (2 : Int) ^ (63 : Nat) := by lia
theorem ar301 {a : Nat} {b : Int} (h0 : (0 : Int) ≤ b + (↑a : Int)) : -(↑a : Int) ≤ b := by exact by simpa +arith using h0
theorem ar302 {a : Int} (h0 : -(2 : Int) ^ (62 : Nat) < a) : -(2 : Int) ^ (63 : Nat) ≤ a := by lia
theorem ar303 {a : Int} (h0 : (0 : Int) ≤ a) : -(2 : Int) ^ (63 : Nat) ≤ a := by lia
theorem ar304 {a : Int} (h0 : (0 : Int) ≤ a) : ¬a < (0 : Int) := by exact by simp [h0]
theorem ar306 {a : Int} (h0 : a < (0 : Int)) : a < (2 : Int) ^ (63 : Nat) := by lia
theorem ar311 {a : Int} {b : Nat} {c : Nat} (h0 : a = (↑c : Int)) (h1 : a < (0 : Int)) : Max.max (0 : Int) (Min.min (a + (↑b : Int)) (↑b : Int)) = (↑(Min.min c b) : Int) := by lia
theorem ar314 {a : Nat} {b : Nat} (h0 : ¬b ≤ a) : a ≤ b := by lia
theorem ar316 {a : Nat} {b : Nat} (h0 : b ≤ 2 ^ 20) (h1 : a = b) : a ≤ 16777216 := by lia
theorem ar321 {a : Nat} : (0 : Int) ≤ (↑a : Int) := by exact Int.ofNat_nonneg _
theorem ar323 {a : Nat} : ¬(0 : Int) ≤ -(↑a : Int) - (1 : Int) := by simp +arith
theorem ar324 {a : Nat} : (-(-(↑a : Int) - (1 : Int)) - (1 : Int)).toNat = a := by simp +arith
theorem ar326 {a : Nat} {b : Nat} {c : Nat} (h0 : b < c) (h1 : a ≥ c) : ¬a = b := by lia
theorem ar327 {a : Nat} {b : Nat} (h0 : a < b) : a < 0 + b := by exact Nat.lt_of_lt_of_le h0 (Nat.le_add_left _ _)
theorem ar330 {a : Nat} (h0 : a + 1 ≤ 9) : a ≤ 9 := by exact Nat.le_of_lt (by assumption)
theorem ar331 {a : Nat} : 90 * (a + 1) = 90 * a + 90 := by rfl
theorem ar332 {a : Nat} (h0 : a ≤ 9) : 90 * a ≤ 810 := by exact Nat.mul_le_mul_left _ h0
theorem ar333 {a : Nat} {b : Nat} {c : Nat} (h0 : a ≤ b) (h1 : b ≤ 2 ^ (90 * c)) (h2 : 2 ^ (90 * c) ≤ 2 ^ 810) : a < 2 ^ 4000 := by lia
theorem ar334 {a : Nat} {b : Nat} {c : Nat} (h0 : b = a + (c + 1)) : a < b := by exact by simp [h0]
theorem ar335 {a : Nat} (h0 : 2 ≤ a) : 0 < a := by exact Nat.le_of_lt (by assumption)
theorem ar336 {a : Nat} (h0 : a ≤ 9) : a ≤ 2 ^ 20 := by exact Nat.le_trans h0 (Nat.le_add_left _ _)
theorem ar337 {a : Nat} (h0 : a ≤ 512) : a ≤ 2 ^ 20 := by exact Nat.le_trans h0 (Nat.le_add_left _ _)
theorem ar340 {a : Nat} (h0 : a ≤ 512) : a < 2 ^ 20 := by exact Nat.lt_of_le_of_lt (by assumption) (by decide)
theorem ar341 {a : Nat} {b : Nat} (h0 : b ≤ 9) (h1 : a < b) : a < 2 ^ 60 := by exact Nat.lt_of_lt_of_le h1 (Nat.le_trans h0 (by decide))
theorem ar342 {a : Nat} {b : Nat} (h0 : b ≤ (9 : Nat)) (h1 : a < b) : (↑a : Int) ≤ (1000 : Int) := by lia
theorem ar343 {a : Nat} {b : Nat} (h0 : b ≤ 9) (h1 : a < b) : a ≤ 9 := by exact Nat.le_trans (Nat.le_of_lt h1) h0
theorem ar345 {a : Nat} {b : Nat} {c : Nat} (h0 : b ≤ 9) (h1 : a ≤ c) (h2 : c < b) : a ≤ 9 := by lia
theorem ar346 {a : Nat} {b : Nat} (h0 : a ^ b ≤ 1000 ^ b) (h1 : 1000 ^ b ≤ 1000 ^ 9) : a ^ b ≤ 2 ^ 90 := by exact Nat.le_trans h0 (Nat.le_trans h1 (by decide))
theorem ar347 {a : Nat} {b : Nat} {c : Nat} (h0 : b ≤ (9 : Nat)) (h1 : a ≤ c) (h2 : c < b) : (↑a : Int) ≤ (1000 : Int) := by lia
theorem ar348 {a : Nat} (h0 : a ≤ 1000) : a < 2 ^ 64 := by exact Nat.lt_of_le_of_lt (by assumption) (by decide)
theorem ar349 {a : Nat} {b : Nat} {c : Nat} {d : Nat} {e : Nat} {f : Nat} {g : Nat} : a + b * c * (d ^ e * f) + b * c * g = a + (b * c * (d ^ e * f) + b * c * g) := by exact Nat.add_assoc _ _ _
theorem ar350 {a : Nat} {b : Nat} (h0 : a + b = b) : a = 0 := by exact by simpa +arith using h0
theorem ar351 {a : Nat} : 0 ≤ a := by exact Nat.zero_le _
theorem ar352 {a : Nat} (h0 : a ≠ (0 : Nat)) : (↑a : Int) ≠ (0 : Int) := by exact by simpa +arith using h0
theorem ar353 {a : Nat} (h0 : (0 : Nat) < a) : (0 : Int) ≤ (-1 : Int) + (↑a : Int) := by lia
theorem ar355 {a : Nat} (h0 : 0 < a) : a - 1 < a := by exact Nat.sub_one_lt_of_lt h0
theorem ar357 {a : Nat} {b : Int} (h0 : (0 : Int) ≤ b) : (0 : Int) ≤ (↑a : Int) + b := by lia
theorem ar358 {a : Nat} (h0 : a ≤ 63) : a ≤ 2 ^ 20 := by exact Nat.le_trans h0 (Nat.le_add_left _ _)
theorem ar359 {a : Nat} (h0 : a < 7) : a < 2 ^ 60 := by exact Nat.lt_of_lt_of_le h0 (Nat.le_add_left _ _)
theorem ar360 {a : Nat} (h0 : a < 7) : a + 1 < 2 ^ 60 := by exact Nat.lt_of_le_of_lt (by assumption) (by decide)
theorem ar363 {a : Nat} (h0 : a = 0) : a = 0 := by assumption
theorem ar364 {a : Nat} (h0 : a < 7) : a ≤ 7 := by exact Nat.le_of_lt (by assumption)
theorem ar365 {a : Nat} (h0 : a ≤ 2) : a ≤ 2 ^ 20 := by exact Nat.le_trans h0 (Nat.le_add_left _ _)
theorem ar366 {a : Nat} (h0 : (0 : Int) < (↑a : Int)) : (0 : Nat) < a := by exact Int.ofNat_lt.mp (by assumption)
theorem ar367 {a : Nat} (h0 : 1 ≤ a) : 0 < a := by assumption
theorem ar368 {a : Nat} {b : Nat} (h0 : b < 7) (h1 : a ≤ b) : a ≤ 1000 := by lia
theorem ar372 : 0 < 2 ^ 60 := by exact Nat.succ_pos _
theorem ar373 {a : Nat} {b : Nat} {c : Nat} (h0 : c < 7) (h1 : b ≤ c) (h2 : a ≤ 20) : a + b ≤ 2 ^ 20 := by lia
theorem ar374 {a : Nat} (h0 : (0 : Nat) < a) : ¬(↑a : Int) = (0 : Int) := by lia
theorem ar376 {a : Prop} {b : Prop} {c : Nat} (h0 : 0 < c) (h1 : c = 0) : a ∧ b := by lia
theorem ar378 {a : Nat} {b : Nat} (h0 : b % 6 = 0 ∧ a = 1) : a ≤ 2 := by exact by simp [h0]
theorem ar379 {a : Nat} (h0 : ¬(0 : Int) < (↑a : Int)) : a = (0 : Nat) := by exact by simpa +arith using h0
theorem ar380 {a : Nat} {b : Nat} {c : Nat} (h0 : a = 0) (h1 : b + 1 ≤ a ∧ c + 1 ≤ a) : False := by lia
theorem ar383 {a : Nat} {b : Nat} (h0 : a ≤ 200) (h1 : b ≤ 2) : a + b ≤ 2 ^ 20 := by lia
theorem ar384 {a : Nat} (h0 : a ≤ 2) : a < 2 ^ 20 := by exact Nat.lt_of_le_of_lt (by assumption) (by decide)
theorem ar385 {a : Nat} (h0 : a ≠ 0) : 0 < a := by exact Nat.pos_of_ne_zero (by assumption)
theorem ar388 {a : Nat} : a + 1 ≤ a + 1 := by exact Nat.lt_succ_self _
theorem ar389 {a : Nat} (h0 : (0 : Nat) < a) : (↑a : Int) - (1 : Int) = (↑(a - (1 : Nat)) : Int) := by lia
theorem ar390 {a : Nat} : a - 1 ≤ a + 1 := by simp +arith
theorem ar392 {a : Nat} (h0 : 1 ≤ a) : a - 1 < a := by exact Nat.sub_one_lt_of_lt h0
theorem ar393 {a : Nat} {b : Nat} (h0 : a ≤ 150) (h1 : b ≤ 4) : a + b ≤ 2 ^ 20 := by lia
theorem ar394 {a : Nat} {b : Nat} (h0 : b ≤ 1) (h1 : a ≤ 20) : a + b ≤ 2 ^ 20 := by lia
theorem ar395 {a : Nat} (h0 : (1 : Nat) ≤ a) : (-1 : Int) + (↑a : Int) = (↑(a - (1 : Nat)) : Int) := by lia
theorem ar396 : 7 ≤ 7 := by exact Nat.le_refl _
theorem ar397 {a : Nat} (h0 : a ≤ 7) : a ≤ 1000 := by exact Nat.le_trans h0 (Nat.le_add_left _ _)
theorem ar398 {a : Nat} {b : Nat} (h0 : b ≤ 7) (h1 : a ≤ 20) : a + b ≤ 2 ^ 20 := by lia
theorem ar399 {a : Nat} {b : Nat} (h0 : a ≤ 150) (h1 : b ≤ 7) : a + b ≤ 2 ^ 20 := by lia
theorem ar400 {a : Nat} {b : Nat} : ((↑a : Int) + (↑b : Int)).toNat = a + b := by rfl
theorem ar401 {a : Nat} {b : Nat} {c : Nat} (h0 : a < b ∧ b < c) : a < b ∧ b < c := by assumption
theorem ar402 {a : Nat} {b : Nat} : a + (b + 1) = a + b + 1 := by rfl
theorem ar404 {a : Nat} {b : Nat} (h0 : b ≤ 6) (h1 : a ≤ 2 + b) : a ≤ 8 := by exact by simpa +arith using Nat.add_le_add h0 h1
theorem ar405 {a : Nat} {b : Nat} (h0 : b ≤ 6) (h1 : a ≤ 2 + b) : a ≤ 9 := by lia
theorem ar406 {a : Nat} (h0 : a ≤ 100) : a ≤ 300 := by exact Nat.le_trans h0 (Nat.le_add_left _ _)
theorem ar407 {a : Nat} {b : Nat} {c : Nat} (h0 : b + c ≤ 5) (h1 : a ≤ 2 + b) : a ≤ 8 := by lia
theorem ar408 {a : Nat} {b : Nat} {c : Nat} (h0 : b + c ≤ 5) (h1 : a ≤ 2 + c) : a ≤ 8 := by lia
theorem ar410 {a : Nat} {b : Nat} (h0 : a ≤ 100) (h1 : b ≤ 100) : a + (b + 1 + 1) ≤ 300 := by lia
theorem ar411 {a : Int} (h0 : (0 : Int) ≤ a) : (0 : Int) ≤ (2 : Int) + a := by lia
theorem ar414 {a : Nat} (h0 : a ≤ 174) : a ≤ 2 ^ 20 := by exact Nat.le_trans h0 (Nat.le_add_left _ _)
theorem ar415 {a : Nat} {b : Nat} (h0 : b ≤ 174) (h1 : a ≤ 2 * b) : a ≤ 2 ^ 20 := by lia
theorem ar418 {a : Nat} (h0 : a ≤ 300) : a ≤ 2 ^ 20 := by exact Nat.le_trans h0 (Nat.le_add_left _ _)
theorem ar420 {a : Nat} (h0 : a ≤ 8) : a ≤ 2 ^ 20 := by exact Nat.le_trans h0 (Nat.le_add_left _ _)
theorem ar421 {a : Nat} {b : Nat} (h0 : b < 2) (h1 : a ≤ 8 * b) : a ≤ 2 ^ 20 := by lia
theorem ar423 {a : Nat} {b : Nat} : (0 : Int) ≤ (↑a : Int) + (↑b : Int) := by exact Int.ofNat_nonneg _
theorem ar425 {a : Nat} {b : Nat} (h0 : b ≤ 8) (h1 : a ≤ b) : a ≤ 2 ^ 20 := by exact Nat.le_trans h1 (Nat.le_trans h0 (by decide))
theorem ar426 {a : Nat} (h0 : a < 100) : a < 2 ^ 20 := by exact Nat.lt_of_lt_of_le h0 (Nat.le_add_left _ _)
theorem ar427 {a : Nat} {b : Nat} {c : Nat} (h0 : a ≤ 8 * c) (h1 : b ≤ 8) : a + b ≤ 8 * (c + 1) := by exact Nat.add_le_add h0 h1
theorem ar428 {a : Nat} (h0 : a ≤ 23) : a ≤ 100 := by exact Nat.le_trans h0 (Nat.le_add_left _ _)
theorem ar429 {a : Nat} {b : Nat} (h0 : b ≤ 23) (h1 : a ≤ b) : a ≤ 2 ^ 20 := by exact Nat.le_trans h1 (Nat.le_trans h0 (by decide))
theorem ar430 {a : Nat} {b : Nat} (h0 : b ≤ 9) (h1 : a = b) : a ≤ 9 := by exact Nat.le_trans (Nat.le_of_eq h1) h0
theorem ar432 {a : Nat} (h0 : (0 : Nat) < a ∧ a ≤ (9 : Nat)) : (↑a : Int) ≤ (↑((2 : Nat) ^ (20 : Nat)) : Int) := by lia
theorem ar433 {a : Nat} : (0 : Int) ≤ (0 : Int) + (↑a : Int) := by exact Int.ofNat_nonneg _
theorem ar434 {a : Nat} {b : Nat} (h0 : (0 : Nat) < b ∧ b ≤ (9 : Nat)) (h1 : a < b) : (0 : Int) + (↑a : Int) ≤ (1000 : Int) := by lia
theorem ar435 {a : Nat} (h0 : 0 < a ∧ a ≤ 9) : a ≤ 2 ^ 20 := by lia
theorem ar436 {a : Nat} : (0 : Int) ≤ (↑a : Int) + (1 : Int) := by exact Int.ofNat_nonneg _
theorem ar437 {a : Nat} {b : Nat} (h0 : b ≤ (9 : Nat)) (h1 : a < b) : (↑a : Int) + (1 : Int) ≤ (↑((2 : Nat) ^ (20 : Nat)) : Int) := by lia
theorem ar438 {a : Nat} : ((↑a : Int) + (1 : Int)).toNat = a + (1 : Nat) := by rfl
theorem ar439 {a : Nat} {b : Nat} {c : Nat} (h0 : b ≤ (9 : Nat)) (h1 : c < b) (h2 : a < c + (1 : Nat)) : (0 : Int) + (↑a : Int) ≤ (1000 : Int) := by lia
theorem ar440 {a : Nat} {b : Nat} (h0 : b ≤ 9) (h1 : a < b) : a + 1 ≤ 2 ^ 20 := by exact Nat.lt_of_lt_of_le h1 (Nat.le_trans h0 (by decide))
theorem ar441 {a : Nat} {b : Nat} (h0 : b ≤ 9) (h1 : a < b) : a + 1 ≤ 9 := by exact Nat.lt_of_lt_of_le h1 h0
theorem ar442 {a : Nat} : -(2 : Int) ^ (62 : Nat) < (↑a : Int) := by exact Int.ofNat_nonneg _
theorem ar443 {a : Nat} (h0 : a < (2 : Nat) ^ (60 : Nat)) : (↑a : Int) < (2 : Int) ^ (62 : Nat) := by lia
theorem ar444 {a : Nat} (h0 : a ≤ 2 ^ 20) : a < 2 ^ 60 := by exact Nat.lt_of_le_of_lt (by assumption) (by decide)
theorem ar445 {a : Nat} {b : Nat} {c : Nat} {d : Nat} : a + b + c + d - 1 = a + (b + c) + d - 1 := by simp only [Nat.add_assoc]
theorem ar446 {a : Nat} {b : Nat} {c : Nat} (h0 : a ≤ c) : a ≤ b + c := by exact Nat.le_trans h0 (Nat.le_add_left _ _)
theorem ar447 {a : Nat} {b : Nat} {c : Nat} (h0 : b ≤ c) : a + b ≤ a + c := by exact Nat.add_le_add_left h0 _
theorem ar448 {a : Nat} {b : Nat} (h0 : b ≤ 300) (h1 : a ≤ b) : a ≤ 2 ^ 20 := by exact Nat.le_trans h1 (Nat.le_trans h0 (by decide))
theorem ar449 {a : Nat} {b : Nat} {c : Nat} : a + (b + c) = a + b + c := by exact (Nat.add_assoc _ _ _).symm
theorem ar450 {a : Nat} {b : Nat} (h0 : a ≤ b) : a ≤ b + (0 + 1) := by exact Nat.le_succ_of_le (by assumption)
theorem ar451 {a : Nat} {b : Nat} {c : Nat} (h0 : a ≤ c) (h1 : b = 0 + c + (0 + 1) - 1) : a ≤ b := by exact by simp [h0, h1]
theorem ar452 {a : Nat} {b : Nat} {c : Nat} (h0 : a = 0 + b + (0 + 1) - 1) : a ≤ b + c := by exact by simp [h0]
theorem ar453 {a : Nat} {b : Nat} (h0 : a = 0 + b + (0 + 1) - 1) : a = b := by exact by simpa +arith using h0
theorem ar457 {a : Nat} {b : Nat} {c : Nat} (h0 : c ≤ b) (h1 : a ≤ c + 1) : a ≤ b + (0 + 1) := by exact Nat.le_trans h1 (Nat.add_le_add_right h0 _)
theorem ar458 {a : Nat} {b : Nat} (h0 : b ≤ 300) (h1 : a ≤ b) : a < 2 ^ 60 := by lia
theorem ar459 {a : Nat} {b : Nat} {c : Nat} (h0 : b ≤ 300) (h1 : c ≤ b) (h2 : a ≤ c) : a < 2 ^ 20 := by lia
theorem ar460 {a : Nat} {b : Nat} (h0 : a ≤ b) (h1 : ¬(↑a : Int) < (↑b : Int)) : a = b := by lia
theorem ar461 {a : Nat} {b : Nat} {c : Nat} {d : Nat} (h0 : b ≤ 300) (h1 : c ≤ b) (h2 : d ≤ c) (h3 : a ≤ d + 1) : a ≤ 2 ^ 20 := by lia
theorem ar462 {a : Nat} {b : Nat} {c : Nat} (h0 : b ≤ 300) (h1 : a ≤ c) (h2 : c ≤ b) : a ≤ 2 ^ 20 := by lia
theorem ar463 {a : Nat} {b : Nat} (h0 : (↑a : Int) < (↑b : Int)) : a < b := by exact Int.ofNat_lt.mp (by assumption)
theorem ar464 {a : Nat} (h0 : a ≤ 300) : a < 2 ^ 60 := by exact Nat.lt_of_le_of_lt (by assumption) (by decide)
theorem ar465 {a : Nat} (h0 : a ≤ 300) : a + 1 < 2 ^ 60 := by lia
theorem ar467 {a : Nat} {b : Nat} (h0 : a < b) : (↑a : Int) < (↑b : Int) := by exact Int.ofNat_lt.mpr (by assumption)
theorem ar468 {a : Nat} {b : Nat} {c : Nat} : a + b + c = a + (b + c) := by exact Nat.add_assoc _ _ _
theorem ar469 {a : Nat} {b : Nat} {c : Nat} : a ≤ a + b ∧ a + b < a + (b + (0 + 1 + c)) := by simp +arith
theorem ar470 {a : Nat} {b : Nat} {c : Nat} (h0 : b ≤ c) (h1 : a ≤ 1) : a + b ≤ c + 1 := by exact by simpa +arith using Nat.add_le_add h1 h0
theorem ar471 {a : Nat} (h0 : ¬a ≤ (1 : Nat)) : ¬(↑a : Int) - (1 : Int) < (0 : Int) := by lia
theorem ar473 {a : Nat} (h0 : ¬a ≤ (1 : Nat)) : (↑a : Int) - (1 : Int) = (↑(a - (1 : Nat)) : Int) := by lia
theorem ar474 {a : Nat} {b : Nat} {c : Nat} {d : Prop} (h0 : c = 40) : ¬(a < b ∧ c = 41 ∧ d) := by exact by simp [h0]
theorem ar475 {a : Nat} (h0 : (0 : Nat) < a) : ¬(↑a : Int) - (1 : Int) < (0 : Int) := by lia
theorem ar477 {a : Nat} (h0 : 0 < a) (h1 : ¬a = 1) : ¬a ≤ 1 := by lia
theorem ar478 {a : Nat} {b : Nat} {c : Nat} {d : Prop} (h0 : ¬c = 41) : ¬(a < b ∧ c = 41 ∧ d) := by exact by simp [h0]
theorem ar479 {a : Nat} (h0 : a < (2 : Nat) ^ (60 : Nat)) : (-4611686018427387904 : Int) < (↑a : Int) ∧ (↑a : Int) < (4611686018427387904 : Int) := by lia
theorem ar481 {a : Nat} {b : Nat} {c : Nat} : (↑(a + b + c) : Int) - (1 : Int) = (↑(a + (b + c)) : Int) - (1 : Int) := by simp only [Nat.add_assoc]
theorem ar482 {a : Nat} {b : Nat} : a ≤ a + b := by exact Nat.le_add_right _ _
theorem ar483 {a : Nat} {b : Nat} {c : Nat} {d : Nat} (h0 : b = c + 1 + d) (h1 : c + 1 ≤ a ∧ a < c + 1 + d) : a < b := by exact by simp [h0, h1]
theorem ar485 {a : Nat} {b : Nat} (h0 : a < b) (h1 : b < a) : False := by exact by simpa +arith using Nat.add_le_add h0 h1
theorem ar486 {a : Nat} : 0 + (a + (0 + 0 + 1)) + 1 = 1 + a + 1 := by exact Nat.add_right_comm _ _ _
theorem ar487 {a : Nat} {b : Nat} (h0 : b = 0 + a) : a = b := by exact by simp [h0]
theorem ar491 {a : Nat} {b : Nat} {c : Nat} {d : Prop} (h0 : b < a) : ¬(a < b ∧ c = 41 ∧ d) := by lia
theorem ar492 {a : Nat} {b : Nat} {c : Nat} (h0 : a + 1 ≤ b ∧ b < a + 1 + c) : a < b := by exact h0.1
theorem ar493 {a : Nat} {b : Nat} (h0 : b ≤ a) : (0 : Int) ≤ (↑a : Int) - (↑b : Int) := by exact by simp [h0]
theorem ar494 {a : Nat} {b : Nat} (h0 : a ≤ (300 : Nat)) : (↑a : Int) - (↑b : Int) ≤ (↑((2 : Nat) ^ (20 : Nat)) : Int) := by lia
theorem ar495 {a : Nat} {b : Nat} : ((↑a : Int) - (↑b : Int)).toNat = a - b := by simp
theorem ar497 {a : Nat} : (0 : Int) + (↑a : Int) + (1 : Int) = (↑(a + (1 : Nat)) : Int) := by simp +arith
theorem ar500 {a : Nat} {b : Nat} (h0 : a = b + (0 + 1) - 1) : a = b := by assumption
theorem ar501 {a : Nat} {b : Nat} {c : Nat} {d : Nat} (h0 : b ≤ 300) (h1 : c ≤ b) (h2 : d ≤ c) (h3 : a ≤ d) : a < 2 ^ 20 := by lia
theorem ar502 {a : Nat} {b : Nat} : a - b ≤ a := by exact Nat.sub_le _ _
theorem ar503 {a : Nat} {b : Nat} {c : Nat} (h0 : b ≤ 300) (h1 : c ≤ b) (h2 : a ≤ c) : a ≤ 300 := by lia
theorem ar504 {a : Nat} {b : Nat} (h0 : b ≤ 300) (h1 : a < b) : a ≤ 300 := by exact Nat.le_trans (Nat.le_of_lt h1) h0
theorem ar505 {a : Nat} {b : Nat} {c : Nat} (h0 : b ≤ 300) (h1 : c ≤ b) (h2 : a ≤ c) : a ≤ 2 ^ 20 := by lia
theorem ar507 {a : Nat} (h0 : (256 : Int) ≤ (↑a : Int)) : (256 : Nat) ≤ a := by exact Int.ofNat_lt.mp (by assumption)
theorem ar508 {a : Nat} (h0 : ¬(256 : Int) ≤ (↑a : Int)) : ¬(256 : Nat) ≤ a := by lia
theorem ar509 {a : Nat} (h0 : a ≤ 100) : a ≤ 2 ^ 20 := by exact Nat.le_trans h0 (Nat.le_add_left _ _)
theorem ar510 {a : Nat} {b : Nat} (h0 : a = 0 + b) : a = b := by exact by simpa +arith using h0
theorem ar511 {a : Nat} {b : Nat} {c : Nat} (h0 : a ≤ c) : a - b ≤ c := by exact Nat.le_trans (Nat.sub_le _ _) h0
theorem ar512 {a : Nat} {b : Nat} {c : Nat} (h0 : b ≤ 100) (h1 : a ≤ c) (h2 : c < b) : a < 2 ^ 20 := by lia
end Mine
end
section
open PySem PySem.W PyProof.Rows
set_option maxRecDepth 100000
namespace Mine
noncomputable abbrev pw : Program := PySem.Challenge.pw_sh0013_01
noncomputable def keepL : List Nat := [0,2,3,4,6,7,8,9,11,12,14,15,16,17,19,20,21,22,23,24]
noncomputable def q : Program := view pw keepL
noncomputable def loose : List Str := ["_twin_re_1", "_twin_re_2", "b1_set"]
noncomputable def Xt (s : Shared) : Bool := xlAt q [] s && recOk [] s
noncomputable def obs (s : Shared) : List (Option Obj) × List (Option Value) :=
  ([57, 62, 77, 56, 61].map s.heap.get?, loose.map (s.heap.nsMap mainGlobals))
noncomputable def codes1 : List Int := [14, 4, 0, 1, 1, 6, 1, 16, 46, 1]
noncomputable def codes2 : List Int := [14, 9, 4, 1, 2, 16, 10, 16, 13, 0, 7, 7, 16, 13, 16, 10, 15, 18, 5, 16, 10, 15, 13, 11, 16, 13, 5, 5, 0, 16, 10, 1, 15, 2, 0, 1]
noncomputable def codesObj (l : List Int) : Obj := { cls := .type "tuple", data := .seq (l.map fun i => Value.int i 0).toArray 0 }
noncomputable def pat1 : Obj := { cls := .type "re.Pattern", data := .fields #[.str ⟨#[40, 63, 109, 41, 94, 92, 46]⟩ 319, .int 40 332, .int 0 0, .none, .none, .ref 56, .int 0 0] }
noncomputable def pat2 : Obj := { cls := .type "re.Pattern", data := .fields #[.str ⟨#[40, 63, 58, 92, 114, 92, 110, 124, 92, 110, 124, 92, 114, 40, 63, 33, 92, 110, 41, 41]⟩ 335, .int 32 374, .int 0 0, .none, .none, .ref 61, .int 0 0] }
noncomputable def b1Rows : List (Nat × Nat) := [(65024, 403), (65025, 404), (65026, 405), (65027, 406), (65028, 407), (65029, 408), (6150, 389), (65030, 409), (65031, 410), (65032, 411), (65033, 412), (6155, 390), (6156, 391), (6157, 392), (8203, 393), (8204, 394), (8205, 395), (65034, 413), (65035, 414), (65036, 415), (65037, 416), (65038, 417), (65039, 418), (173, 387), (847, 388), (8288, 396), (65279, 397)]
noncomputable def b1Entries : Array (Int × Value) := (b1Rows.map fun p => ((p.1 : Int), Value.int (p.1 : Int) p.2)).toArray
noncomputable def b1Table (led : Bool) : SetTable := { mask := 127, place := #[0, 1, 2, 3, 4, 5, 6, 7, 8, 9, 10, 11, 12, 13, 14, 15, 16, 17, 18, 19, 20, 21, 22, 45, 79, 96, 127], dummies := #[], finger := 0, led := led, moves := 2, plain := true }
noncomputable def b1Obj (led : Bool) : Obj := { cls := .type "set", data := .set b1Entries 29 (b1Table led) }
noncomputable def val (w : World) : List (Option Obj) × List (Option Value) :=
  ([some pat1, some pat2, some (b1Obj (!w.params.followText "set-order")), some (codesObj codes1), some (codesObj codes2)], [some (.ref 57), some (.ref 62), some (.ref 77)])
noncomputable def N : Nat := 3378

theorem tw_open (p : Program) (w : World) (N : Nat) : openEnds treeTable p w N =
   ((Fast.tw10274390034422433532 Fast.tw14364793385576792824 (opening p) w N (Fast.tw1435165496053646825 (opening p)).1 (Fast.tw1435165496053646825 (opening p)).2).bind (Fast.tw14289696077712309145 p)).bind
    (fun s₀ => match s₀.heap.isNs mainGlobals && s₀.gens.size == 0 with
  | true => (Fast.tw14082659384304107361 Fast.tw14364793385576792824 p w s₀.heap.objs.size (s₀.heap.nsMap mainGlobals "__annotations__") N s₀ (topStub p)).bind fun s₁ => match staticsOk (importedModules p.main.body) s₀.heap s₁.heap && namesBound p s₁.heap && gensDone s₁ && laidKept s₀.heap s₁.heap with
      | true => some s₁
      | false => none
  | false => none) := by
  unfold openEnds fencedOpening topFrom
  rw [Fast.te14082659384304107361, Fast.te14364793385576792824, Fast.te10274390034422433532, Fast.te14289696077712309145, Fast.te1435165496053646825]; rfl
noncomputable def openF (w : World) : Option Shared := 
   ((Fast.tw10274390034422433532 Fast.tw14364793385576792824 (opening pw) w N (Fast.tw1435165496053646825 (opening pw)).1 (Fast.tw1435165496053646825 (opening pw)).2).bind (Fast.tw14289696077712309145 pw)).bind
    (fun s₀ => match s₀.heap.isNs mainGlobals && s₀.gens.size == 0 with
  | true => (Fast.tw14082659384304107361 Fast.tw14364793385576792824 pw w s₀.heap.objs.size (s₀.heap.nsMap mainGlobals "__annotations__") N s₀ (topStub pw)).bind fun s₁ => match staticsOk (importedModules pw.main.body) s₀.heap s₁.heap && namesBound pw s₁.heap && gensDone s₁ && laidKept s₀.heap s₁.heap with
      | true => some s₁
      | false => none
  | false => none)
theorem leftF (w : World) : (openF (w.withFollow "special-get-raises" false)).map (fun s => (Fast.tw4187177175401517315 q loose (importedModules pw.main.body) Xt true s, obs s)) = some (openGood q loose, val (w.withFollow "special-get-raises" false)) := by
  kernel_rfl!
theorem leftT (w : World) : (openF (w.withFollow "special-get-raises" true)).map (fun s => (Fast.tw4187177175401517315 q loose (importedModules pw.main.body) Xt true s, obs s)) = some (openGood q loose, val (w.withFollow "special-get-raises" true)) := by
  kernel_rfl!
theorem left : LeftO pw q loose Xt obs val N := by
  refine byRow2 "special-get-raises" (P := fun w => (openEnds treeTable pw w N).map (fun s => (openSeen q loose (importedModules pw.main.body) Xt true s, obs s)) = some (openGood q loose, val w)) (fun w => ?_) (fun w => ?_)
  · show (openEnds treeTable pw _ N).map _ = _
    rw [tw_open, Fast.te4187177175401517315]; exact leftF w
  · show (openEnds treeTable pw _ N).map _ = _
    rw [tw_open, Fast.te4187177175401517315]; exact leftT w
end Mine
end
section
open PySem PySem.W
namespace Mine

/-- plain data -/
inductive D where
  | none | bool (b : Bool) | int (i : Int) | str (cs : List Nat) | tuple (l : List D) | list (l : List D) | dict (l : List (Int × Int))

mutual
noncomputable def D.im : D → Bool
  | .tuple l => D.ims l
  | .list _ => false
  | .dict _ => false
  | _ => true
noncomputable def D.ims : List D → Bool
  | [] => true
  | d :: r => D.im d && D.ims r
end
/-- a container that a name may own -/
noncomputable def D.mut : D → Bool
  | .list _ => true
  | .dict _ => true
  | _ => false

noncomputable abbrev Store := List (Str × D)
noncomputable def Store.get (ρ : Store) (x : Str) : Option D := List.lookup x ρ
noncomputable def Store.set : Store → Str → D → Store
  | [], x, d => [(x, d)]
  | (y, e) :: r, x, d => if x == y then (y, d) :: r else (y, e) :: Store.set r x d
noncomputable def Store.del : Store → Str → Store
  | [], _ => []
  | (y, e) :: r, x => if x == y then Store.del r x else (y, e) :: Store.del r x
noncomputable def Store.dels (ρ : Store) (xs : List Str) : Store := xs.foldl Store.del ρ

noncomputable def lim : Nat := 2 ^ 20

noncomputable def intsOf : List D → Option (List Int)
  | [] => some []
  | .int i :: r => (intsOf r).map (i :: ·)
  | _ => none
noncomputable def strsOf : List D → Option (List (List Nat))
  | [] => some []
  | .str s :: r => (strsOf r).map (s :: ·)
  | _ => none
noncomputable def b2i (b : Bool) : Int := if b then 1 else 0
noncomputable def small (i : Int) : Bool := decide (-(2 ^ 62 : Int) < i) && decide (i < 2 ^ 62)
noncomputable def bigN : Nat := 2 ^ 4000
noncomputable def fits (i : Int) : Bool := decide (i.natAbs < bigN)

/-- what an operator gives -/
inductive OpR : Operator → D → D → D → Prop
  | addI (x y : Int) : OpR .Add (.int x) (.int y) (.int (x + y))
  | addB (x : Int) (y : Bool) : OpR .Add (.int x) (.bool y) (.int (x + b2i y))
  | cat {x y : List Nat} : x.length + y.length ≤ lim → OpR .Add (.str x) (.str y) (.str (x ++ y))
  | catL {x y : List D} : x.length + y.length ≤ lim → OpR .Add (.list x) (.list y) (.list (x ++ y))
  | subI (x y : Int) : OpR .Sub (.int x) (.int y) (.int (x - y))
  | subB (x : Int) (y : Bool) : OpR .Sub (.int x) (.bool y) (.int (x - b2i y))
  | mulI {x y : Int} : fits x = true → fits y = true → OpR .Mult (.int x) (.int y) (.int (x * y))
  | rep (c : Nat) {n : Nat} : n ≤ 1000 → OpR .Mult (.str [c]) (.int n) (.str (List.replicate n c))
  | div {x y : Int} : y.natAbs < 1000000 → y ≠ 0 → OpR .FloorDiv (.int x) (.int y) (.int (x.fdiv y))
  | mod {x y : Int} : y ≠ 0 → OpR .Mod (.int x) (.int y) (.int (x.fmod y))
  | pow {x n : Int} : 0 ≤ n → n ≤ 1000 → x.natAbs < 2 ^ 64 → OpR .Pow (.int x) (.int n) (.int (x ^ n.toNat))
  | shr {x n : Int} : 0 ≤ n → OpR .RShift (.int x) (.int n) (.int (x.fdiv (2 ^ n.toNat)))
  | band (x y : Int) : OpR .BitAnd (.int x) (.int y) (.int (Builtin.bitAnd x y))
inductive UopR : UnaryOp → D → D → Prop
  | neg (x : Int) : UopR .USub (.int x) (.int (-x))
  | inv (x : Int) : UopR .Invert (.int x) (.int (-x - 1))
  | not (b : Bool) : UopR .Not (.bool b) (.bool (!b))
inductive CmpR : CmpOp → D → D → Bool → Prop
  | eqI (x y : Int) : CmpR .Eq (.int x) (.int y) (x == y)
  | ltI (x y : Int) : CmpR .Lt (.int x) (.int y) (decide (x < y))
  | leI (x y : Int) : CmpR .LtE (.int x) (.int y) (decide (x ≤ y))
  | gtI (x y : Int) : CmpR .Gt (.int x) (.int y) (decide (y < x))
  | geI (x y : Int) : CmpR .GtE (.int x) (.int y) (decide (y ≤ x))
  | neI (x y : Int) : CmpR .NotEq (.int x) (.int y) (x != y)
  | eqS (x y : List Nat) : CmpR .Eq (.str x) (.str y) (x == y)
  | neS (x y : List Nat) : CmpR .NotEq (.str x) (.str y) (x != y)
  | neL (x y : List Int) : CmpR .NotEq (.list (x.map .int)) (.list (y.map .int)) (x != y)
  | notIn (c : Nat) (y : List Nat) : CmpR .NotIn (.str [c]) (.str y) (!y.contains c)
  | isN : CmpR .Is .none .none true
  | isI (i : Int) : CmpR .Is (.int i) .none false

noncomputable def pickD (l : List D) (i : Int) : Option D :=
  if small i && decide (l.length ≤ lim) then (if 0 ≤ i then l[i.toNat]? else if 0 ≤ i + l.length then l[(i + l.length).toNat]? else none) else none
noncomputable def subD (a i : D) : Option D :=
  match a, i with
  | .list l, .int i => (pickD l i).bind fun d => if d.im then some d else none
  | .tuple l, .int i => (pickD l i).bind fun d => if d.im then some d else none
  | .dict l, .int i => (l.lookup i).map .int
  | _, _ => none
/-- a plain slice: both ends in place or none -/
noncomputable def sliceL {α : Type} (l : List α) (lo hi : Option Int) : Option (List α) :=
  let a := lo.getD 0
  let b := hi.getD l.length
  if decide (0 ≤ a) && decide (0 ≤ b) && small a && small b && decide (l.length ≤ lim) then some ((l.take b.toNat).drop a.toNat) else none
noncomputable def sliceD (a : D) (lo hi : Option Int) : Option D :=
  match a with
  | .list l => if D.ims l then (sliceL l lo hi).map .list else none
  | .str s => (sliceL s lo hi).map .str
  | _ => none

noncomputable def putD : List (Int × Int) → Int → Int → List (Int × Int)
  | [], k, v => [(k, v)]
  | (a, b) :: r, k, v => if k == a then (a, v) :: r else (a, b) :: putD r k v

noncomputable def kindOk (sc : Scope) (x : Str) : Bool := match sc.names.lookup x with
  | some .local | some .cell | some .free => x != ("__debug__" : Str) && x != ("__classdict__" : Str)
  | _ => false
noncomputable def bindOk (sc : Scope) (x : Str) : Bool := match sc.names.lookup x with
  | some .local | some .cell => true
  | _ => false
noncomputable def globOk (sc : Scope) (x : Str) : Bool := sc.names.lookup x == some .globalImplicit && x != ("__debug__" : Str)

noncomputable def builtins1 : List Str := ["len", "chr", "ord", "sum", "list", "range", "enumerate"]

inductive Call1R : Str → D → D → Prop
  | lenS {s : List Nat} : s.length ≤ lim → Call1R "len" (.str s) (.int s.length)
  | lenL {l : List D} : l.length ≤ lim → Call1R "len" (.list l) (.int l.length)
  | chr {c : Nat} : c < 1114112 → Call1R "chr" (.int c) (.str [c])
  | ord (c : Nat) : Call1R "ord" (.str [c]) (.int c)
  | sum (l : List Int) : Call1R "sum" (.list (l.map .int)) (.int l.sum)

noncomputable def stripL (cs : List Nat) (s : List Nat) : List Nat := s.dropWhile fun c => cs.contains c
inductive MethR : Str → D → D → D → Prop
  | join {ss : List (List Nat)} : ss.flatten.length ≤ lim → ss.length ≤ lim → MethR "join" (.str []) (.list (ss.map .str)) (.str ss.flatten)
  | lstrip {s cs : List Nat} : s.length ≤ lim → cs.length ≤ lim → MethR "lstrip" (.str s) (.str cs) (.str (stripL cs s))
  | split {s : List Nat} : s.length ≤ lim → MethR "split" (.str s) (.str [13, 10]) (.list ((Txt.split ⟨s.toArray⟩ ⟨#[13, 10]⟩).map fun p => .str p.cps.toList))

noncomputable def constD : Const → Option D
  | .none => some .none
  | .bool b => some (.bool b)
  | .int i => some (.int i)
  | .str s => some (.str s.cps.toList)
  | _ => none

noncomputable def itemsOf : D → Option (List D)
  | .str s => if s.length ≤ lim then some (s.map fun c => .str [c]) else none
  | .list l => if l.length ≤ lim && D.ims l then some l else none
  | .dict l => if l.length ≤ lim then some (l.map fun p => .int p.1) else none
  | _ => none
noncomputable def numbered : Nat → List D → List D
  | _, [] => []
  | k, d :: r => .tuple [.int k, d] :: numbered (k + 1) r
noncomputable def rangeD (a : Int) (n : Nat) : List D := (List.range n).map fun k : Nat => .int (a + (k : Int))

noncomputable def noSlice : Expr → Bool
  | .Slice .. => false
  | _ => true
noncomputable def methFine (o : Expr) (ap pp : Pos) : Bool := ap.endLine == pp.line && match o with
  | .Call .. => false
  | _ => true
noncomputable def isTupleT : Expr → Bool
  | .Tuple .. => true
  | _ => false
noncomputable def nameId : Expr → Option Str
  | .Name x _ => some x
  | _ => none
noncomputable def namesOf : List Expr → Option (List Str)
  | [] => some []
  | .Name x _ :: r => (namesOf r).map (x :: ·)
  | _ => none
noncomputable def tnames : Expr → List Str
  | .Name x _ => [x]
  | .Tuple es _ _ => (namesOf es).getD []
  | .Subscript (.Name x _) _ _ => [x]
  | _ => []
/-- a comprehension's target: names of its own, not yet told -/
noncomputable def freshT (sc : Scope) (t : Expr) (ρ : Store) : Bool := (tnames t).all fun x => sc.names.lookup x == some .local && (ρ.get x).isNone
/-- a target takes an item -/
inductive BindR (sc : Scope) : Expr → D → Store → Store → Prop
  | one {x p d ρ} : bindOk sc x = true → d.im = true → BindR sc (.Name x p) d ρ (ρ.set x d)
  | two {x y p p' k p'' d e ρ} : bindOk sc x = true → bindOk sc y = true → d.im = true → e.im = true → BindR sc (.Tuple [.Name x p, .Name y p'] k p'') (.tuple [d, e]) ρ ((ρ.set x d).set y e)

noncomputable def compScope (sc csc : Scope) : Scope := { csc with names := csc.names.map fun (n, k) => if (k == .free && sc.kind == .function && sc.names.lookup n == some .cell) then (n, .cell) else (n, k) }
/-- what a comprehension's block sees of its frame -/
noncomputable def seenIn (sc csc : Scope) (ρ : Store) : Store := ρ.filter fun p => csc.names.lookup p.1 == some .free && sc.names.lookup p.1 == some .cell

/-- the names' own kind of a comprehension's block: local ones and free ones of the frame's cells -/
noncomputable def compOk (sc csc : Scope) : Bool := csc.kind == .function && csc.names.all fun (n, k) => match k with
  | .local => csc.names.lookup n == some .local
  | .free => sc.names.lookup n == some .cell && csc.names.lookup n == some .free
  | .globalImplicit => true
  | _ => false

inductive Fl where
  | next | brk | cont
  | ret (d : D)

noncomputable def D.ok : D → Bool := fun d => d.im || d.mut
noncomputable def setAll : List Str → List D → Store → Option Store
  | [], [], ρ => some ρ
  | x :: xs, d :: ds, ρ => if d.ok then setAll xs ds (ρ.set x d) else none
  | _, _, _ => none
noncomputable def noDup (l : List Str) : Bool := match l with
  | [] => true
  | x :: r => !r.contains x && noDup r
noncomputable def swapFine (v : Expr) : Bool := match v with
  | .Tuple vs _ _ => vs.all (foldedForSure 8) || !vs.all (constantsAlone 8)
  | _ => true
noncomputable def startOf (xs : List Str) (ds : List D) : Store := xs.zip ds
noncomputable def fzOf (xs : List Str) (ds : List D) : List Str := ((xs.zip ds).filter fun p => p.2.mut).map (·.1)
end Mine
end
section
open PySem PySem.W
namespace Mine
noncomputable def nothingL : List Nat := [173, 847, 6150, 6155, 6156, 6157, 8203, 8204, 8205, 8288, 65279] ++ (List.range 16).map (65024 + ·)
noncomputable def normF : List Nat → List Nat
  | [] => []
  | 13 :: 10 :: r => 13 :: 10 :: normF r
  | c :: r => if c == 13 || c == 10 then 13 :: 10 :: normF r else c :: normF r
noncomputable def dotF : Bool → List Nat → List Nat
  | _, [] => []
  | st, c :: r => if st && c == 46 then 46 :: 46 :: dotF false r else c :: dotF (c == 10) r
noncomputable def quoteF (s : List Nat) : List Nat := dotF true (normF s)
noncomputable def escF : Nat → Bool → List Nat → List D
  | k, esc, [] => if esc then [.tuple [.int (k - 1), .str [92]]] else []
  | k, true, c :: r => .tuple [.int k, .str [92, c]] :: escF (k + 1) false r
  | k, false, c :: r => if c == 92 then escF (k + 1) true r else .tuple [.int k, .str [c]] :: escF (k + 1) false r
end Mine
end
section
open PySem PySem.W PyProof.Rows
namespace Mine

noncomputable def PTup (h : Heap) (a : Addr) (its : Array Value) : Prop := ∃ n, h.get? a = some { cls := .type "tuple", dict := none, data := .seq its n, slots := #[] }
theorem PTup.isTup {h : Heap} {a : Addr} {its : Array Value} (x : PTup h a its) : IsTup h a its := let ⟨n, e⟩ := x; ⟨_, e, rfl, n, rfl⟩
section
variable (prog : Program) (w : World)

/-- the pairs of a dict, value by value -/
inductive PairsRd : List (Int × Value) → List (Int × Int) → Prop
  | nil : PairsRd [] []
  | cons {k i : Int} {t : Tok} {kvs : List (Int × Value)} {l : List (Int × Int)} : PairsRd kvs l → PairsRd ((k, .int i t) :: kvs) ((k, i) :: l)

mutual
noncomputable def Rd (h : Heap) : D → Value → List Addr → Prop
  | .none, v, fp => v = .none ∧ fp = []
  | .bool b, v, fp => v = .bool b ∧ fp = []
  | .int i, v, fp => (∃ t, v = .int i t) ∧ fp = []
  | .str cs, v, fp => (∃ t, v = .str ⟨cs.toArray⟩ t) ∧ fp = []
  | .tuple ds, v, fp => ∃ a vs, v = .ref a ∧ PTup h a (List.toArray vs) ∧ Rds h ds vs fp
  | .list ds, v, fp => ∃ a vs, v = .ref a ∧ h.PlainList a (List.toArray vs) ∧ Rds h ds vs [] ∧ fp = [a]
  | .dict l, v, fp => ∃ a kvs, v = .ref a ∧ h.DictOf (intKind prog w) a kvs ∧ PairsRd kvs l ∧ (a == sysModules) = false ∧ fp = [a]
noncomputable def Rds (h : Heap) : List D → List Value → List Addr → Prop
  | [], vs, fp => vs = [] ∧ fp = []
  | d :: ds, vs, fp => ∃ v r f g, vs = v :: r ∧ fp = f ++ g ∧ Rd h d v f ∧ Rds h ds r g
end
end

variable {prog : Program} {w : World}

mutual
theorem Rd.keepBut {h h' : Heap} {X : Addr → Prop} (hk : ∀ b o, h.get? b = some o → ¬ X b → h'.get? b = some o) (hX : ∀ b its, X b → ¬ PTup h b its) :
    ∀ {d : D} {v : Value} {fp : List Addr}, (∀ a ∈ fp, ¬ X a) → Rd prog w h d v fp → Rd prog w h' d v fp
  | .none, _, _, _, r => by simpa [Rd] using r
  | .bool _, _, _, _, r => by simpa [Rd] using r
  | .int _, _, _, _, r => by simpa [Rd] using r
  | .str _, _, _, _, r => by simpa [Rd] using r
  | .tuple ds, v, fp, hf, r => by
    obtain ⟨a, vs, e, ht, r⟩ := r
    refine ⟨a, vs, e, ?_, Rds.keepBut hk hX hf r⟩
    have hn : ¬ X a := fun x => hX a _ x ht
    obtain ⟨n, ho⟩ := ht
    exact ⟨n, hk a _ ho hn⟩
  | .list ds, v, fp, hf, r => by
    obtain ⟨a, vs, e, ht, r, rfl⟩ := r
    refine ⟨a, vs, e, ?_, Rds.keepBut hk hX (fun _ x => nomatch x) r, rfl⟩
    obtain ⟨n, ho⟩ := ht
    exact ⟨n, hk a _ ho (hf a (by simp))⟩
  | .dict l, v, fp, hf, r => by
    obtain ⟨a, kvs, e, ht, r, hs, rfl⟩ := r
    refine ⟨a, kvs, e, ?_, r, hs, rfl⟩
    obtain ⟨o, es, ep, ho, q⟩ := ht
    exact ⟨o, es, ep, hk a o ho (hf a (by simp)), q⟩
theorem Rds.keepBut {h h' : Heap} {X : Addr → Prop} (hk : ∀ b o, h.get? b = some o → ¬ X b → h'.get? b = some o) (hX : ∀ b its, X b → ¬ PTup h b its) :
    ∀ {ds : List D} {vs : List Value} {fp : List Addr}, (∀ a ∈ fp, ¬ X a) → Rds prog w h ds vs fp → Rds prog w h' ds vs fp
  | [], _, _, _, r => by simpa [Rds] using r
  | d :: ds, vs, fp, hf, r => by
    obtain ⟨v, q, f, g, rfl, rfl, r1, r2⟩ := r
    exact ⟨v, q, f, g, rfl, rfl, Rd.keepBut hk hX (fun a ha => hf a (by simp [ha])) r1, Rds.keepBut hk hX (fun a ha => hf a (by simp [ha])) r2⟩
end
theorem Rd.keeps {h h' : Heap} {d : D} {v : Value} {fp : List Addr} (r : Rd prog w h d v fp) (hk : ∀ b o, h.get? b = some o → h'.get? b = some o) : Rd prog w h' d v fp :=
  Rd.keepBut (X := fun _ => False) (fun b o e _ => hk b o e) (fun _ _ x => x.elim) (fun _ _ x => x) r
theorem Rds.keeps {h h' : Heap} {ds : List D} {vs : List Value} {fp : List Addr} (r : Rds prog w h ds vs fp) (hk : ∀ b o, h.get? b = some o → h'.get? b = some o) : Rds prog w h' ds vs fp :=
  Rds.keepBut (X := fun _ => False) (fun b o e _ => hk b o e) (fun _ _ x => x.elim) (fun _ _ x => x) r

mutual
theorem Rd.im_fp {h : Heap} : ∀ {d : D} {v : Value} {fp : List Addr}, d.im = true → Rd prog w h d v fp → fp = []
  | .none, _, _, _, r => r.2
  | .bool _, _, _, _, r => r.2
  | .int _, _, _, _, r => r.2
  | .str _, _, _, _, r => r.2
  | .tuple ds, v, fp, e, r => by
    obtain ⟨a, vs, _, _, r⟩ := r
    exact Rds.im_fp (by simpa [D.im] using e) r
  | .list _, _, _, e, _ => by simp [D.im] at e
  | .dict _, _, _, e, _ => by simp [D.im] at e
theorem Rds.im_fp {h : Heap} : ∀ {ds : List D} {vs : List Value} {fp : List Addr}, D.ims ds = true → Rds prog w h ds vs fp → fp = []
  | [], _, _, _, r => r.2
  | d :: ds, vs, fp, e, r => by
    obtain ⟨v, q, f, g, rfl, rfl, r1, r2⟩ := r
    simp only [D.ims, Bool.and_eq_true] at e
    rw [Rd.im_fp e.1 r1, Rds.im_fp e.2 r2]; rfl
end
theorem Rds.length {h : Heap} : ∀ {ds : List D} {vs : List Value} {fp : List Addr}, Rds prog w h ds vs fp → vs.length = ds.length
  | [], _, _, r => by rw [r.1]; rfl
  | d :: ds, vs, fp, r => by
    obtain ⟨v, q, f, g, rfl, rfl, r1, r2⟩ := r
    simp [Rds.length r2]
theorem Rds.get {h : Heap} : ∀ {ds : List D} {vs : List Value} {fp : List Addr} {i : Nat} {d : D}, Rds prog w h ds vs fp → ds[i]? = some d → ∃ v f, vs[i]? = some v ∧ Rd prog w h d v f ∧ ∀ a ∈ f, a ∈ fp
  | [], _, _, _, _, _, e => by simp at e
  | d :: ds, vs, fp, i, d', r, e => by
    obtain ⟨v, q, f, g, rfl, rfl, r1, r2⟩ := r
    cases i with
    | zero => simp at e; subst e; exact ⟨v, f, rfl, r1, fun a ha => by simp [ha]⟩
    | succ i =>
      obtain ⟨v', f', e1, e2, e3⟩ := Rds.get r2 (i := i) (d := d') (by simpa using e)
      exact ⟨v', f', by simpa using e1, e2, fun a ha => by simp [e3 a ha]⟩
theorem D.ims_get : ∀ {ds : List D} {i : Nat} {d : D}, D.ims ds = true → ds[i]? = some d → d.im = true
  | [], _, _, _, e => by simp at e
  | d :: ds, i, d', h, e => by
    simp only [D.ims, Bool.and_eq_true] at h
    cases i with
    | zero => simp at e; subst e; exact h.1
    | succ i => exact D.ims_get h.2 (i := i) (by simpa using e)
theorem D.ims_append : ∀ {a b : List D}, D.ims (a ++ b) = (D.ims a && D.ims b)
  | [], b => by simp [D.ims]
  | d :: a, b => by simp [D.ims, D.ims_append (a := a), Bool.and_assoc]
theorem Rds.append {h : Heap} : ∀ {a b : List D} {vs ws : List Value} {f g : List Addr}, Rds prog w h a vs f → Rds prog w h b ws g → Rds prog w h (a ++ b) (vs ++ ws) (f ++ g)
  | [], b, vs, ws, f, g, r, r' => by obtain ⟨rfl, rfl⟩ := r; exact r'
  | d :: a, b, vs, ws, f, g, r, r' => by
    obtain ⟨v, q, f1, f2, rfl, rfl, r1, r2⟩ := r
    exact ⟨v, q ++ ws, f1, f2 ++ g, rfl, by simp, r1, Rds.append r2 r'⟩

/-- all the old objects stand; what else may have changed -/
structure Ext (s s' : Shared) : Prop where
  keep : ∀ b o, s.heap.get? b = some o → s'.heap.get? b = some o
  os : s'.os = s.os
  gens : ∀ (i : Nat) (g : GenState), s.gens[i]? = some g → s'.gens[i]? = some g
  bare : AllBare s.gens → AllBare s'.gens
theorem Ext.refl (s : Shared) : Ext s s := ⟨fun _ _ e => e, rfl, fun _ _ e => e, id⟩
theorem Ext.trans {s s' s'' : Shared} (x : Ext s s') (y : Ext s' s'') : Ext s s'' :=
  ⟨fun b o e => y.keep b o (x.keep b o e), y.os.trans x.os, fun i g e => y.gens i g (x.gens i g e), fun b => y.bare (x.bare b)⟩
theorem Ext.heap {s : Shared} {h' : Heap} {tk : Nat} (hk : ∀ b o, s.heap.get? b = some o → h'.get? b = some o) : Ext s { s with heap := h', toks := tk } := ⟨hk, rfl, fun _ _ e => e, id⟩
theorem Ext.toks {s : Shared} {tk : Nat} : Ext s { s with toks := tk } := ⟨fun _ _ e => e, rfl, fun _ _ e => e, id⟩
theorem Ext.push {s : Shared} {o : Obj} {tk : Nat} : Ext s { s with heap := s.heap.push o, toks := tk } := Ext.heap fun _ _ e => Heap.get?_push_of_some o e
theorem Ext.fresh {s s' : Shared} (x : Ext s s') {a : Addr} (h : s'.heap.get? a = none) : s.heap.get? a = none := by
  cases e : s.heap.get? a with
  | none => rfl
  | some o => rw [x.keep a o e] at h; cases h
theorem fresh_size (h : Heap) : h.get? h.objs.size = none := by
  cases e : h.get? h.objs.size with
  | none => rfl
  | some o => exact absurd (Heap.lt_size e) (Nat.lt_irrefl _)

/-- a name's value in a frame: a local, or by its cell -/
noncomputable def VarAt (h : Heap) (env : Env) (x : Str) (v : Value) : Prop :=
  (env.kindOf x = some .local ∧ ∃ m, h.Ns env.locals m ∧ m x = some v) ∨
  ((env.kindOf x = some .cell ∨ env.kindOf x = some .free) ∧ ∃ c, env.cells.lookup x = some c ∧ h.IsCell c (some v))
theorem ns_unique {h : Heap} {a : Addr} {m m' : Str → Option Value} (x : h.Ns a m) (y : h.Ns a m') : m = m' := by
  obtain ⟨o, es, ep, ho, hd, _, hm⟩ := x
  obtain ⟨o', es', ep', ho', hd', _, hm'⟩ := y
  rw [ho] at ho'; cases ho'
  rw [hd] at hd'; cases hd'
  funext n; rw [← hm, hm']
theorem VarAt.unique {h : Heap} {env : Env} {x : Str} {v v' : Value} (a : VarAt h env x v) (b : VarAt h env x v') : v = v' := by
  rcases a with ⟨k, m, hm, e⟩ | ⟨k, c, hc, hv⟩ <;> rcases b with ⟨k', m', hm', e'⟩ | ⟨k', c', hc', hv'⟩
  · rw [ns_unique hm hm'] at e; rw [e] at e'; exact Option.some.inj e'
  · rw [k] at k'; rcases k' with k' | k' <;> cases k'
  · rw [k'] at k; rcases k with k | k <;> cases k
  · rw [hc] at hc'; cases hc'
    obtain ⟨o, ho, hd⟩ := hv
    obtain ⟨o', ho', hd'⟩ := hv'
    rw [ho] at ho'; cases ho'
    rw [hd] at hd'; cases hd'; rfl
theorem VarAt.keeps {h h' : Heap} {env : Env} {x : Str} {v : Value} (a : VarAt h env x v) (hk : ∀ b o, h.get? b = some o → h'.get? b = some o) : VarAt h' env x v :=
  a.imp (fun ⟨k, m, hm, e⟩ => ⟨k, m, hm.keeps hk, e⟩) fun ⟨k, c, hc, hv⟩ => ⟨k, c, hc, hv.keeps hk⟩

/-- the store tells what the names hold -/
noncomputable def Vars (prog : Program) (w : World) (h : Heap) (env : Env) (ρ : Store) : Prop :=
  ∀ x d, ρ.get x = some d → d.ok = true ∧ ∃ v fp, VarAt h env x v ∧ Rd prog w h d v fp
theorem Vars.keeps {h h' : Heap} {env : Env} {ρ : Store} (V : Vars prog w h env ρ) (hk : ∀ b o, h.get? b = some o → h'.get? b = some o) : Vars prog w h' env ρ :=
  fun x d e => let ⟨a, v, fp, b, c⟩ := V x d e; ⟨a, v, fp, b.keeps hk, c.keeps hk⟩

/-- a result: what is not new in it is a borrowed name's -/
noncomputable def Bor (ρ : Store) (env : Env) (bs : List Str) (h : Heap) (a : Addr) : Prop := ∃ x ∈ bs, (∃ d, ρ.get x = some d ∧ d.mut = true) ∧ VarAt h env x (.ref a)
noncomputable def Res (prog : Program) (w : World) (env : Env) (ρ : Store) (bs : List Str) (s s' : Shared) (d : D) (v : Value) : Prop :=
  ∃ fp, Rd prog w s'.heap d v fp ∧ fp.Nodup ∧ ∀ a ∈ fp, s.heap.get? a = none ∨ Bor ρ env bs s.heap a

theorem D.ok_cases {d : D} (h : d.ok = true) : d.im = true ∨ d.mut = true := by simpa [D.ok] using h
theorem Rd.mut_ref {h : Heap} {d : D} {v : Value} {fp : List Addr} (hm : d.mut = true) (r : Rd prog w h d v fp) : ∃ a, v = .ref a ∧ fp = [a] := by
  cases d <;> simp [D.mut] at hm
  · obtain ⟨a, vs, e, _, _, f⟩ := r; exact ⟨a, e, f⟩
  · obtain ⟨a, vs, e, _, _, _, f⟩ := r; exact ⟨a, e, f⟩

mutual
theorem Rd.there {h : Heap} : ∀ {d : D} {v : Value} {fp : List Addr}, Rd prog w h d v fp → ∀ a ∈ fp, (h.get? a).isSome = true
  | .none, v, fp, r, a, ha => by rw [r.2] at ha; cases ha
  | .bool _, v, fp, r, a, ha => by rw [r.2] at ha; cases ha
  | .int _, v, fp, r, a, ha => by rw [r.2] at ha; cases ha
  | .str _, v, fp, r, a, ha => by rw [r.2] at ha; cases ha
  | .tuple ds, v, fp, r, a, ha => by
    obtain ⟨b, vs, e, _, r⟩ := r
    exact Rds.there r a ha
  | .list ds, v, fp, r, a, ha => by
    obtain ⟨b, vs, e, ⟨n, h⟩, _, rfl⟩ := r
    simp at ha; subst ha; simp [h]
  | .dict l, v, fp, r, a, ha => by
    obtain ⟨b, vs, e, ⟨o, _, _, h, _⟩, _, _, rfl⟩ := r
    simp at ha; subst ha; simp [h]
theorem Rds.there {h : Heap} : ∀ {ds : List D} {vs : List Value} {fp : List Addr}, Rds prog w h ds vs fp → ∀ a ∈ fp, (h.get? a).isSome = true
  | [], vs, fp, r, a, ha => by rw [r.2] at ha; cases ha
  | d :: ds, vs, fp, r, a, ha => by
    obtain ⟨v, q, f, g, rfl, rfl, r1, r2⟩ := r
    rcases List.mem_append.mp ha with ha | ha
    · exact Rd.there r1 a ha
    · exact Rds.there r2 a ha
end
/-- a borrowed container stood before the evaluation, and the name held it -/
theorem Bor.back {h h' : Heap} {env : Env} {ρ : Store} {bs : List Str} {a : Addr} (V : Vars prog w h env ρ) (hk : ∀ b o, h.get? b = some o → h'.get? b = some o) (B : Bor ρ env bs h' a) :
    Bor ρ env bs h a ∧ (h.get? a).isSome = true := by
  obtain ⟨x, hx, ⟨d, hd, hm⟩, hv⟩ := B
  obtain ⟨_, v, fp, q, r⟩ := V x d hd
  have e := (q.keeps hk).unique hv
  subst e
  refine ⟨⟨x, hx, ⟨d, hd, hm⟩, q⟩, ?_⟩
  obtain ⟨b, e, rfl⟩ := Rd.mut_ref hm r
  cases e
  exact Rd.there r a (by simp)
theorem Bor.mono {h : Heap} {env : Env} {ρ : Store} {bs bs' : List Str} {a : Addr} (hb : ∀ x ∈ bs, x ∈ bs') (B : Bor ρ env bs h a) : Bor ρ env bs' h a :=
  let ⟨x, hx, q⟩ := B; ⟨x, hb x hx, q⟩
end Mine
end
section
open PySem PySem.W PyProof.Rows
namespace Mine
variable {prog : Program} {w : World} {A : Around} {E : Value → Shared → Prop} {s : Shared}

/-- a new result -/
noncomputable def New (prog : Program) (w : World) (s s' : Shared) (d : D) (v : Value) : Prop :=
  Ext s s' ∧ ∃ fp, Rd prog w s'.heap d v fp ∧ fp.Nodup ∧ ∀ a ∈ fp, s.heap.get? a = none
theorem New.int {s : Shared} {i : Int} {t k : Tok} : New prog w s { s with toks := k } (.int i) (.int i t) := ⟨Ext.toks, [], ⟨⟨t, rfl⟩, rfl⟩, List.nodup_nil, fun _ x => nomatch x⟩
theorem New.bool {s : Shared} {b : Bool} : New prog w s s (.bool b) (.bool b) := ⟨Ext.refl s, [], ⟨rfl, rfl⟩, List.nodup_nil, fun _ x => nomatch x⟩
theorem New.str {s : Shared} {cs : List Nat} {t k : Tok} : New prog w s { s with toks := k } (.str cs) (.str ⟨cs.toArray⟩ t) := ⟨Ext.toks, [], ⟨⟨t, rfl⟩, rfl⟩, List.nodup_nil, fun _ x => nomatch x⟩
theorem New.list {s : Shared} {ds : List D} {vs : List Value} {k : Tok} (r : Rds prog w s.heap ds vs []) :
    New prog w s { s with heap := s.heap.push { cls := .type "list", data := .seq vs.toArray }, toks := k } (.list ds) (.ref s.heap.objs.size) :=
  ⟨Ext.push, [s.heap.objs.size], ⟨_, vs, rfl, ⟨0, Heap.get?_push_size _ rfl⟩, r.keeps fun _ _ e => Heap.get?_push_of_some _ e, rfl⟩, by simp, fun a ha => by simp at ha; subst ha; exact fresh_size _⟩

theorem intBits_le_of {k : Int} {n : Nat} (h : k.natAbs < 2 ^ n) : Builtin.Int.intBits k ≤ n := by
  unfold Builtin.Int.intBits
  split
  · exact Nat.zero_le _
  · rename_i h0
    have h0 : k ≠ 0 := by simpa using h0
    have hp : k.natAbs ≠ 0 := by exact ar182 h0
    exact (Nat.log2_lt hp).mpr h
theorem mulOk_of_fits {a b : Int} (ha : fits a = true) (hb : fits b = true) : IntMulOk a b := by
  unfold fits bigN at ha hb
  have h1 := intBits_le_of (of_decide_eq_true ha)
  have h2 := intBits_le_of (of_decide_eq_true hb)
  unfold IntMulOk
  have : Builtin.Int.intTooBig (Builtin.Int.intBits a + Builtin.Int.intBits b) = false := by
    unfold Builtin.Int.intTooBig
    rw [bitsLine_eq]
    exact decide_eq_false (by exact ar183 h1 h2)
  rw [this]; simp
theorem rep_fold (c : Nat) : ∀ (n : Nat) (acc : Array Nat), (List.replicate n #[c]).foldl (· ++ ·) acc = acc ++ (List.replicate n c).toArray
  | 0, acc => by simp
  | n + 1, acc => by
    rw [List.replicate_succ, List.foldl_cons, rep_fold c n, List.replicate_succ]
    apply Array.toList_inj.mp
    simp
theorem small_iff {i : Int} (h : small i = true) : -(2 ^ 62) < i ∧ i < 2 ^ 62 := by simpa [small] using h

theorem op_sound {op : Operator} {a b c : D} {va vb : Value} {fa fb : List Addr} (h : OpR op a b c) (ra : Rd prog w s.heap a va fa) (rb : Rd prog w s.heap b vb fb) :
    wpAny (model prog w) A (binaryOp op va vb) (fun v s' => New prog w s s' c v) E s := by
  cases h with
  | addI =>
    obtain ⟨⟨t, rfl⟩, _⟩ := ra; obtain ⟨⟨u, rfl⟩, _⟩ := rb
    exact PySem.P.add_int New.int
  | addB =>
    obtain ⟨⟨t, rfl⟩, _⟩ := ra; obtain ⟨rfl, _⟩ := rb
    exact PySem.add_int_bool New.int
  | @cat x y hl =>
    obtain ⟨⟨t, rfl⟩, _⟩ := ra; obtain ⟨⟨u, rfl⟩, _⟩ := rb
    have hsz : (Str.mk x.toArray ++ Str.mk y.toArray : Str).length ≤ sizeLine := by
      rw [sizeLine_eq]
      show (x.toArray ++ y.toArray).size ≤ _
      unfold lim at hl
      simp; exact ar184 hl
    have e : (Str.mk x.toArray ++ Str.mk y.toArray : Str) = ⟨(x ++ y).toArray⟩ := by
      show Str.mk (x.toArray ++ y.toArray) = _
      simp
    refine PySem.P.add_str ?_
    split
    · rename_i hx
      have : x = [] := by simpa [Str.length] using hx
      subst this
      exact New.str (k := s.toks)
    · split
      · rename_i hy
        have : y = [] := by simpa [Str.length] using hy
        subst this
        rw [List.append_nil]
        exact New.str (k := s.toks)
      · refine ⟨hsz, ?_⟩
        rw [e]; exact New.str
  | @catL x y hc =>
    obtain ⟨l, vs, rfl, ⟨n1, hl⟩, rx, _⟩ := ra; obtain ⟨m, ws, rfl, ⟨n2, hm⟩, ry, _⟩ := rb
    refine PySem.P.add_list hl hm ?_ ?_
    · have e : vs.toArray ++ ws.toArray = (vs ++ ws).toArray := by simp
      rw [e]
      exact New.list (rx.append ry)
    · have := rx.length; have := ry.length
      rw [sizeLine_eq]; unfold lim at hc
      simp; omega
  | subI =>
    obtain ⟨⟨t, rfl⟩, _⟩ := ra; obtain ⟨⟨u, rfl⟩, _⟩ := rb
    exact PySem.P.sub_int New.int
  | subB =>
    obtain ⟨⟨t, rfl⟩, _⟩ := ra; obtain ⟨rfl, _⟩ := rb
    exact PySem.IntBool.sub_int_bool New.int
  | mulI h1 h2 =>
    obtain ⟨⟨t, rfl⟩, _⟩ := ra; obtain ⟨⟨u, rfl⟩, _⟩ := rb
    exact PySem.P.mul_int New.int (mulOk_of_fits h1 h2)
  | @rep c n h2 =>
    obtain ⟨⟨t, rfl⟩, _⟩ := ra; obtain ⟨⟨u, rfl⟩, _⟩ := rb
    refine SB.mul ⟨?_, ?_, ?_⟩ fun t' k => ?_
    · rw [Bool.or_eq_false_iff]; exact ⟨decide_eq_false (by exact ar185), decide_eq_false (by exact ar186 h2)⟩
    · intro h4 _
      have : (1 : Int) ≤ (2 ^ 63 - 1) / n := (Int.le_ediv_iff_mul_le (by exact ar187 h4)).mpr (by exact ar188 h2)
      show ¬ (((List.length [c] : Nat) : Int) > _)
      simp only [List.length_singleton]
      exact ar189 this
    · intro _ _
      show Builtin.Str.tooLong (1 * (n : Int).toNat) = false
      unfold Builtin.Str.tooLong
      rw [sizeLine_eq]
      exact decide_eq_false (by exact ar190 h2)
    · have e : Txt.mul ⟨[c].toArray⟩ n = ⟨(List.replicate n c).toArray⟩ := by
        unfold Txt.mul
        split
        · rename_i hn
          have : n = 0 := by exact ar191 hn
          rw [this]; rfl
        · split
          · rename_i hn hn1
            have : n = 1 := by
              simp only [Bool.or_eq_true, beq_iff_eq] at hn1
              rcases hn1 with q | q
              · exact ar192 q
              · cases q
            subst this; rfl
          · congr 1
            rw [show ([c] : List Nat).toArray = #[c] from rfl, rep_fold]; simp
      rw [e]
      exact New.str
  | div h1 h2 =>
    obtain ⟨⟨t, rfl⟩, _⟩ := ra; obtain ⟨⟨u, rfl⟩, _⟩ := rb
    exact floordiv_int h2 New.int (Or.inl (PyProof.noPylong_small (Nat.lt_of_lt_of_le h1 (by decide))))
  | mod h1 =>
    obtain ⟨⟨t, rfl⟩, _⟩ := ra; obtain ⟨⟨u, rfl⟩, _⟩ := rb
    exact mod_int' h1 New.int
  | pow h1 h2 h3 =>
    obtain ⟨⟨t, rfl⟩, _⟩ := ra; obtain ⟨⟨u, rfl⟩, _⟩ := rb
    exact pow_int_small h1 (by exact ar193 h2) h3 New.int
  | shr h1 =>
    obtain ⟨⟨t, rfl⟩, _⟩ := ra; obtain ⟨⟨u, rfl⟩, _⟩ := rb
    exact rshift_int h1 New.int
  | band =>
    obtain ⟨⟨t, rfl⟩, _⟩ := ra; obtain ⟨⟨u, rfl⟩, _⟩ := rb
    exact and_int New.int

theorem uop_sound {op : UnaryOp} {a c : D} {va : Value} {fa : List Addr} (h : UopR op a c) (ra : Rd prog w s.heap a va fa) :
    wpAny (model prog w) A (unaryOp op va) (fun v s' => New prog w s s' c v) E s := by
  cases h with
  | neg =>
    obtain ⟨⟨t, rfl⟩, _⟩ := ra
    exact PySem.P.neg_int New.int
  | inv =>
    obtain ⟨⟨t, rfl⟩, _⟩ := ra
    exact invert_int New.int
  | not =>
    obtain ⟨rfl, _⟩ := ra
    exact not_value (wpAny_truthy_bool New.bool)

theorem ints_are {h : Heap} : ∀ {ns : List Int} {vs : List Value} {fp : List Addr}, Rds prog w h (ns.map D.int) vs fp → IntsAre vs ns
  | [], vs, fp, r => by rw [r.1]; exact .nil
  | i :: ds, vs, fp, r => by
    obtain ⟨v, q, f, g, rfl, rfl, ⟨⟨t, rfl⟩, _⟩, r2⟩ := r
    exact .cons i t (ints_are r2)
/-- a comparison: the state's objects stand -/
theorem cmp_sound (hu : A.units + 64 < cLine) {op : CmpOp} {a b : D} {c : Bool} {va vb : Value} {fa fb : List Addr} (h : CmpR op a b c) (ra : Rd prog w s.heap a va fa) (rb : Rd prog w s.heap b vb fb) :
    wpAny (model prog w) A (compareOp op va vb) (fun v s' => v = .bool c ∧ Ext s s') E s := by
  cases h with
  | eqI => obtain ⟨⟨t, rfl⟩, _⟩ := ra; obtain ⟨⟨u, rfl⟩, _⟩ := rb; exact PySem.P.eq_int ⟨rfl, Ext.refl s⟩
  | neI => obtain ⟨⟨t, rfl⟩, _⟩ := ra; obtain ⟨⟨u, rfl⟩, _⟩ := rb; exact PySem.P.ne_int ⟨rfl, Ext.refl s⟩
  | ltI => obtain ⟨⟨t, rfl⟩, _⟩ := ra; obtain ⟨⟨u, rfl⟩, _⟩ := rb; exact PySem.P.lt_int ⟨rfl, Ext.refl s⟩
  | leI => obtain ⟨⟨t, rfl⟩, _⟩ := ra; obtain ⟨⟨u, rfl⟩, _⟩ := rb; exact PySem.P.le_int ⟨rfl, Ext.refl s⟩
  | gtI => obtain ⟨⟨t, rfl⟩, _⟩ := ra; obtain ⟨⟨u, rfl⟩, _⟩ := rb; exact PySem.P.gt_int ⟨rfl, Ext.refl s⟩
  | geI => obtain ⟨⟨t, rfl⟩, _⟩ := ra; obtain ⟨⟨u, rfl⟩, _⟩ := rb; exact PySem.P.ge_int ⟨rfl, Ext.refl s⟩
  | eqS x y =>
    obtain ⟨⟨t, rfl⟩, _⟩ := ra; obtain ⟨⟨u, rfl⟩, _⟩ := rb
    have e : ((Str.mk x.toArray).cps.toList == (Str.mk y.toArray).cps.toList) = (x == y) := by simp
    exact PySem.P.eq_str ⟨by rw [e], Ext.refl s⟩
  | neS x y =>
    obtain ⟨⟨t, rfl⟩, _⟩ := ra; obtain ⟨⟨u, rfl⟩, _⟩ := rb
    have e : ((Str.mk x.toArray).cps.toList != (Str.mk y.toArray).cps.toList) = (x != y) := by simp
    exact PySem.P.ne_str ⟨by rw [e], Ext.refl s⟩
  | neL x y =>
    obtain ⟨l, vs, rfl, hl, rx, _⟩ := ra; obtain ⟨m, ws, rfl, hm, ry, _⟩ := rb
    refine ne_intsK hl.isList (ints_are rx) hm.isList (ints_are ry) hu ⟨?_, Ext.refl s⟩
    congr 1
    by_cases q : x = y <;> simp [q, bne]
  | notIn c y =>
    obtain ⟨⟨t, rfl⟩, _⟩ := ra; obtain ⟨⟨u, rfl⟩, _⟩ := rb
    refine PySem.P.notIn_str ⟨?_, Ext.refl s⟩
    rw [show ([c] : List Nat).toArray = #[c] from rfl, StrLaws.found_one]
    congr 2
    show decide (c ∈ y) = y.contains c
    simp
  | isN => obtain ⟨rfl, _⟩ := ra; obtain ⟨rfl, _⟩ := rb; exact is_none ⟨rfl, Ext.refl s⟩
  | isI => obtain ⟨⟨t, rfl⟩, _⟩ := ra; obtain ⟨rfl, _⟩ := rb; exact is_none ⟨rfl, Ext.refl s⟩
end Mine
end
section
open PySem PySem.W PyProof.Rows PySem.Builtin PySem.Builtin.Str
set_option maxRecDepth 100000
namespace Mine
variable {prog : Program} {w : World} {A : Around} {E : Value → Shared → Prop} {s : Shared}

theorem New.old {s : Shared} {d : D} {v : Value} {fp : List Addr} {k : Tok} (hi : d.im = true) (r : Rd prog w s.heap d v fp) : New prog w s { s with toks := k } d v :=
  ⟨Ext.toks, [], Rd.im_fp hi r ▸ r, List.nodup_nil, fun _ x => nomatch x⟩
theorem PairsRd.at {k : Int} : ∀ {kvs : List (Int × Value)} {l : List (Int × Int)} {i : Int}, PairsRd kvs l → l.lookup k = some i → ∃ t, valueAt kvs k = some (.int i t)
  | _, _, i, .nil, e => by simp at e
  | _, _, i, @PairsRd.cons k' i' t kvs l r, e => by
    rw [List.lookup_cons] at e
    unfold valueAt
    rw [List.find?_cons]
    by_cases h : k = k'
    · subst h
      simp at e
      subst e
      exact ⟨t, by simp⟩
    · have h1 : (k == k') = false := by simpa using h
      rw [h1] at e
      have h2 : decide (k' = k) = false := by simpa using fun q => h q.symm
      simp only [h2]
      exact PairsRd.at r e
theorem PairsRd.none {k : Int} : ∀ {kvs : List (Int × Value)} {l : List (Int × Int)}, PairsRd kvs l → l.lookup k = none → valueAt kvs k = none
  | _, _, .nil, _ => rfl
  | _, _, @PairsRd.cons k' i' t kvs l r, e => by
    rw [List.lookup_cons] at e
    unfold valueAt
    rw [List.find?_cons]
    by_cases h : k = k'
    · subst h; simp at e
    · have h1 : (k == k') = false := by simpa using h
      rw [h1] at e
      have h2 : decide (k' = k) = false := by simpa using fun q => h q.symm
      simp only [h2]
      exact PairsRd.none r e
theorem pick_spec {l : List D} {i : Int} {d : D} (h : pickD l i = some d) : -(2 ^ 62) < i ∧ i < 2 ^ 62 ∧ l.length ≤ lim ∧ ((0 ≤ i ∧ l[i.toNat]? = some d) ∨ (i < 0 ∧ 0 ≤ i + l.length ∧ l[(i + l.length).toNat]? = some d)) := by
  unfold pickD at h
  split at h
  · rename_i hc
    simp only [Bool.and_eq_true, decide_eq_true_eq] at hc
    obtain ⟨h1, h2⟩ := small_iff hc.1
    refine ⟨h1, h2, hc.2, ?_⟩
    split at h
    · exact .inl ⟨by assumption, h⟩
    · split at h
      · exact .inr ⟨by exact ar299 (by assumption), by assumption, h⟩
      · cases h
  · cases h
theorem subscripted_plain {slice : Expr} (h : noSlice slice = true) (o i : Value) : subscripted slice false o i = operate [o, i] (getItem o i) := by
  cases slice <;> first | rfl | cases h

theorem sub_sound {value slice : Expr} (hns : noSlice slice = true) {a i c : D} {va vi : Value} {fa fi : List Addr} (h : subD a i = some c) (ra : Rd prog w s.heap a va fa) (ri : Rd prog w s.heap i vi fi) :
    wpAny (model prog w) A (subscriptTail value slice va vi) (fun v s' => New prog w s s' c v) E s := by
  unfold subD at h
  split at h
  · rename_i l i
    obtain ⟨⟨t, rfl⟩, rfl⟩ := ri
    obtain ⟨a, vs, rfl, hl, r, rfl⟩ := ra
    obtain ⟨d, hd, h⟩ := Option.bind_eq_some_iff.mp h
    split at h
    · rename_i him
      cases h
      obtain ⟨p1, p2, p3, p4⟩ := pick_spec hd
      have hlen := r.length
      have hL := hl.isList
      rcases p4 with ⟨q1, q2⟩ | ⟨q1, q2, q3⟩
      · obtain ⟨v, f, e1, e2, _⟩ := r.get q2
        exact tail_any hL.typeIs slot_list_getitem.lookup (wpAny_getItem_list hL q1 (by exact ar300 p2) (x := v) (by simpa using e1) (New.old (k := s.toks) him e2)) (subscripted_plain hns _ _)
      · obtain ⟨v, f, e1, e2, _⟩ := r.get q3
        exact tail_any hL.typeIs slot_list_getitem.lookup (wpAny_getItem_list_neg hL q1 (by simp [hlen]; exact ar301 q2) (by exact ar302 p1) (x := v) (by simpa [hlen] using e1) (New.old (k := s.toks) him e2)) (subscripted_plain hns _ _)
    · cases h
  · rename_i l i
    obtain ⟨⟨t, rfl⟩, rfl⟩ := ri
    obtain ⟨a, vs, rfl, hl, r⟩ := ra
    obtain ⟨d, hd, h⟩ := Option.bind_eq_some_iff.mp h
    split at h
    · rename_i him
      cases h
      obtain ⟨p1, p2, p3, p4⟩ := pick_spec hd
      have hlen := r.length
      rcases p4 with ⟨q1, q2⟩ | ⟨q1, q2, q3⟩
      · obtain ⟨v, f, e1, e2, _⟩ := r.get q2
        have hlt := (List.getElem?_eq_some_iff.mp e1).1
        exact item_tupleT hl.isTup (by exact ar303 q1) (by exact ar300 p2) (j := i.toNat) (by unfold seqIndex?; simp only [show ¬ i < 0 by exact ar304 q1, if_false]; simp; exact ar305 q1 hlt) e1 (New.old (k := s.toks) him e2) (subscripted_plain hns _ _)
      · obtain ⟨v, f, e1, e2, _⟩ := r.get q3
        have hlt := (List.getElem?_eq_some_iff.mp e1).1
        exact item_tupleT hl.isTup (by exact ar302 p1) (by exact ar306 q1) (j := (i + l.length).toNat) (by unfold seqIndex?; simp only [q1, if_true, hlen]; simp; exact ar307 q1 q2) e1 (New.old (k := s.toks) him e2) (subscripted_plain hns _ _)
    · cases h
  · rename_i l i
    obtain ⟨⟨t, rfl⟩, rfl⟩ := ri
    obtain ⟨a, kvs, rfl, hm, r, hs, rfl⟩ := ra
    simp only [Option.map_eq_some_iff] at h
    obtain ⟨j, hj, rfl⟩ := h
    obtain ⟨u, hu⟩ := r.at hj
    exact tail_any hm.typeIs slot_dict_getitem.lookup (wpAny_getItem_of (intKind_is prog w i t) hm.mapOf hu New.int) (subscripted_plain hns _ _)
  · cases h

theorem sliceL_spec {α : Type} {l : List α} {lo hi : Option Int} {r : List α} (h : sliceL l lo hi = some r) :
    ∃ a b : Nat, lo.getD 0 = (a : Int) ∧ hi.getD l.length = (b : Int) ∧ (a : Int) < 2 ^ 62 ∧ (b : Int) < 2 ^ 62 ∧ l.length ≤ lim ∧ r = (l.take b).drop a := by
  unfold sliceL at h
  dsimp only at h
  split at h
  · rename_i hc
    simp only [Bool.and_eq_true, decide_eq_true_eq] at hc
    obtain ⟨⟨⟨⟨h1, h2⟩, h3⟩, h4⟩, h5⟩ := hc
    have h3 := small_iff h3
    have h4 := small_iff h4
    refine ⟨(lo.getD 0).toNat, (hi.getD l.length).toNat, by exact ar308 h1, by exact ar308 h2, by exact ar309 h3, by exact ar309 h4, h5, ?_⟩
    cases h; rfl
  · cases h
theorem bounds_of {lo hi : Option Int} {n a b : Nat} (ha : lo.getD 0 = (a : Int)) (hb : hi.getD n = (b : Int)) : sliceBounds lo hi none n = (((min a n : Nat) : Int), ((min b n : Nat) : Int), 1) := by
  unfold sliceBounds
  simp only [Option.getD_none, show (1 : Int) > 0 by decide, if_true]
  congr 1
  · cases lo with
    | none => simp only [Option.getD_none] at ha; dsimp only; exact ar310 ha
    | some i => simp only [Option.getD_some] at ha; dsimp only; split <;> (first | exact ar311 ha (by assumption) | exact ar312 ha)
  · congr 1
    cases hi with
    | none => simp only [Option.getD_none] at hb; dsimp only; exact ar313 hb
    | some i => simp only [Option.getD_some] at hb; dsimp only; split <;> (first | exact ar311 hb (by assumption) | exact ar312 hb)
theorem pick_take {α : Type} (xs : Array α) (a b : Nat) : ((List.range (min b xs.size - min a xs.size)).map (min a xs.size + ·)).filterMap (xs[·]?) = (xs.toList.take b).drop a := by
  rw [pick_run, List.drop_take]
  by_cases h : a ≤ xs.size
  · rw [Nat.min_eq_left h]
    by_cases h2 : b ≤ xs.size
    · rw [Nat.min_eq_left h2]
    · rw [Nat.min_eq_right (by exact ar314 h2), List.take_of_length_le (by simp), List.take_of_length_le (by simp; exact ar315 h2)]
  · rw [Nat.min_eq_right (by exact ar314 h : xs.size ≤ a)]
    rw [List.drop_of_length_le (by simp), List.drop_of_length_le (by simp; exact ar314 h)]; simp
theorem slicePick_take (items : Array Value) {lo hi : Option Int} {a b : Nat} (ha : lo.getD 0 = (a : Int)) (hb : hi.getD items.size = (b : Int)) : slicePick items lo hi none = ((items.toList.take b).drop a).toArray := by
  unfold slicePick
  rw [bounds_of ha hb]
  simp only [sliceRange_one]
  rw [pick_take]
theorem strSlice_take (cs : List Nat) {lo hi : Option Int} {a b : Nat} (ha : lo.getD 0 = (a : Int)) (hb : hi.getD cs.length = (b : Int)) :
    (strSliceIndices lo hi 1 cs.length).filterMap (cs.toArray[·]?) = (cs.take b).drop a := by
  have := pick_take cs.toArray a b
  simp only [List.size_toArray] at this
  rw [show (cs.toArray.toList.take b).drop a = (cs.take b).drop a by simp] at this
  rw [← this]
  have e : strSliceIndices lo hi 1 cs.length = sliceRange ((min a cs.length : Nat) : Int) ((min b cs.length : Nat) : Int) 1 := by
    show sliceRange (sliceBounds lo hi none cs.length).1 (sliceBounds lo hi none cs.length).2.1 1 = _
    rw [bounds_of ha hb]
  rw [e, sliceRange_one]

theorem rds_of_ims {h : Heap} : ∀ {ds : List D} {vs : List Value} {fp : List Addr} (a b : Nat), D.ims ds = true → Rds prog w h ds vs fp → Rds prog w h ((ds.take b).drop a) ((vs.take b).drop a) []
  | [], vs, fp, a, b, _, r => by obtain ⟨rfl, _⟩ := r; simp [Rds]
  | d :: ds, vs, fp, a, b, him, r => by
    obtain ⟨v, q, f, g, rfl, rfl, r1, r2⟩ := r
    simp only [D.ims, Bool.and_eq_true] at him
    cases b with
    | zero => simp [Rds]
    | succ b =>
      cases a with
      | zero =>
        have := rds_of_ims 0 b him.2 r2
        simp only [List.take_succ_cons, List.drop_zero] at this ⊢
        exact ⟨v, _, [], [], rfl, rfl, Rd.im_fp him.1 r1 ▸ r1, this⟩
      | succ a =>
        simp only [List.take_succ_cons, List.drop_succ_cons]
        exact rds_of_ims a b him.2 r2

theorem letGo_name {e : Expr} {x : Str} (h : nameId e = some x) (o r : Value) : letTemporaryGo e o r = pure () := by
  cases e <;> first | rfl | cases h

/-- the parts of a slice -/
noncomputable def PartIs (v : Value) (p : Option Int) : Prop := match p with
  | none => v = .none
  | some i => ∃ t, v = .int i t
theorem PartIs.isPart {v : Value} {p : Option Int} (h : PartIs v p) : IsPart v p := by
  cases p with
  | none => cases h; exact .none
  | some i => obtain ⟨t, rfl⟩ := h; exact .int i t
theorem PartIs.part {v : Value} {p : Option Int} (h : PartIs v p) : ∃ l, v = partValue l ∧ l.map (·.1) = p := by
  cases p with
  | none => cases h; exact ⟨none, rfl, rfl⟩
  | some i => obtain ⟨t, rfl⟩ := h; exact ⟨some (i, t), rfl, rfl⟩

theorem slice_sound {env : Env} {value : Expr} {x : Str} (hx : nameId value = some x) {lower upper : Option Expr} {p pos : Pos} {lo hi : Option Int} {d c : D}
    (h : sliceD d lo hi = some c)
    (hev : wpAny (model prog w) A (eval value env) (fun o s₁ => ∃ fp, Ext s s₁ ∧ Rd prog w s₁.heap d o fp ∧ wpAny (model prog w) A (evalPart lower env) (fun vl s₂ => Ext s₁ s₂ ∧ PartIs vl lo ∧
      wpAny (model prog w) A (evalPart upper env) (fun vu s₃ => Ext s₂ s₃ ∧ PartIs vu hi) E s₂) E s₁) E s) :
    wpAny (model prog w) A (eval (.Subscript value (.Slice lower upper none p) pos) env) (fun v s' => New prog w s s' c v) E s := by
  unfold sliceD at h
  split at h
  · rename_i l
    split at h
    · rename_i him
      obtain ⟨r, hr, rfl⟩ := Option.map_eq_some_iff.mp h
      obtain ⟨a, b, ha, hb, _, _, hlen, rfl⟩ := sliceL_spec hr
      refine wpAny_Subscript_list_slice (wpAny_mono hev (fun o s₁ h₁ => ?_) fun _ _ e => e) (letGo_name hx)
      obtain ⟨fp, e1, rd, h₁⟩ := h₁
      obtain ⟨al, vs, rfl, hl, rs, rfl⟩ := rd
      refine wpAny_mono h₁ (fun vl s₂ h₂ => ?_) fun _ _ e => e
      obtain ⟨e2, pl, h₂⟩ := h₂
      refine wpAny_mono h₂ (fun vu s₃ h₃ => ?_) fun _ _ e => e
      obtain ⟨e3, pu⟩ := h₃
      have hk : ∀ b o, s₁.heap.get? b = some o → s₃.heap.get? b = some o := (e2.trans e3).keep
      have hl3 : s₃.heap.PlainList al vs.toArray := let ⟨n, q⟩ := hl; ⟨n, hk _ _ q⟩
      have hlv := rs.length
      refine ⟨al, vs.toArray, lo, hi, rfl, hl3.isList, by rw [sizeLine_eq]; unfold lim at hlen; simp; exact ar316 hlen hlv, pl.isPart, pu.isPart, ?_⟩
      rw [slicePick_take vs.toArray (lo := lo) (hi := hi) ha (by simpa [hlv] using hb)]
      have e4 : ∀ o : Obj, Ext s₃ { s₃ with heap := s₃.heap.push o } := fun o => Ext.push (tk := s₃.toks)
      have nl := New.list (s := { s₃ with heap := s₃.heap.push { cls := .type "slice", data := .fields #[vl, vu, .none] } }) (k := s₃.toks)
        ((rds_of_ims a b him rs).keeps fun b' o' e => (e4 _).keep b' o' (hk b' o' e))
      have e5 := ((e1.trans e2).trans e3).trans (e4 { cls := .type "slice", data := .fields #[vl, vu, .none] })
      obtain ⟨n1, fp, n2, n3, n4⟩ := nl
      rw [show (s₃.heap.objs.size + 1) = (s₃.heap.push { cls := .type "slice", data := .fields #[vl, vu, .none] }).objs.size from (Heap.size_push ..).symm]
      exact ⟨e5.trans n1, fp, n2, n3, fun x hx => e5.fresh (n4 x hx)⟩
    · cases h
  · rename_i cs
    obtain ⟨r, hr, rfl⟩ := Option.map_eq_some_iff.mp h
    obtain ⟨a, b, ha, hb, _, _, hlen, rfl⟩ := sliceL_spec hr
    refine wpAny_Subscript_str_slice (wpAny_mono hev (fun o s₁ h₁ => ?_) fun _ _ e => e) (letGo_name hx)
    obtain ⟨fp, e1, rd, h₁⟩ := h₁
    obtain ⟨⟨t, rfl⟩, rfl⟩ := rd
    refine wpAny_mono h₁ (fun vl s₂ h₂ => ?_) fun _ _ e => e
    obtain ⟨e2, pl, h₂⟩ := h₂
    refine wpAny_mono h₂ (fun vu s₃ h₃ => ?_) fun _ _ e => e
    obtain ⟨e3, pu⟩ := h₃
    obtain ⟨l, hl, hl'⟩ := pl.part
    obtain ⟨u, hu, hu'⟩ := pu.part
    refine ⟨⟨cs.toArray⟩, t, l, u, rfl, hl, hu, ?_⟩
    have e4 : Ext s₃ { s₃ with heap := s₃.heap.push { cls := .type "slice", data := .fields #[vl, vu, .none] } } := Ext.push (tk := s₃.toks)
    have e5 := ((e1.trans e2).trans e3).trans e4
    have hp : slicePicked ⟨cs.toArray⟩ l u none = strSliceIndices lo hi 1 cs.length := by
      unfold slicePicked
      rw [hl', hu']; rfl
    have hs := strSlice_take cs ha hb
    unfold sliceMade
    rw [hp]
    split
    · rename_i hc
      have hlen' : (strSliceIndices lo hi 1 cs.length).length = cs.length := by
        simp only [Bool.and_eq_true, beq_iff_eq] at hc
        simpa [Str.length] using hc.2
      have : (cs.take b).drop a = cs := by
        rw [← hs]
        have e : strSliceIndices lo hi 1 cs.length = sliceRange ((min a cs.length : Nat) : Int) ((min b cs.length : Nat) : Int) 1 := by
          show sliceRange (sliceBounds lo hi none cs.length).1 (sliceBounds lo hi none cs.length).2.1 1 = _
          rw [bounds_of ha hb]
        rw [hs]
        rw [e, sliceRange_one] at hlen'
        simp at hlen'
        apply List.ext_getElem?
        intro i
        by_cases hi' : cs.length = 0
        · simp [List.eq_nil_of_length_eq_zero hi']
        · have h1 : cs.length ≤ b := by exact ar317 hlen'
          have h2 : a = 0 := by exact ar318 hlen' hi'
          rw [List.take_of_length_le h1, h2, List.drop_zero]
      rw [this]
      exact ⟨e5, [], ⟨⟨_, rfl⟩, rfl⟩, List.nodup_nil, fun _ x => nomatch x⟩
    · show _ ∧ _
      refine ⟨?_, ?_⟩
      · show (List.toArray _).size ≤ _
        rw [show (fun x => (Str.mk cs.toArray).cps[x]?) = fun x => cs.toArray[x]? from rfl, hs, sizeLine_eq]
        unfold lim at hlen
        simp; exact ar319 hlen
      · rw [show (fun x => (Str.mk cs.toArray).cps[x]?) = fun x => cs.toArray[x]? from rfl, hs]
        exact ⟨e5.trans Ext.toks, [], ⟨⟨_, rfl⟩, rfl⟩, List.nodup_nil, fun _ x => nomatch x⟩
  · cases h
end Mine
end
section
open PySem PySem.W PyProof.Rows
set_option maxRecDepth 100000
namespace Mine

noncomputable def Kp (h₀ : Heap) (s : Shared) : Prop := ∀ b o, h₀.get? b = some o → s.heap.get? b = some o
theorem Kp.ext {h₀ : Heap} {s s' : Shared} (k : Kp h₀ s) (e : Ext s s') : Kp h₀ s' := fun b o x => e.keep b o (k b o x)
noncomputable abbrev No : Value → Shared → Prop := fun _ _ => False

structure EnvOk (sc : Scope) (env : Env) : Prop where
  names : env.scope.names = sc.names
  kind : env.scope.kind = .function
  skind : sc.kind = .function
  glob : env.globals = mainGlobals
  blt : env.builtins = builtinsNs
  cells : ∀ x, sc.names.lookup x = some .cell → ∃ c, env.cells.lookup x = some c
theorem EnvOk.kindOf {sc : Scope} {env : Env} (h : EnvOk sc env) (x : Str) : env.kindOf x = sc.names.lookup x := by
  unfold Env.kindOf; rw [h.names]

structure GlOk (prog : Program) (w : World) (A : Around) (h₀ : Heap) (mg mb : Str → Option Value) : Prop where
  g : h₀.Ns mainGlobals mg
  b : h₀.Ns builtinsNs mb
  hnd : A.handled = none
  room : A.units + 200 < cLine
  blt : ∀ x ∈ builtins1, mg x = none ∧ mb x = bootBuiltins x

section
variable {prog : Program} {w : World} {A : Around} {h₀ : Heap} {mg mb : Str → Option Value}

noncomputable def fineE : Expr → Bool
  | .Starred .. => false
  | .SetComp .. => false
  | .DictComp .. => false
  | _ => true
/-- a list that a comprehension makes, for the frame's own use -/
noncomputable def CompW (prog : Program) (w : World) (A : Around) (h₀ : Heap) (sc : Scope) (elt : Expr) (gens : List Comprehension) (csc : Scope) (pos : Pos) (ρ : Store) (d : D) : Prop :=
  ∀ env s, EnvOk sc env → Kp h₀ s → Vars prog w s.heap env ρ → ∀ (pp : Pos) (use : Option (Value → Sem Unit)) (E : Value → Shared → Prop) (Q : Value → Shared → Prop),
    (∀ L C s', Ext s s' → s.heap.get? L = none → s.heap.get? C = none → L ≠ C → (∃ m, s'.heap.Ns C m) → Rd prog w s'.heap d (.ref L) [L] → compPost (model prog w) A E use Q (.ref L) C (.ok .next) s') →
    wpAny (model prog w) A (comprehension (.ListComp elt gens csc pos) csc env pp (newList []) (firstAsync gens) (firstIter gens env) use) Q E s
noncomputable def LcOf (prog : Program) (w : World) (A : Around) (h₀ : Heap) (sc : Scope) (ρ : Store) (d : D) (bs : List Str) : Expr → Prop
  | .ListComp elt gens csc pos => bs = [] ∧ CompW prog w A h₀ sc elt gens csc pos ρ d
  | _ => True
/-- an expression's run: it ends and tells d; what it borrows -/
structure EvS (prog : Program) (w : World) (A : Around) (h₀ : Heap) (sc : Scope) (e : Expr) (ρ : Store) (d : D) (bs : List Str) : Prop where
  fine : fineE e = true
  lc : LcOf prog w A h₀ sc ρ d bs e
  run : ∀ env s, EnvOk sc env → Kp h₀ s → Vars prog w s.heap env ρ →
    wpAny (model prog w) A (eval e env) (fun v s' => Ext s s' ∧ Res prog w env ρ bs s s' d v) No s
theorem EvS.ns {sc : Scope} {e : Expr} {ρ : Store} {d : D} {bs : List Str} (h : EvS prog w A h₀ sc e ρ d bs) (x : Expr) (p : Pos) : e ≠ .Starred x p := by
  rintro rfl
  exact absurd h.fine Bool.false_ne_true
structure EvsS (prog : Program) (w : World) (A : Around) (h₀ : Heap) (sc : Scope) (es : List Expr) (ρ : Store) (ds : List D) : Prop where
  hd : ∀ e r, es = e :: r → ∀ x p, e ≠ .Starred x p
  run : ∀ env s pos, EnvOk sc env → Kp h₀ s → Vars prog w s.heap env ρ →
    wpAny (model prog w) A (spliced (backTo pos (starEach es env))) (fun vs s' => Ext s s' ∧ ∃ fp, Rds prog w s'.heap ds vs fp) No s
noncomputable def EvBS (prog : Program) (w : World) (A : Around) (h₀ : Heap) (sc : Scope) (e : Expr) (ρ : Store) (b : Bool) : Prop :=
  ∀ env s, EnvOk sc env → Kp h₀ s → Vars prog w s.heap env ρ →
    wpAny (model prog w) A (isTrue e env (eval e env)) (fun c s' => Ext s s' ∧ c = b) No s
noncomputable def EvBoolS (prog : Program) (w : World) (A : Around) (h₀ : Heap) (sc : Scope) (op : BoolOp) (es : List Expr) (ρ : Store) (b : Bool) : Prop :=
  ∀ env s, EnvOk sc env → Kp h₀ s → Vars prog w s.heap env ρ →
    wpAny (model prog w) A (allTrue op es env) (fun c s' => Ext s s' ∧ c = b) No s

theorem New.res {env : Env} {ρ : Store} {s s' : Shared} {d : D} {v : Value} {bs : List Str} (h : New prog w s s' d v) : Ext s s' ∧ Res prog w env ρ bs s s' d v :=
  ⟨h.1, let ⟨fp, a, b, c⟩ := h.2; ⟨fp, a, b, fun x hx => .inl (c x hx)⟩⟩
theorem New.after {s s₁ s' : Shared} {d : D} {v : Value} (e : Ext s s₁) (h : New prog w s₁ s' d v) : New prog w s s' d v :=
  ⟨e.trans h.1, let ⟨fp, a, b, c⟩ := h.2; ⟨fp, a, b, fun x hx => e.fresh (c x hx)⟩⟩
theorem wp_no {M : Model} {α : Type} {t : Sem α} {Q Q' : α → Shared → Prop} {E : Value → Shared → Prop} {s : Shared} (h : wpAny M A t Q No s) (hq : ∀ a s', Q a s' → Q' a s') : wpAny M A t Q' E s :=
  wpAny_mono h hq fun _ _ x => x.elim

/-- a name of the frame's -/
theorem name_sound {sc : Scope} {x : Str} {pos : Pos} {ρ : Store} {d : D} {env : Env} {s : Shared} (hd : ρ.get x = some d) (hk : kindOk sc x = true) (O : EnvOk sc env) (V : Vars prog w s.heap env ρ) :
    wpAny (model prog w) A (eval (.Name x pos) env) (fun v s' => Ext s s' ∧ Res prog w env ρ (if d.mut then [x] else []) s s' d v) No s := by
  obtain ⟨hok, v, fp, hv, hr⟩ := V x d hd
  have hres : Res prog w env ρ (if d.mut then [x] else []) s s d v := by
    rcases D.ok_cases hok with hi | hm
    · exact ⟨[], Rd.im_fp hi hr ▸ hr, List.nodup_nil, fun _ x => nomatch x⟩
    · obtain ⟨a, rfl, rfl⟩ := Rd.mut_ref hm hr
      refine ⟨[a], hr, by simp, fun b hb => ?_⟩
      simp at hb; subst hb
      rw [if_pos hm]
      exact .inr ⟨x, by simp, ⟨d, hd, hm⟩, hv⟩
  unfold kindOk at hk
  have hdb : (x == ("__debug__" : Str)) = false ∧ (x == ("__classdict__" : Str)) = false := by
    split at hk <;> first | (simp only [Bool.and_eq_true, bne, Bool.not_eq_true'] at hk; exact hk) | cases hk
  refine wpAny_Name ?_ hdb.1
  rcases hv with ⟨k, m, hm, e⟩ | ⟨k | k, c, hc, hcv⟩
  · exact wpAny_loadName_local O.kind k hm e ⟨Ext.refl s, hres⟩
  · exact wpAny_loadName_cell O.kind k hc hcv ⟨Ext.refl s, hres⟩
  · exact wpAny_loadName_free O.kind k hc hcv ⟨Ext.refl s, hres⟩ hdb.2

/-- a name of the text's top -/
theorem glob_name {sc : Scope} {x : Str} {pos : Pos} {env : Env} {s : Shared} {v : Value} {E : Value → Shared → Prop} {Q : Value → Shared → Prop} (G : GlOk prog w A h₀ mg mb) (hg : globOk sc x = true) (O : EnvOk sc env) (K : Kp h₀ s) (hv : mg x = some v) (h : Q v s) :
    wpAny (model prog w) A (eval (.Name x pos) env) Q E s := by
  unfold globOk at hg
  simp only [Bool.and_eq_true, beq_iff_eq] at hg
  refine Calls.Name_function_global O.kind (by rw [O.kindOf]; exact hg.1) (Calls.loadGlobal_global (mg := mg) (by rw [O.glob]; exact G.g.keeps K) hv h) (by simpa [bne] using hg.2)
theorem blt_name {sc : Scope} {x : Str} {pos : Pos} {env : Env} {s : Shared} {v : Value} {E : Value → Shared → Prop} {Q : Value → Shared → Prop} (G : GlOk prog w A h₀ mg mb) (hg : globOk sc x = true) (O : EnvOk sc env) (K : Kp h₀ s) (hx : x ∈ builtins1) (hb : bootBuiltins x = some v) (h : Q v s) :
    wpAny (model prog w) A (eval (.Name x pos) env) Q E s := by
  unfold globOk at hg
  simp only [Bool.and_eq_true, beq_iff_eq] at hg
  obtain ⟨h1, h2⟩ := G.blt x hx
  refine Calls.Name_function_global O.kind (by rw [O.kindOf]; exact hg.1) (Calls.loadGlobal_builtin (mg := mg) (mb := mb) (by rw [O.glob]; exact G.g.keeps K) h1 (by rw [O.blt]; exact G.b.keeps K) (h2.trans hb) h) (by simpa [bne] using hg.2)

theorem const_sound {c : Const} {d : D} {k : Nat} {pos : Pos} {env : Env} {s : Shared} (h : constD c = some d) :
    wpAny (model prog w) A (eval (.Constant c k pos) env) (fun v s' => New prog w s s' d v) No s := by
  cases c <;> simp only [constD, Option.some.injEq] at h <;> first | cases h | skip
  · exact wpAny_Constant_none ⟨Ext.refl s, [], ⟨rfl, rfl⟩, List.nodup_nil, fun _ x => nomatch x⟩
  · exact wpAny_Constant_bool New.bool
  · exact wpAny_Constant_int New.int
  · rename_i x
    refine wpAny_Constant_str ?_
    exact New.str (cs := x.cps.toList) (t := s.toks)

theorem starEach_cons {e : Expr} {r : List Expr} {env : Env} (h : ∀ x p, e ≠ .Starred x p) : starEach (e :: r) env = (false, eval e env) :: starEach r env := by
  cases e <;> first | rfl | exact absurd rfl (h _ _)
/-- a value of an expression, with what stands behind it -/
theorem EvS.step {sc : Scope} {e : Expr} {ρ : Store} {d : D} {bs : List Str} (h : EvS prog w A h₀ sc e ρ d bs) {env : Env} {s : Shared} (O : EnvOk sc env) (K : Kp h₀ s) (V : Vars prog w s.heap env ρ) {Q : Value → Shared → Prop} {E : Value → Shared → Prop}
    (hq : ∀ v s' fp, Ext s s' → Kp h₀ s' → Vars prog w s'.heap env ρ → Rd prog w s'.heap d v fp → (fp.Nodup ∧ ∀ a ∈ fp, s.heap.get? a = none ∨ Bor ρ env bs s.heap a) → Q v s') : wpAny (model prog w) A (eval e env) Q E s :=
  wp_no (h.run env s O K V) fun v s' q => let ⟨e, fp, r, n⟩ := q; hq v s' fp e (K.ext e) (V.keeps e.keep) r n

theorem evs_nil {sc : Scope} {ρ : Store} : EvsS prog w A h₀ sc [] ρ [] :=
  ⟨fun _ _ h => (nomatch h), fun _ s _ _ _ _ => wpAny_items_nil ⟨Ext.refl s, [], rfl, rfl⟩⟩
theorem evs_cons {sc : Scope} {ρ : Store} {e : Expr} {r : List Expr} {d : D} {bs : List Str} {ds : List D} (h1 : EvS prog w A h₀ sc e ρ d bs) (h2 : EvsS prog w A h₀ sc r ρ ds) : EvsS prog w A h₀ sc (e :: r) ρ (d :: ds) where
  hd := fun _ _ h => by cases h; exact h1.ns
  run := fun env s pos O K V => by
    refine wpAny_items_cons (h1.step O K V fun v s₁ fp e1 K1 V1 rd _ => ?_) (starEach_cons h1.ns)
    refine wp_no (h2.run env s₁ pos O K1 V1) fun vs s₂ h₂ => ?_
    obtain ⟨e2, fq, rq⟩ := h₂
    exact ⟨e1.trans e2, fp ++ fq, v, vs, fp, fq, rfl, rfl, rd.keeps e2.keep, rq⟩

theorem bool_one {sc : Scope} {op : BoolOp} {e : Expr} {ρ : Store} {b : Bool} (h : EvBS prog w A h₀ sc e ρ b) : EvBoolS prog w A h₀ sc op [e] ρ b := fun env s O K V => by
  cases op
  · refine wpAny_allTrue_And_cons (wp_no (h env s O K V) fun c' s₁ h₁ => ?_)
    cases c'
    · exact h₁
    · exact wpAny_allTrue_And_nil ⟨h₁.1, h₁.2⟩
  · refine wpAny_allTrue_Or_cons (wp_no (h env s O K V) fun c' s₁ h₁ => ?_)
    cases c'
    · exact wpAny_allTrue_Or_nil ⟨h₁.1, h₁.2⟩
    · exact h₁
theorem bool_and {sc : Scope} {e e' : Expr} {r : List Expr} {ρ : Store} {b c : Bool} (h : EvBS prog w A h₀ sc e ρ b) (h' : b = true → EvBoolS prog w A h₀ sc .And (e' :: r) ρ c) : EvBoolS prog w A h₀ sc .And (e :: e' :: r) ρ (b && c) := fun env s O K V => by
  refine wpAny_allTrue_And_cons (wp_no (h env s O K V) fun c' s₁ h₁ => ?_)
  obtain ⟨e1, rfl⟩ := h₁
  cases c'
  · exact ⟨e1, rfl⟩
  · exact wp_no (h' rfl env s₁ O (K.ext e1) (V.keeps e1.keep)) fun c s₂ h₂ => ⟨e1.trans h₂.1, h₂.2⟩
theorem bool_or {sc : Scope} {e e' : Expr} {r : List Expr} {ρ : Store} {b c : Bool} (h : EvBS prog w A h₀ sc e ρ b) (h' : b = false → EvBoolS prog w A h₀ sc .Or (e' :: r) ρ c) : EvBoolS prog w A h₀ sc .Or (e :: e' :: r) ρ (b || c) := fun env s O K V => by
  refine wpAny_allTrue_Or_cons (wp_no (h env s O K V) fun c' s₁ h₁ => ?_)
  obtain ⟨e1, rfl⟩ := h₁
  cases c'
  · exact wp_no (h' rfl env s₁ O (K.ext e1) (V.keeps e1.keep)) fun c s₂ h₂ => ⟨e1.trans h₂.1, h₂.2⟩
  · exact ⟨e1, rfl⟩
end
end Mine
end
section
open PySem PySem.W PyProof.Rows
set_option maxRecDepth 100000
namespace Mine
section
variable {prog : Program} {w : World} {A : Around} {h₀ : Heap} {mg mb : Str → Option Value}

theorem nodup_one (a : Addr) : [a].Nodup := List.nodup_cons.mpr ⟨nofun, List.nodup_nil⟩
theorem res_of_new {env : Env} {ρ : Store} {s s₁ : Shared} (e : Ext s s₁) {bs : List Str} {d : D} {v : Value} {s' : Shared} (h : New prog w s₁ s' d v) : Ext s s' ∧ Res prog w env ρ bs s s' d v := (New.after e h).res

theorem ev_Const {sc : Scope} {c : Const} {d : D} {k : Nat} {pos : Pos} {ρ : Store} (h : constD c = some d) : EvS prog w A h₀ sc (.Constant c k pos) ρ d [] :=
  ⟨rfl, trivial, fun _ _ _ _ _ => wp_no (const_sound h) fun _ _ q => q.res⟩
theorem ev_NameL {sc : Scope} {x : Str} {pos : Pos} {ρ : Store} {d : D} (hd : ρ.get x = some d) (hk : kindOk sc x = true) : EvS prog w A h₀ sc (.Name x pos) ρ d (if d.mut then [x] else []) :=
  ⟨rfl, trivial, fun _ _ O _ V => name_sound hd hk O V⟩
theorem ev_NameG (G : GlOk prog w A h₀ mg mb) {sc : Scope} {x : Str} {pos : Pos} {ρ : Store} {d : D} (hg : globOk sc x = true) {v : Value} (hm : mg x = some v) (hr : ∀ h, Rd prog w h d v []) : EvS prog w A h₀ sc (.Name x pos) ρ d [] :=
  ⟨rfl, trivial, fun _ s O K _ => glob_name G hg O K hm ⟨Ext.refl s, [], hr _, List.nodup_nil, fun _ x => nomatch x⟩⟩

theorem ev_BinOp {sc : Scope} {l r : Expr} {op : Operator} {pos : Pos} {ρ : Store} {a b c : D} {ba bb : List Str} (h1 : EvS prog w A h₀ sc l ρ a ba) (h2 : EvS prog w A h₀ sc r ρ b bb) (h3 : OpR op a b c) : EvS prog w A h₀ sc (.BinOp l op r pos) ρ c [] where
  fine := rfl
  lc := trivial
  run := fun env s O K V => wpAny_BinOp (h1.step O K V fun va s₁ fa e1 K1 V1 ra _ => h2.step O K1 V1 fun vb s₂ fb e2 _ _ rb _ =>
    wp_no (op_sound h3 (ra.keeps e2.keep) rb) fun _ _ hn => res_of_new (e1.trans e2) hn)
theorem ev_UnaryOp {sc : Scope} {x : Expr} {op : UnaryOp} {pos : Pos} {ρ : Store} {a c : D} {ba : List Str} (h1 : EvS prog w A h₀ sc x ρ a ba) (h3 : UopR op a c) : EvS prog w A h₀ sc (.UnaryOp op x pos) ρ c [] where
  fine := rfl
  lc := trivial
  run := fun env s O K V => wpAny_UnaryOp (h1.step O K V fun va s₁ fa e1 _ _ ra _ => wp_no (uop_sound h3 ra) fun _ _ hn => res_of_new e1 hn)

theorem room64 (G : GlOk prog w A h₀ mg mb) : A.units + 64 < cLine := Nat.lt_of_le_of_lt (Nat.add_le_add_left (by decide) _) G.room

theorem ev_Compare (G : GlOk prog w A h₀ mg mb) {sc : Scope} {l r : Expr} {op : CmpOp} {pos : Pos} {ρ : Store} {a b : D} {c : Bool} {ba bb : List Str} (hm : behindInMarks op r = false) (h1 : EvS prog w A h₀ sc l ρ a ba) (h2 : EvS prog w A h₀ sc r ρ b bb) (h3 : CmpR op a b c) :
    EvS prog w A h₀ sc (.Compare l [op] [r] pos) ρ (.bool c) [] where
  fine := rfl
  lc := trivial
  run := fun env s O K V => wpAny_Compare1 (h1.step O K V fun va s₁ fa e1 K1 V1 ra _ => h2.step O K1 V1 fun vb s₂ fb e2 _ _ rb _ =>
    wp_no (cmp_sound (room64 G) h3 (ra.keeps e2.keep) rb) fun v s' hn => ⟨(e1.trans e2).trans hn.2, [], ⟨hn.1, rfl⟩, List.nodup_nil, fun _ x => nomatch x⟩) hm

theorem ev_List {sc : Scope} {es : List Expr} {pos : Pos} {ρ : Store} {ds : List D} (h1 : EvsS prog w A h₀ sc es ρ ds) (hi : D.ims ds = true) (hl : ds.length ≤ lim) : EvS prog w A h₀ sc (.List es pos) ρ (.list ds) [] where
  fine := rfl
  lc := trivial
  run := fun env s O K V => by
    refine wpAny_List (wp_no (h1.run env s pos O K V) fun vs s₁ q₁ => ?_)
    obtain ⟨e1, fp, r⟩ := q₁
    have h2 := r.length
    have := Rds.im_fp hi r
    subst this
    refine ⟨by rw [sizeLine_eq, h2]; exact Nat.le_trans hl (by decide), ?_⟩
    exact res_of_new e1 (New.list (k := s₁.toks) r)

structure EvTS (prog : Program) (w : World) (A : Around) (h₀ : Heap) (sc : Scope) (es : List Expr) (ρ : Store) (ds : List D) (bs : List Str) : Prop where
  run : ∀ env s pos, EnvOk sc env → Kp h₀ s → Vars prog w s.heap env ρ →
    wpAny (model prog w) A (spliced (backTo pos (starEach es env))) (fun vs s' => Ext s s' ∧ ∃ fp, Rds prog w s'.heap ds vs fp ∧ fp.Nodup ∧ ∀ a ∈ fp, s.heap.get? a = none ∨ Bor ρ env bs s.heap a) No s
theorem evT_nil {sc : Scope} {ρ : Store} : EvTS prog w A h₀ sc [] ρ [] [] :=
  ⟨fun _ s _ _ _ _ => wpAny_items_nil ⟨Ext.refl s, [], ⟨rfl, rfl⟩, List.nodup_nil, fun _ x => nomatch x⟩⟩
theorem evT_cons {sc : Scope} {ρ : Store} {e : Expr} {r : List Expr} {d : D} {b1 b2 : List Str} {dr : List D} (h1 : EvS prog w A h₀ sc e ρ d b1) (h2 : EvTS prog w A h₀ sc r ρ dr b2) (hb : (b1 ++ b2).length ≤ 1) : EvTS prog w A h₀ sc (e :: r) ρ (d :: dr) (b1 ++ b2) := ⟨fun env s pos O K V => by
  refine wpAny_items_cons (h1.step O K V fun v s₁ fp e1 K1 V1 rd n1 => ?_) (starEach_cons h1.ns)
  obtain ⟨nd, fr⟩ := n1
  refine wp_no (h2.run env s₁ pos O K1 V1) fun vs s₂ q₂ => ?_
  obtain ⟨e2, fq, rq, nq, fr2⟩ := q₂
  refine ⟨e1.trans e2, fp ++ fq, ⟨v, vs, fp, fq, rfl, rfl, rd.keeps e2.keep, rq⟩, ?_, fun a ha => ?_⟩
  · rw [List.nodup_append]
    refine ⟨nd, nq, fun a ha b hb' e => ?_⟩
    subst e
    rcases fr2 a hb' with q | q
    · have := Rd.there rd a ha
      rw [q] at this; cases this
    · rcases fr a ha with p | p
      · have := (Bor.back V e1.keep q).2
        rw [p] at this; cases this
      · obtain ⟨x, hx, _⟩ := p
        obtain ⟨y, hy, _⟩ := q
        have h1' := List.length_pos_of_mem hx
        have h2' := List.length_pos_of_mem hy
        rw [List.length_append] at hb; exact ar231 hb h1' h2'
  · rcases List.mem_append.mp ha with ha | ha
    · exact (fr a ha).imp id fun q => q.mono fun x hx => List.mem_append_left _ hx
    · rcases fr2 a ha with q | q
      · exact .inl (e1.fresh q)
      · exact .inr ((Bor.back V e1.keep q).1.mono fun x hx => List.mem_append_right _ hx)⟩

theorem ev_Tuple {sc : Scope} {es : List Expr} {k : Nat} {pos : Pos} {ρ : Store} {ds : List D} {bs : List Str} (h1 : EvTS prog w A h₀ sc es ρ ds bs) (hl : ds.length ≤ lim) : EvS prog w A h₀ sc (.Tuple es k pos) ρ (.tuple ds) bs where
  fine := rfl
  lc := trivial
  run := fun env s O K V => by
    refine wpAny_Tuple (wp_no (h1.run env s pos O K V) fun vs s₁ q₁ => ?_)
    obtain ⟨e1, fp, r, nd, fr⟩ := q₁
    have h2 := r.length
    exact ⟨by rw [sizeLine_eq, h2]; exact Nat.le_trans hl (by decide), e1.trans (Ext.push (tk := s₁.toks)), fp, ⟨_, vs, rfl, ⟨0, Heap.get?_push_size _ rfl⟩, r.keeps fun _ _ e => Heap.get?_push_of_some _ e⟩, nd, fr⟩

theorem size_big (G : GlOk prog w A h₀ mg mb) {s : Shared} (K : Kp h₀ s) : 3 < s.heap.objs.size := (G.g.keeps K).lt
theorem not_sys (G : GlOk prog w A h₀ mg mb) {s : Shared} (K : Kp h₀ s) : (s.heap.objs.size == sysModules) = false := by
  have hb := size_big G K
  rw [beq_eq_false_iff_ne]; intro e
  have : s.heap.objs.size = 1 := e
  exact ar232 hb this

theorem ev_Dict0 (G : GlOk prog w A h₀ mg mb) {sc : Scope} {pos : Pos} {ρ : Store} : EvS prog w A h₀ sc (.Dict [] [] pos) ρ (.dict []) [] where
  fine := rfl
  lc := trivial
  run := fun env s _ K _ => by
    rw [eval_Dict_empty]
    refine wpAny_bind (wpAny_standAt ?_)
    refine wpAny_newObj_type ?_
    exact ⟨Ext.push (tk := s.toks), [s.heap.objs.size], ⟨_, [], rfl, Heap.DictOf.new s.heap, .nil, not_sys G K, rfl⟩, nodup_one _, fun a ha => .inl (List.mem_singleton.mp ha ▸ fresh_size _)⟩

theorem ev_Dict1 (G : GlOk prog w A h₀ mg mb) {sc : Scope} {k v : Expr} {pos : Pos} {ρ : Store} {i j : Int} {ba bb : List Str} (h1 : EvS prog w A h₀ sc k ρ (.int i) ba) (h2 : EvS prog w A h₀ sc v ρ (.int j) bb) : EvS prog w A h₀ sc (.Dict [some k] [v] pos) ρ (.dict [(i, j)]) [] where
  fine := rfl
  lc := trivial
  run := fun env s O K V => by
    have e0 : Ext s { s with heap := s.heap.push { cls := .type "dict", data := .dict #[] } } := Ext.push (tk := s.toks)
    refine wpAny_Dict_pairs (knd := intKind prog w) (pairs := [(eval k env, do let x ← eval v env; standAt pos; pure x)]) rfl (by simp) (by simp) ?_
    refine evalPairs_cons (h1.step O (K.ext e0) (V.keeps e0.keep) fun kv s₁ fa e1 K1 V1 r1 _ => ?_)
    obtain ⟨⟨t, rfl⟩, _⟩ := r1
    refine wpAny_bind (h2.step O K1 V1 fun vv s₂ fb e2 _ _ r2 _ => ?_)
    obtain ⟨⟨u, rfl⟩, _⟩ := r2
    refine wpAny_bind (wpAny_standAt (wpAny_pure (evalPairs_nil ?_)))
    have e12 := e1.trans e2
    refine ⟨[(i, .int j u)], ⟨intKind_is prog w i t, rfl, trivial⟩, (Heap.DictOf.new s.heap).keep e12.keep, fun h' hd hs => ?_⟩
    have hk : ∀ b o, s.heap.get? b = some o → h'.get? b = some o := fun b o e => hs.extBut b o (Nat.ne_of_lt (Heap.lt_size e)) (e12.keep b o (e0.keep b o e))
    have e3 := e0.trans e12
    exact ⟨⟨hk, e3.os, e3.gens, e3.bare⟩, [s.heap.objs.size], ⟨_, [(i, .int j u)], rfl, hd, .cons .nil, not_sys G K, rfl⟩, nodup_one _, fun a ha => .inl (List.mem_singleton.mp ha ▸ fresh_size _)⟩

noncomputable def EvOS (prog : Program) (w : World) (A : Around) (h₀ : Heap) (sc : Scope) (e : Option Expr) (ρ : Store) (r : Option Int) : Prop :=
  ∀ env s, EnvOk sc env → Kp h₀ s → Vars prog w s.heap env ρ →
    wpAny (model prog w) A (evalPart e env) (fun v s' => Ext s s' ∧ PartIs v r) No s
theorem evO_none {sc : Scope} {ρ : Store} : EvOS prog w A h₀ sc none ρ none := fun env s _ _ _ => by
  rw [evalPart_none]
  exact wpAny_pure ⟨Ext.refl s, rfl⟩
theorem evO_some {sc : Scope} {e : Expr} {ρ : Store} {i : Int} {ba : List Str} (h1 : EvS prog w A h₀ sc e ρ (.int i) ba) : EvOS prog w A h₀ sc (some e) ρ (some i) := fun env s O K V => by
  rw [evalPart_some]
  refine h1.step O K V fun v s₁ fa e1 _ _ r _ => ?_
  obtain ⟨⟨t, rfl⟩, _⟩ := r
  exact ⟨e1, t, rfl⟩

theorem ev_Slice {sc : Scope} {a : Expr} {lo hi : Option Expr} {p pos : Pos} {ρ : Store} {c r : D} {ba : List Str} {l u : Option Int} (hn : (nameId a).isNone = false) (h1 : EvS prog w A h₀ sc a ρ c ba) (h2 : EvOS prog w A h₀ sc lo ρ l) (h3 : EvOS prog w A h₀ sc hi ρ u) (h4 : sliceD c l u = some r) :
    EvS prog w A h₀ sc (.Subscript a (.Slice lo hi none p) pos) ρ r [] where
  fine := rfl
  lc := trivial
  run := fun env s O K V => by
    obtain ⟨x, hx⟩ : ∃ x, nameId a = some x := by
      cases q : nameId a
      · rw [q] at hn; cases hn
      · exact ⟨_, rfl⟩
    refine wp_no (slice_sound hx h4 (h1.step O K V fun v s₁ fp e1 K1 V1 rd _ => ?_)) fun v s' hn => hn.res
    refine ⟨fp, e1, rd, wp_no (h2 env s₁ O K1 V1) fun vl s₂ q₂ => ?_⟩
    exact ⟨q₂.1, q₂.2, wp_no (h3 env s₂ O (K1.ext q₂.1) (V1.keeps q₂.1.keep)) fun vu s₃ q₃ => q₃⟩

theorem ev_Subscript {sc : Scope} {a i : Expr} {pos : Pos} {ρ : Store} {c k r : D} {ba bk : List Str} (hns : noSlice i = true) (h1 : EvS prog w A h₀ sc a ρ c ba) (h2 : EvS prog w A h₀ sc i ρ k bk) (h4 : subD c k = some r) : EvS prog w A h₀ sc (.Subscript a i pos) ρ r [] where
  fine := rfl
  lc := trivial
  run := fun env s O K V => Subscript_ (h1.step O K V fun v s₁ fp e1 K1 V1 rd _ => h2.step O K1 V1 fun vi s₂ fi e2 _ _ ri _ =>
    wp_no (sub_sound hns h4 (rd.keeps e2.keep) ri) fun v s' hn => res_of_new (e1.trans e2) hn)

theorem callWith_fn {pos : Pos} {f : Addr} {o : Obj} {fd : FuncData} {env : Env} {s : Shared} {es : List Expr} {E : Value → Shared → Prop} {Q : Value → Shared → Prop} (hdat : o.data = .func fd) (hne : es ≠ [])
    (h : wpAny (model prog w) A (spliced (backTo pos (starEach es env))) (fun vs s₁ => s₁.heap.get? f = some o ∧ wpAny (model prog w) A (call (.ref f) vs) Q E s₁) E s)
    (he : ∀ e r, es = e :: r → starEach (e :: r) env = (false, eval e env) :: starEach r env) :
    wpAny (model prog w) A (callWith pos (.ref f) [] (backTo pos (starEach es env)) []) Q E s := by
  cases es with
  | nil => exact absurd rfl hne
  | cons e r => exact callWith_def hdat h (he e r rfl)

/-- a function of the text's: what a call with these gives -/
noncomputable def FnQ (prog : Program) (w : World) (A : Around) (h₀ : Heap) (mg : Str → Option Value) (f : Str) (ds : List D) (Y : D → Prop) : Prop :=
  ∃ a o fd, mg f = some (.ref a) ∧ h₀.get? a = some o ∧ o.data = .func fd ∧ ∀ s, Kp h₀ s → ∀ vs fp, Rds prog w s.heap ds vs fp →
    wpAny (model prog w) A (call (.ref a) vs) (fun v s' => ∃ r, Y r ∧ New prog w s s' r v) No s
noncomputable def FnS (prog : Program) (w : World) (A : Around) (h₀ : Heap) (mg : Str → Option Value) (f : Str) (ds : List D) (r : D) : Prop := FnQ prog w A h₀ mg f ds (· = r)
/-- an expression's run: it tells one of these -/
noncomputable def EvQ (prog : Program) (w : World) (A : Around) (h₀ : Heap) (sc : Scope) (e : Expr) (ρ : Store) (Y : D → Prop) : Prop :=
  ∀ env s, EnvOk sc env → Kp h₀ s → Vars prog w s.heap env ρ → wpAny (model prog w) A (eval e env) (fun v s' => ∃ d, Y d ∧ Ext s s' ∧ Res prog w env ρ [] s s' d v) No s
/-- a call of a text's def -/
theorem ev_CallFnQ (G : GlOk prog w A h₀ mg mb) {sc : Scope} {f : Str} {fp pos : Pos} {es : List Expr} {ρ : Store} {ds : List D} {Y : D → Prop}
    (hg : globOk sc f = true) (hF : FnQ prog w A h₀ mg f ds Y) (hne : es.isEmpty = false) (h1 : EvsS prog w A h₀ sc es ρ ds) : EvQ prog w A h₀ sc (.Call (.Name f fp) es [] pos) ρ Y := fun env s O K V => by
  obtain ⟨a, o, fd, hm, ho, hd, hc⟩ := hF
  refine Call_ (glob_name G hg O K hm ?_)
  refine callWith_fn hd (fun q => by subst q; cases hne) (wp_no (h1.run env s pos O K V) fun vs s₁ q₁ => ?_) (fun e r q => starEach_cons (h1.hd e r q))
  obtain ⟨e1, fq, r⟩ := q₁
  exact ⟨K.ext e1 a o ho, wp_no (hc s₁ (K.ext e1) vs fq r) fun v s' q => let ⟨d, y, q⟩ := q; ⟨d, y, res_of_new e1 q⟩⟩
theorem ev_CallFn (G : GlOk prog w A h₀ mg mb) {sc : Scope} {f : Str} {fp pos : Pos} {es : List Expr} {ρ : Store} {ds : List D} {d : D}
    (hg : globOk sc f = true) (hF : FnS prog w A h₀ mg f ds d) (hne : es.isEmpty = false) (h1 : EvsS prog w A h₀ sc es ρ ds) : EvS prog w A h₀ sc (.Call (.Name f fp) es [] pos) ρ d [] where
  fine := rfl
  lc := trivial
  run := fun env s O K V => wp_no (ev_CallFnQ G hg hF hne h1 env s O K V) fun v s' q => by
    obtain ⟨_, rfl, q⟩ := q
    exact q
end
end Mine
end
section
open PySem PySem.W PyProof.Rows PySem.Builtin PySem.Builtin.Str
set_option maxRecDepth 100000
namespace Mine
section
variable {prog : Program} {w : World} {A : Around} {h₀ : Heap} {mg mb : Str → Option Value}

theorem boot_len : bootBuiltins "len" = some (.builtin "len") := by decide +kernel
theorem boot_chr : bootBuiltins "chr" = some (.builtin "chr") := by decide +kernel
theorem boot_ord : bootBuiltins "ord" = some (.builtin "ord") := by decide +kernel
theorem boot_sum : bootBuiltins "sum" = some (.builtin "sum") := by decide +kernel
theorem boot_list : bootBuiltins "list" = some (.type "list") := by decide +kernel
theorem boot_range : bootBuiltins "range" = some (.type "range") := by decide +kernel
theorem boot_enumerate : bootBuiltins "enumerate" = some (.type "enumerate") := by decide +kernel

theorem callWith_b1 {pos : Pos} {id : String} {e : Expr} {env : Env} {s : Shared} {E : Value → Shared → Prop} {Q : Value → Shared → Prop} (hns : ∀ x p, e ≠ .Starred x p)
    (h : wpAny (model prog w) A (eval e env) (fun v s₁ => wpAny (model prog w) A (call (.builtin id) [v]) Q E s₁) E s) :
    wpAny (model prog w) A (callWith pos (.builtin id) [] (backTo pos (starEach [e] env)) []) Q E s := by
  rw [starEach_cons hns]
  exact PySem.callWith_builtin1 h
theorem callWith_t1 {pos : Pos} {T : String} {e : Expr} {env : Env} {s : Shared} {E : Value → Shared → Prop} {Q : Value → Shared → Prop} (hns : ∀ x p, e ≠ .Starred x p)
    (h : wpAny (model prog w) A (eval e env) (fun v s₁ => wpAny (model prog w) A (call (.type T) [v]) Q E s₁) E s) :
    wpAny (model prog w) A (callWith pos (.type T) [] (backTo pos (starEach [e] env)) []) Q E s := by
  rw [starEach_cons hns]
  exact PySem.callWith_type1 h

theorem call1_sound (G : GlOk prog w A h₀ mg mb) {f : Str} {a c : D} (h : Call1R f a c) :
    ∃ id, bootBuiltins f = some (.builtin id) ∧ f ∈ builtins1 ∧ ∀ va fa (s : Shared), Rd prog w s.heap a va fa → wpAny (model prog w) A (call (.builtin id) [va]) (fun v s' => New prog w s s' c v) No s := by
  cases h with
  | @lenS cs hl =>
    refine ⟨"len", boot_len, by simp [builtins1], fun va fa s ra => ?_⟩
    obtain ⟨⟨t, rfl⟩, _⟩ := ra
    exact PySem.P.len_str (s := s) (x := ⟨cs.toArray⟩) (Int.not_le.mpr (Int.ofNat_lt.mpr (Nat.lt_of_le_of_lt hl (by decide)) : ((cs.length : Nat) : Int) < ((2 ^ 63 : Nat) : Int))) New.int
  | @lenL l hl =>
    refine ⟨"len", boot_len, by simp [builtins1], fun va fa s ra => ?_⟩
    obtain ⟨a, vs, rfl, hp, r, _⟩ := ra
    have hlen := r.length
    refine Calls.call_len_list hp.isList (by rw [List.size_toArray, hlen]; exact (Int.ofNat_lt.mpr (Nat.lt_of_le_of_lt hl (by decide)) : ((l.length : Nat) : Int) < ((2 ^ 63 : Nat) : Int))) ?_
    rw [List.size_toArray, hlen]
    exact New.int
  | @chr c hc =>
    refine ⟨"chr", boot_chr, by simp [builtins1], fun va fa s ra => ?_⟩
    obtain ⟨⟨t, rfl⟩, _⟩ := ra
    refine PySem.P.chr_of_int ?_ (New.str (cs := [c]))
    rw [Bool.or_eq_false_iff]; exact ⟨decide_eq_false (by exact ar247), decide_eq_false (by exact ar248 hc)⟩
  | ord c =>
    refine ⟨"ord", boot_ord, by simp [builtins1], fun va fa s ra => ?_⟩
    obtain ⟨⟨t, rfl⟩, _⟩ := ra
    exact PySem.P.ord_of_char New.int
  | sum ns =>
    refine ⟨"sum", boot_sum, by simp [builtins1], fun va fa s ra => ?_⟩
    obtain ⟨a, vs, rfl, hp, r, _⟩ := ra
    have hi := ints_are r
    obtain ⟨xs, hxs⟩ := hi.allInts.items
    have hl := hp.isList
    rw [hxs] at hl
    refine sum_intListG G.hnd hl fun h' tk t' hk => ?_
    have e : preSum (numAt xs) xs.size = ns.sum := by
      have h3 := hi.numsOf
      rw [show vs = vs.toArray.toList from rfl, hxs, nums_intItems] at h3
      rw [preSum_eq, List.take_of_length_le (by simp), h3]
    rw [e]
    exact ⟨Ext.heap hk, [], ⟨⟨t', rfl⟩, rfl⟩, List.nodup_nil, fun _ x => nomatch x⟩

theorem ev_Call1 (G : GlOk prog w A h₀ mg mb) {sc : Scope} {f : Str} {fp pos : Pos} {e : Expr} {ρ : Store} {a c : D} {ba : List Str}
    (hg : globOk sc f = true) (h1 : EvS prog w A h₀ sc e ρ a ba) (h2 : Call1R f a c) : EvS prog w A h₀ sc (.Call (.Name f fp) [e] [] pos) ρ c [] where
  fine := rfl
  lc := trivial
  run := fun env s O K V => by
    obtain ⟨id, hb, hm, hc⟩ := call1_sound G h2
    refine Call_ (blt_name G hg O K hm hb ?_)
    refine callWith_b1 h1.ns (h1.step O K V fun v s₁ fa e1 _ _ r _ => ?_)
    exact wp_no (hc v fa s₁ r) fun v s' q => res_of_new e1 q
end
end Mine
end
section
open PySem PySem.W PyProof.Rows PySem.Builtin PySem.Builtin.Str
set_option maxRecDepth 100000
namespace Mine
section
variable {prog : Program} {w : World} {A : Around} {h₀ : Heap} {mg mb : Str → Option Value}

theorem wpAny_meth {M : Model} {E : Value → Shared → Prop} {o : Expr} {m : Str} {ap pp : Pos} {args : List Expr} {env : Env} {s : Shared} {Q : Value → Shared → Prop} (hf : methFine o ap pp = true)
    (hs : (backTo pp (starEach args env)).all (!·.1) = true) (hl : args.length < 30)
    (h : wpAny M A (eval o env) (fun ov s₁ => ∀ pl, wpAny M A (getMethod ov m pl) (fun fx s₂ => wpAny M A (callWith pp fx.1 fx.2 (backTo pp (starEach args env)) []) Q E s₂) E s₁) E s) :
    wpAny M A (eval (.Call (.Attribute o m ap) args [] pp) env) Q E s := by
  unfold methFine at hf
  rw [Bool.and_eq_true] at hf
  have e : eval (.Call (.Attribute o m ap) args [] pp) env = (do
      let ov ← attributeBase o m env (eval o env)
      standAt ap.atName
      methodCall o m ap pp env ov (args.length + 0) (backTo pp (starEach args env)) (backToKw pp (keywordEach [] env))) := rfl
  have e2 : attributeBase o m env (eval o env) = eval o env := by
    cases o <;> first | rfl | (exact absurd hf.2 Bool.false_ne_true)
  rw [e, e2]
  refine wpAny_bind (wpAny_mono h (fun ov s₁ h₁ => wpAny_bind (wpAny_standAt ?_)) fun _ _ x => x)
  have hform : methodCallForm (args.length + 0) (backTo pp (starEach args env)) (backToKw pp (keywordEach [] env)) = true := by
    show (_ && true && decide (args.length + 0 + 0 < 30)) = true
    rw [hs]
    simpa using hl
  unfold methodCall
  rw [hform]
  refine wpAny_bind (wpAny_holding ?_)
  show wpAny M A (getMethod ov m _) _ _ _
  refine wpAny_mono (h₁ _) (fun fx s₂ h₂ => ?_) fun _ _ x => x
  have hp : methodCallPos true o env ap pp = pure pp := by
    unfold methodCallPos
    rw [hf.1]; rfl
  show wpAny M A (methodCallPos true o env ap pp >>= fun callPos => callWith callPos fx.1 fx.2 (backTo pp (starEach args env)) (backToKw pp (keywordEach [] env))) Q E s₂
  rw [hp]
  exact wpAny_bind (wpAny_pure h₂)

theorem strs_are {h : Heap} : ∀ {ns : List (List Nat)} {vs : List Value} {fp : List Addr}, Rds prog w h (ns.map D.str) vs fp → StrsAre vs (ns.map fun x => ⟨x.toArray⟩)
  | [], vs, fp, r => by rw [r.1]; exact .nil
  | i :: ds, vs, fp, r => by
    obtain ⟨v, q, f, g, rfl, rfl, ⟨⟨t, rfl⟩, _⟩, r2⟩ := r
    exact .cons _ t (strs_are r2)

theorem glued_flat (ns : List (List Nat)) : Str.join ⟨#[]⟩ (ns.map fun x => ⟨x.toArray⟩) = ⟨ns.flatten.toArray⟩ := by
  induction ns with
  | nil => rfl
  | cons x r ih =>
    cases r with
    | nil => simp [Str.join]
    | cons y r =>
      rw [List.map_cons, List.map_cons, Str.join]
      · rw [List.map_cons] at ih
        rw [ih]
        show Str.mk (x.toArray ++ #[] ++ _) = _
        simp
      · simp

theorem rds_strs {h : Heap} : ∀ (l : List (Str × Tok)), Rds prog w h (l.map fun p => D.str p.1.cps.toList) (strValues l) []
  | [] => ⟨rfl, rfl⟩
  | (x, t) :: r => ⟨.str x t, strValues r, [], [], rfl, rfl, ⟨⟨t, rfl⟩, rfl⟩, rds_strs r⟩

theorem split_sound {s : Shared} {cs : List Nat} {t u : Tok} (hl : cs.length ≤ lim) :
    wpAny (model prog w) A (call (.builtin "str.split") [.str ⟨cs.toArray⟩ t, .str ⟨#[13, 10]⟩ u])
      (fun v s' => New prog w s s' (.list ((Txt.split ⟨cs.toArray⟩ ⟨#[13, 10]⟩).map fun p => .str p.cps.toList)) v) No s := by
  have hsz : (Str.mk cs.toArray).length ≤ sizeLine := by
    rw [sizeLine_eq]
    show cs.toArray.size ≤ _
    unfold lim at hl; simp; exact ar276 hl
  have mk : ∀ (l : List (Str × Tok)) (k : Tok), l.map (·.1) = Txt.split ⟨cs.toArray⟩ ⟨#[13, 10]⟩ →
      New prog w s { s with heap := s.heap.push { cls := .type "list", data := .seq (strValues l).toArray }, toks := k } (.list ((Txt.split ⟨cs.toArray⟩ ⟨#[13, 10]⟩).map fun p => .str p.cps.toList)) (.ref s.heap.objs.size) := fun l k e => by
    rw [← e, List.map_map]
    exact New.list (rds_strs l)
  have hw := split_weight ⟨cs.toArray⟩ ⟨#[13, 10]⟩ (by decide)
  cases h1 : (decide ((Str.mk cs.toArray).length < (Str.mk #[13, 10]).length) || decide (strKind ⟨cs.toArray⟩ < strKind ⟨#[13, 10]⟩))
  · cases hf : (occurrences ⟨cs.toArray⟩ ⟨#[13, 10]⟩ 0 (Str.mk cs.toArray).length ((Str.mk cs.toArray).length + 1)).isEmpty
    · have hsz2 : (partsBetween ⟨cs.toArray⟩ (occurrences ⟨cs.toArray⟩ ⟨#[13, 10]⟩ 0 (Str.mk cs.toArray).length ((Str.mk cs.toArray).length + 1)) (Str.mk #[13, 10]).length).length ≤ sizeLine := by
        have e : Txt.split ⟨cs.toArray⟩ ⟨#[13, 10]⟩ = partsBetween ⟨cs.toArray⟩ (occurrences ⟨cs.toArray⟩ ⟨#[13, 10]⟩ 0 (Str.mk cs.toArray).length ((Str.mk cs.toArray).length + 1)) (Str.mk #[13, 10]).length :=
          (if_neg (ne_true_of_eq_false h1)).trans (if_neg (ne_true_of_eq_false hf))
        rw [← e]
        have e2 : (Str.mk cs.toArray).length = cs.length := rfl
        rw [e2] at hw
        rw [sizeLine_eq]; unfold lim at hl; exact ar277 hl hw
      refine call_meets F.slot_str_split (typeIs_str _ _ _) F.entry_str_split (F.args_str_split_2 _ _) (meets_str_split_sep ⟨cs.toArray⟩ ⟨#[13, 10]⟩ t u h1 rfl hf hsz hsz2) ?_
      show wants _ No _ { s with toks := _, heap := s.heap.push { cls := .type "list", data := .seq (strsFrom s.toks (partsBetween ⟨cs.toArray⟩ (occurrences ⟨cs.toArray⟩ ⟨#[13, 10]⟩ 0 (Str.mk cs.toArray).length ((Str.mk cs.toArray).length + 1)) (Str.mk #[13, 10]).length)).toArray } }
      rw [strsFrom_eq]
      exact mk _ _ ((numbered_texts _ _).trans ((if_neg (ne_true_of_eq_false h1)).trans (if_neg (ne_true_of_eq_false hf))).symm)
    · exact call_meets F.slot_str_split (typeIs_str _ _ _) F.entry_str_split (F.args_str_split_2 _ _) (meets_str_split_not_found ⟨cs.toArray⟩ ⟨#[13, 10]⟩ t u h1 rfl hf)
        (mk [(⟨cs.toArray⟩, t)] s.toks ((if_neg (ne_true_of_eq_false h1)).trans (if_pos hf)).symm)
  · exact call_meets F.slot_str_split (typeIs_str _ _ _) F.entry_str_split (F.args_str_split_2 _ _) (meets_str_split_cannot_occur ⟨cs.toArray⟩ ⟨#[13, 10]⟩ t u h1)
      (mk [(⟨cs.toArray⟩, t)] s.toks (if_pos h1).symm)

theorem callWith_m1 {pos : Pos} {id : String} {first : List Value} {e : Expr} {env : Env} {s : Shared} {E : Value → Shared → Prop} {Q : Value → Shared → Prop} (hns : ∀ x p, e ≠ .Starred x p)
    (h : wpAny (model prog w) A (eval e env) (fun v s₁ => wpAny (model prog w) A (call (.builtin id) (first ++ [v])) Q E s₁) E s) :
    wpAny (model prog w) A (callWith pos (.builtin id) first (backTo pos (starEach [e] env)) []) Q E s :=
  callWith_method1 (args_cons (wpAny_mono h (fun _ _ h₁ => args_nil h₁) fun _ _ e => e) (starEach_cons hns)) (starEach_cons hns)

theorem star1 {pos : Pos} {e : Expr} {env : Env} (hns : ∀ x p, e ≠ .Starred x p) : (backTo pos (starEach [e] env)).all (!·.1) = true := by
  rw [starEach_cons hns]; rfl
theorem star2 {pos : Pos} {e f : Expr} {env : Env} (hns : ∀ x p, e ≠ .Starred x p) (hnf : ∀ x p, f ≠ .Starred x p) : (backTo pos (starEach [e, f] env)).all (!·.1) = true := by
  rw [starEach_cons hns, starEach_cons hnf]; rfl

theorem drop_takeWhile (p : Nat → Bool) : ∀ l : List Nat, l.drop (l.takeWhile p).length = l.dropWhile p
  | [] => rfl
  | a :: r => by
    rw [List.takeWhile_cons, List.dropWhile_cons]
    cases h : p a
    · simp
    · simp [drop_takeWhile p r]
theorem lstrip_eq (cs ds : List Nat) : Txt.lstripChars ⟨cs.toArray⟩ ⟨ds.toArray⟩ = ⟨(stripL ds cs).toArray⟩ := by
  unfold Txt.lstripChars
  rw [PyProof.Rows.stripBy_eq]
  have : ∀ x y : Str, x.cps.toList = y.cps.toList → x = y := fun x y h => by
    cases x; cases y; congr 1; exact Array.toList_inj.mp h
  apply this
  rw [StrLaws.strSub_toList]
  show (cs.drop (cs.takeWhile _).length).take (cs.toArray.size - (cs.takeWhile _).length) = stripL ds cs
  rw [List.take_of_length_le (by simp), drop_takeWhile]
  unfold stripL
  congr 1
  funext c
  simp
theorem ev_Meth1 {sc : Scope} {o e : Expr} {m : Str} {ap pp : Pos} {ρ : Store} {a d c : D} {ba bd : List Str} (hf : methFine o ap pp = true)
    (h1 : EvS prog w A h₀ sc o ρ a ba) (h2 : EvS prog w A h₀ sc e ρ d bd) (h3 : MethR m a d c) : EvS prog w A h₀ sc (.Call (.Attribute o m ap) [e] [] pp) ρ c [] where
  fine := rfl
  lc := trivial
  run := fun env s O K V => by
    refine wpAny_meth hf (star1 h2.ns) (by simp) (h1.step O K V fun vo s₁ fa e1 K1 V1 ra _ pl => ?_)
    cases h3 with
    | @join ss hl1 hl2 =>
      obtain ⟨⟨t, rfl⟩, _⟩ := ra
      refine GM.join (callWith_m1 h2.ns (h2.step O K1 V1 fun v s₂ fd e2 _ _ rd _ => ?_))
      obtain ⟨b, vs, rfl, hp, r, _⟩ := rd
      refine join_list hp.isList (ys := ss.map fun x => ⟨x.toArray⟩) (strs_are r) ?_ fun t' k => ?_
      · rw [List.map_map]
        have e3 : ((fun x : Str => x.length) ∘ fun x : List Nat => (⟨x.toArray⟩ : Str)) = List.length := by funext x; rfl
        rw [e3, ← List.length_flatten]
        show ss.flatten.length + _ * 0 ≤ _
        unfold lim at hl1; exact ar278 hl1
      · rw [show Txt.join (⟨[].toArray⟩ : Str) (ss.map fun x => ⟨x.toArray⟩) = ⟨ss.flatten.toArray⟩ from (StrLaws.glued_eq_join _ _).trans (glued_flat ss)]
        exact res_of_new (e1.trans e2) New.str
    | @lstrip cs ds hl1 hl2 =>
      obtain ⟨⟨t, rfl⟩, _⟩ := ra
      refine GM.lstrip (callWith_m1 h2.ns (h2.step O K1 V1 fun v s₂ fd e2 _ _ rd _ => ?_))
      obtain ⟨⟨u, rfl⟩, _⟩ := rd
      have hsz : (Str.mk cs.toArray).length ≤ sizeLine := by
        rw [sizeLine_eq]; exact Nat.le_trans hl1 (by decide)
      refine SC.lstripChars (fun t' k => ?_) hsz
      rw [lstrip_eq]
      exact res_of_new (e1.trans e2) New.str
    | @split cs hl =>
      obtain ⟨⟨t, rfl⟩, _⟩ := ra
      refine GM.split (callWith_m1 h2.ns (h2.step O K1 V1 fun v s₂ fd e2 _ _ rd _ => ?_))
      obtain ⟨⟨u, rfl⟩, _⟩ := rd
      exact wp_no (split_sound hl) fun v s' q => res_of_new (e1.trans e2) q

theorem PairsRd.getD {k : Int} {kvs : List (Int × Value)} {l : List (Int × Int)} {j : Int} {u : Tok} (r : PairsRd kvs l) : ∃ t, (valueAt kvs k).getD (.int j u) = .int ((l.lookup k).getD j) t := by
  cases h : l.lookup k with
  | none => exact ⟨u, by rw [r.none h]; rfl⟩
  | some i => obtain ⟨t, e⟩ := r.at h; exact ⟨t, by rw [e]; rfl⟩

theorem ev_Get {sc : Scope} {o a b : Expr} {ap pp : Pos} {ρ : Store} {l : List (Int × Int)} {i j : Int} {bo ba bb : List Str} (hf : methFine o ap pp = true)
    (h1 : EvS prog w A h₀ sc o ρ (.dict l) bo) (h2 : EvS prog w A h₀ sc a ρ (.int i) ba) (h3 : EvS prog w A h₀ sc b ρ (.int j) bb) : EvS prog w A h₀ sc (.Call (.Attribute o "get" ap) [a, b] [] pp) ρ (.int ((l.lookup i).getD j)) [] where
  fine := rfl
  lc := trivial
  run := fun env s O K V => by
    refine wpAny_meth hf (star2 h2.ns h3.ns) (by simp) (h1.step O K V fun vo s₁ fo e1 K1 V1 ro _ pl => ?_)
    obtain ⟨d, kvs, rfl, hd, hp, hs, _⟩ := ro
    refine getMethod_builtin hd.typeIs PySem.F.plainAttrs_dict F.slot_dict_get PySem.F.type_dict_get hd.mapOf.noDict ?_
    refine callWith_method1 (args_cons (h2.step O K1 V1 fun va s₂ fa e2 K2 V2 r2 _ => ?_) (starEach_cons h2.ns)) (starEach_cons h2.ns) (by rw [starEach_cons h3.ns]; rfl)
    obtain ⟨⟨t, rfl⟩, _⟩ := r2
    refine args_cons (h3.step O K2 V2 fun vb s₃ fb e3 _ _ r3 _ => args_nil ?_) (starEach_cons h3.ns)
    obtain ⟨⟨u, rfl⟩, _⟩ := r3
    have hd3 := hd.keep (e2.trans e3).keep
    refine call_meetsIn PySem.F.slot_dict_get hd3.typeIs PySem.F.entry_dict_get (PySem.F.args_dict_get_3 _ _ _) (meets_dict_get_default (intKind prog w) d (intKind_is prog w i t) hs (.int j u)) ⟨_, hd3.mapOf, ?_⟩
    obtain ⟨t', e⟩ := hp.getD (k := i) (j := j) (u := u)
    rw [e]
    exact res_of_new ((e1.trans e2).trans e3) New.int
end
end Mine
end
section
open PySem PySem.W PyProof.Rows PySem.Builtin PySem.Builtin.Str
set_option maxRecDepth 100000
namespace Mine

/-- only what is in W has changed, and the generator g -/
structure Chd (W : List Addr) (g : Option Nat) (s s' : Shared) : Prop where
  keep : ∀ b o, b ∉ W → s.heap.get? b = some o → s'.heap.get? b = some o
  os : s'.os = s.os
  gens : ∀ (i : Nat) (x : GenState), some i ≠ g → s.gens[i]? = some x → s'.gens[i]? = some x
  bare : AllBare s.gens → AllBare s'.gens
theorem Chd.heap {W : List Addr} {g : Option Nat} {s : Shared} {h' : Heap} {tk : Nat} (hk : ∀ b o, b ∉ W → s.heap.get? b = some o → h'.get? b = some o) : Chd W g s { s with heap := h', toks := tk } :=
  ⟨hk, rfl, fun _ _ _ e => e, id⟩

noncomputable def TgtOk (t : Bool) (target : Expr) : Prop := match t with
  | true => ∃ es k p, target = .Tuple es k p
  | false => ∃ x p, target = .Name x p

structure Itr (prog : Program) (w : World) (A : Around) (h₀ : Heap) (t : Bool) (it : Value) (ds : List D) (St : Nat → List Addr → Shared → Prop) (R : List Addr) (g : Option Nat) : Prop where
  item : ∀ i W s d target, St i W s → ds[i]? = some d → TgtOk t target → wpAny (model prog w) A (pyNext it) (fun r s' => ∃ v, r = some v ∧
    wpAny (model prog w) A (letOwnedTupleGo target it v) (fun _ s'' => Chd W g s s'' ∧ Rd prog w s''.heap d v [] ∧ ∃ W', St (i + 1) W' s'' ∧ ∀ b ∈ W', b ∈ W ∨ s.heap.get? b = none) No s') No s
  done : ∀ W s, St ds.length W s → wpAny (model prog w) A (pyNext it) (fun r s' => r = none ∧ Chd W g s s') No s
  frame : ∀ i W s s' (X : Addr → Prop), St i W s → (∀ b o, s.heap.get? b = some o → ¬ X b → s'.heap.get? b = some o) → (∀ b its, X b → ¬ PTup s.heap b its) → (∀ b ∈ W, ¬ X b) → (∀ b ∈ R, ¬ X b) →
    (∀ (i : Nat) (x : GenState), g = some i → s.gens[i]? = some x → s'.gens[i]? = some x) → (∀ b o, h₀.get? b = some o → ¬ X b) → St i W s'
  wr : ∀ i W s, St i W s → ∀ b ∈ W, (∃ o, s.heap.get? b = some o) ∧ ∀ its, ¬ PTup s.heap b its
  rr : ∀ i W s, St i W s → ∀ b ∈ R, ∃ o, s.heap.get? b = some o
  self : ∀ i W s, St i W s → wpAny (model prog w) A (pyIter it) (fun it' s' => it' = it ∧ s' = s) No s

noncomputable def ownNames : List String := ["enumerate", "zip", "dict_itemiterator", "dict_reverseitemiterator", "odict_iterator", "itertools.zip_longest", "itertools.pairwise"]
section
variable {prog : Program} {w : World} {A : Around} {h₀ : Heap} {mg mb : Str → Option Value}

theorem letGo_other {E : Value → Shared → Prop} {Q : Unit → Shared → Prop} {s : Shared} {target : Expr} {I : Addr} {v : Value} {o : Obj} {nm : String} (ho : s.heap.get? I = some o) (hc : o.cls = .type nm) (hn : ownNames.contains nm = false) (h : Q () s) :
    wpAny (model prog w) A (letOwnedTupleGo target (.ref I) v) Q E s := by
  have main : ∀ a, wpAny (model prog w) A (do
      let o ← load I
      match o.cls, o.data with
      | .type n, .fields vs =>
        if ownNames.contains n && vs[0]? == some (rawInt a) then
          rule "for.unpacks-the-owned-tuple"
          updateField I 0 .none
      | _, _ => pure () : Sem Unit) Q E s := fun a => by
    refine wpAny_bind (wpAny_load ho ?_)
    rw [hc]
    split
    · rename_i n' vs e1 e2
      cases e1
      rw [hn, Bool.false_and, if_neg Bool.false_ne_true]
      exact wpAny_pure h
    · exact wpAny_pure h
  unfold letOwnedTupleGo
  cases target <;> (try exact wpAny_pure h) <;> (cases v <;> first | exact wpAny_pure h | exact main _)

/-- an iterator whose items want no word of the heap but Ex -/
theorem Itr.ofWalks {I : Addr} {fp : List Addr} {k : Nat} {Pi : Nat → Value → Prop} {St : Nat → Heap → Prop} (W : Walks prog w A I fp [I] k Pi St) {ds : List D} (hk : k = ds.length) {Ex : Heap → Prop} {t : Bool} {R : List Addr} (hfp : ∀ b ∈ fp, b = I ∨ b ∈ R)
    (hRR : ∀ i h, St i h → ∀ b ∈ R, ∃ o, h.get? b = some o)
    (hcls : ∀ i h, St i h → ∃ o nm, h.get? I = some o ∧ o.cls = .type nm ∧ ownNames.contains nm = false ∧ nm ≠ "tuple")
    (hEx : ∀ h h' (X : Addr → Prop), Ex h → (∀ b o, h.get? b = some o → ¬ X b → h'.get? b = some o) → (∀ b its, X b → ¬ PTup h b its) → Ex h')
    (hrd : ∀ i v h d, Pi i v → Ex h → ds[i]? = some d → Rd prog w h d v []) :
    Itr prog w A h₀ t (.ref I) ds (fun i W s => W = [I] ∧ St i s.heap ∧ Ex s.heap) R none where
  item := fun i W' s d target st hd ht => by
    obtain ⟨rfl, st, ex⟩ := st
    have hi : i < k := by rw [hk]; exact (List.getElem?_eq_some_iff.mp hd).1
    obtain ⟨oI, nmI, hoI, hcI, _, hnI⟩ := hcls i s.heap st
    refine W.item i s _ _ hi st fun v h' tk hP st' hkeep => ?_
    refine ⟨v, rfl, ?_⟩
    obtain ⟨o, nm, ho, hc, hn, hnt⟩ := hcls _ _ st'
    refine letGo_other ho hc hn ?_
    have hX : ∀ b its, b = I → ¬ PTup s.heap b its := by
      rintro b its rfl ⟨m, e⟩
      rw [hoI] at e; cases e
      cases hcI; exact hnI rfl
    have ex' : Ex h' := hEx s.heap h' (· = I) ex (fun b o e hb => hkeep b o (by simpa using hb) e) hX
    exact ⟨Chd.heap hkeep, hrd i v h' d hP ex' hd, [I], ⟨rfl, st', ex'⟩, fun b hb => .inl hb⟩
  done := fun W' s st => by
    obtain ⟨rfl, st, ex⟩ := st
    refine W.done s _ _ (hk ▸ st) fun h' tk hkeep => ⟨rfl, Chd.heap hkeep⟩
  frame := fun i W' s s' X st hkeep hX hW hR _ _ => by
    obtain ⟨rfl, st, ex⟩ := st
    refine ⟨rfl, W.frame i s.heap s'.heap st fun b hb o e => hkeep b o e ?_, hEx _ _ X ex hkeep hX⟩
    rcases hfp b hb with rfl | hb
    · exact hW _ (by simp)
    · exact hR _ hb
  wr := fun i W' s st b hb => by
    obtain ⟨rfl, st, ex⟩ := st
    simp at hb; subst hb
    obtain ⟨o, nm, ho, hc, hn, hnt⟩ := hcls i s.heap st
    refine ⟨⟨o, ho⟩, fun its ⟨m, e⟩ => ?_⟩
    rw [ho] at e; cases e
    cases hc; exact hnt rfl
  rr := fun i W' s st => hRR i _ st.2.1
  self := fun i W' s st => by
    obtain ⟨rfl, st, ex⟩ := st
    exact W.self i s _ _ st ⟨rfl, rfl⟩

/-- what stands behind iter(x) -/
noncomputable def ItrAt (prog : Program) (w : World) (A : Around) (h₀ : Heap) (t : Bool) (ρ : Store) (env : Env) (bs : List Str) (s : Shared) (ds : List D) (it : Value) (s₂ : Shared) : Prop :=
  ∃ St R W g, Itr prog w A h₀ t it ds St R g ∧ St 0 W s₂ ∧ (∀ b ∈ W, s.heap.get? b = none) ∧ (∀ b ∈ R, s.heap.get? b = none ∨ Bor ρ env bs s.heap b) ∧ (∀ i, g = some i → s.gens[i]? = none)

theorem D.ims_strs : ∀ cs : List Nat, D.ims (cs.map fun c => .str [c]) = true
  | [] => rfl
  | c :: r => by simp [D.ims, D.im, D.ims_strs r]

theorem iter_str {E : Value → Shared → Prop} (hh : A.handled = none) {t : Bool} {ρ : Store} {env : Env} {bs : List Str} {s s₁ : Shared} {cs : List Nat} {tk : Tok} (e1 : Ext s s₁) :
    wpAny (model prog w) A (pyIter (.str ⟨cs.toArray⟩ tk)) (fun it s₂ => Ext s₁ s₂ ∧ ItrAt prog w A h₀ t ρ env bs s (cs.map fun c => .str [c]) it s₂) E s₁ := by
  have main : ∀ (T : String), (ownNames.contains T = false ∧ T ≠ "tuple") → (Walks prog w A s₁.heap.objs.size [s₁.heap.objs.size] [s₁.heap.objs.size] cs.length (SignAt ⟨cs.toArray⟩) (fun i h => h.IsStrIter s₁.heap.objs.size T ⟨cs.toArray⟩ tk i)) →
      ∀ o, (s₁.heap.push o).IsStrIter s₁.heap.objs.size T ⟨cs.toArray⟩ tk 0 → Ext s₁ { s₁ with heap := s₁.heap.push o } ∧ ItrAt prog w A h₀ t ρ env bs s (cs.map fun c => .str [c]) (.ref s₁.heap.objs.size) { s₁ with heap := s₁.heap.push o } := fun T hT W o ho =>
    ⟨Ext.push (tk := s₁.toks), _, [], [s₁.heap.objs.size], none, Itr.ofWalks W (Ex := fun _ => True) (by simp) (fun b hb => .inl (by simpa using hb)) (fun _ _ _ _ hb => (nomatch hb))
      (fun i h st => by obtain ⟨o, ho, hc, _⟩ := st; exact ⟨o, T, ho, hc, hT.1, hT.2⟩) (fun _ _ _ _ _ _ => trivial)
      (fun i v h d hP _ hd => by
        obtain ⟨c, u, hc, rfl⟩ := hP
        have hc' : cs[i]? = some c := by simpa using hc
        rw [List.getElem?_map, hc'] at hd
        cases hd
        exact ⟨⟨u, rfl⟩, rfl⟩), ⟨rfl, ho, trivial⟩, fun b hb => by simp at hb; subst hb; exact e1.fresh (fresh_size _), fun _ hb => (nomatch hb), fun _ e => nomatch e⟩
  cases ha : (Str.mk cs.toArray).cps.all (· < 128)
  · exact wpAny_pyIter_wide ha (main "str_iterator" ⟨by decide, by decide⟩ (by simpa using Walks.strWide hh s₁.heap.objs.size ⟨cs.toArray⟩ tk) _ ⟨_, Heap.get?_push_size _ rfl, rfl, rfl⟩)
  · exact wpAny_pyIter_ascii ha (main "str_ascii_iterator" ⟨by decide, by decide⟩ (by simpa using Walks.strAscii hh s₁.heap.objs.size ⟨cs.toArray⟩ tk) _ ⟨_, Heap.get?_push_size _ rfl, rfl, rfl⟩)

theorem iter_list {E : Value → Shared → Prop} (hh : A.handled = none) {t : Bool} {ρ : Store} {env : Env} {bs : List Str} {s s₁ : Shared} {ds : List D} {a : Addr} {vs : List Value} (e1 : Ext s s₁) (him : D.ims ds = true)
    (hl : s₁.heap.PlainList a vs.toArray) (r : Rds prog w s₁.heap ds vs []) (ha : s.heap.get? a = none ∨ Bor ρ env bs s.heap a) :
    wpAny (model prog w) A (pyIter (.ref a)) (fun it s₂ => Ext s₁ s₂ ∧ ItrAt prog w A h₀ t ρ env bs s ds it s₂) E s₁ := by
  refine wpAny_pyIter_list hl.isList ?_
  have e2 : Ext s₁ { s₁ with heap := s₁.heap.push { cls := .type "list_iterator", data := .fields #[.ref a, .int 0 0] } } := Ext.push (tk := s₁.toks)
  have hne : a ≠ s₁.heap.objs.size := by obtain ⟨n, e⟩ := hl; exact Nat.ne_of_lt (Heap.lt_size e)
  have hlen := r.length
  refine ⟨e2, _, [a], [s₁.heap.objs.size], none, Itr.ofWalks (Walks.list hh s₁.heap.objs.size a hne vs.toArray) (Ex := fun h => Rds prog w h ds vs []) (by simp [hlen]) (fun b hb => by simpa using hb) (fun i h st b hb => by simp at hb; subst hb; exact let ⟨o, ho, _⟩ := st.2; ⟨o, ho⟩)
    (fun i h st => by obtain ⟨⟨o, ho, hc, _⟩, _⟩ := st; exact ⟨o, _, ho, hc, by decide, by decide⟩) (fun h h' X ex hk hX => Rds.keepBut hk hX (fun _ x => nomatch x) ex)
    (fun i v h d hP ex hd => ?_), ⟨rfl, ⟨⟨_, Heap.get?_push_size _ rfl, rfl, rfl⟩, hl.isList.push _⟩, r.keeps e2.keep⟩, fun b hb => ?_, fun b hb => ?_, fun _ e => nomatch e⟩
  · obtain ⟨v', f, q1, q2, q3⟩ := ex.get hd
    have : vs[i]? = some v := by simpa using hP
    rw [this] at q1; cases q1
    have := Rd.im_fp (D.ims_get him hd) q2
    subst this; exact q2
  · simp at hb; subst hb; exact e1.fresh (fresh_size _)
  · simp at hb; subst hb; exact ha

theorem pairs_key : ∀ {kvs : List (Int × Value)} {l : List (Int × Int)} {i : Nat} {k : Int} {x : Value}, PairsRd kvs l → kvs[i]? = some (k, x) → ∃ j, l[i]? = some (k, j)
  | _, _, i, k, x, .nil, e => by simp at e
  | _, _, 0, k, x, @PairsRd.cons k' i' t kvs l r, e => by
    simp at e; obtain ⟨rfl, _⟩ := e; exact ⟨i', rfl⟩
  | _, _, i + 1, k, x, @PairsRd.cons k' i' t kvs l r, e => by
    obtain ⟨j, hj⟩ := pairs_key r (i := i) (by simpa using e)
    exact ⟨j, by simpa using hj⟩
theorem PairsRd.length : ∀ {kvs : List (Int × Value)} {l : List (Int × Int)}, PairsRd kvs l → kvs.length = l.length
  | _, _, .nil => rfl
  | _, _, .cons r => by simp [PairsRd.length r]

theorem iter_dict {E : Value → Shared → Prop} (hh : A.handled = none) {t : Bool} {ρ : Store} {env : Env} {bs : List Str} {s s₁ : Shared} {l : List (Int × Int)} {a : Addr} {kvs : List (Int × Value)} (e1 : Ext s s₁)
    (hd : s₁.heap.DictOf (intKind prog w) a kvs) (r : PairsRd kvs l) (hs : (a == sysModules) = false) (ha : s.heap.get? a = none ∨ Bor ρ env bs s.heap a) :
    wpAny (model prog w) A (pyIter (.ref a)) (fun it s₂ => Ext s₁ s₂ ∧ ItrAt prog w A h₀ t ρ env bs s (l.map fun p => .int p.1) it s₂) E s₁ := by
  obtain ⟨ep, hd⟩ := hd.dictAt
  refine wpAny_pyIter_dict hs hd ?_
  have hne : a ≠ s₁.heap.objs.size := Nat.ne_of_lt hd.lt_size
  refine ⟨Ext.push (tk := s₁.toks), _, [a], [s₁.heap.objs.size], none, Itr.ofWalks (Walks.dictKeys hh s₁.heap.objs.size a hne kvs ep) (Ex := fun _ => True) (by simp [r.length]) (fun b hb => by simpa using hb) (fun i h st b hb => by simp at hb; subst hb; exact let ⟨o, _, ho, _⟩ := st.2; ⟨o, ho⟩)
    (fun i h st => by obtain ⟨⟨o, ho, hc, _⟩, _⟩ := st; exact ⟨o, _, ho, hc, by decide, by decide⟩) (fun _ _ _ _ _ _ => trivial)
    (fun i v h d hP _ hd => ?_), ⟨rfl, ⟨⟨_, Heap.get?_push_size _ rfl, rfl, rfl⟩, hd.push _⟩, trivial⟩, fun b hb => ?_, fun b hb => ?_, fun _ e => nomatch e⟩
  · obtain ⟨k, x, hx, hv⟩ := hP
    obtain ⟨j, hj⟩ := pairs_key r hx
    rw [List.getElem?_map, hj] at hd
    cases hd
    obtain ⟨u, rfl⟩ := Value.isInt_shape hv
    exact ⟨⟨u, rfl⟩, rfl⟩
  · simp at hb; subst hb; exact e1.fresh (fresh_size _)
  · simp at hb; subst hb; exact ha

theorem iter_range {E : Value → Shared → Prop} (hh : A.handled = none) {t : Bool} {ρ : Store} {env : Env} {bs : List Str} {s s₁ : Shared} {i j : Int} {a : Addr} {x y z : Tok} (e1 : Ext s s₁)
    (h0 : 0 ≤ i) (h1 : i ≤ j) (h2 : j ≤ lim) (hr : IsRange s₁.heap a i j 1 x y z) :
    wpAny (model prog w) A (pyIter (.ref a)) (fun it s₂ => Ext s₁ s₂ ∧ ItrAt prog w A h₀ t ρ env bs s (rangeD i (j - i).toNat) it s₂) E s₁ := by
  have hsz : Builtin.Range.rangeSize i j 1 = ((j - i).toNat : Int) := by
    unfold Builtin.Range.rangeSize
    simp only [show (1 : Int) > 0 by decide, if_true, Int.ediv_one]
    split <;> (first | exact ar283 (by assumption) | exact ar284 (by assumption))
  have hlim : (lim : Int) = 1048576 := by decide
  refine wpAny_pyIter_range hr ?_ ?_
  · unfold Builtin.Range.small
    rw [hsz]
    have e : ∀ x : Int, 0 ≤ x → x ≤ 1048577 → Builtin.Range.rangeFitsLong x = true := fun x h1 h2 => by
      unfold Builtin.Range.rangeFitsLong
      simp only [Bool.and_eq_true, decide_eq_true_eq]
      exact ar285 h1 h2
    rw [e i (by exact ar286 h0) (by exact ar287 h1 h2 hlim), e j (by exact ar288 h0 h1) (by exact ar289 h2 hlim), e 1 (by exact ar290) (by exact ar291), e _ (by exact ar292) (by exact ar293 h0 h2 hlim)]
    rw [if_pos (by decide), e _ (by exact ar294 h0 h1) (by exact ar295 h2 hlim)]
    simp
  rw [hsz]
  refine ⟨Ext.push (tk := s₁.toks), _, [], [s₁.heap.objs.size], none, Itr.ofWalks (Walks.range hh s₁.heap.objs.size i 1 (j - i).toNat) (Ex := fun _ => True) (by simp [rangeD]) (fun b hb => .inl (by simpa using hb)) (fun _ _ _ _ hb => (nomatch hb))
    (fun i h st => ⟨_, "range_iterator", st, rfl, by decide, by decide⟩) (fun _ _ _ _ _ _ => trivial)
    (fun k v h d hP _ hd => ?_), ⟨rfl, ?_, trivial⟩, fun b hb => ?_, fun _ hb => (nomatch hb), fun _ e => nomatch e⟩
  · obtain ⟨u, rfl⟩ := hP
    rw [Int.mul_one]
    have hk : k < (j - i).toNat := by
      have := (List.getElem?_eq_some_iff.mp hd).1
      simpa [rangeD] using this
    unfold rangeD at hd
    rw [List.getElem?_map, List.getElem?_range hk] at hd
    cases hd
    exact ⟨⟨u, rfl⟩, rfl⟩
  · show (s₁.heap.push _).get? s₁.heap.objs.size = _
    rw [Heap.get?_push_size _ rfl]
    simp
  · simp at hb; subst hb; exact e1.fresh (fresh_size _)

theorem numbered_get : ∀ (ds : List D) (k i : Nat) {d : D}, (Mine.numbered k ds)[i]? = some d → ∃ e, ds[i]? = some e ∧ d = .tuple [.int ((k + i : Nat) : Int), e]
  | [], k, i, d, h => by simp [Mine.numbered] at h
  | e :: r, k, 0, d, h => by
    simp [Mine.numbered] at h
    exact ⟨e, rfl, by simpa using h.symm⟩
  | e :: r, k, i + 1, d, h => by
    obtain ⟨e', h1, h2⟩ := numbered_get r (k + 1) i (by simpa [Mine.numbered] using h)
    exact ⟨e', by simpa using h1, by rw [h2]; congr 3; exact ar296⟩
theorem numbered_length : ∀ (ds : List D) (k : Nat), (Mine.numbered k ds).length = ds.length
  | [], k => rfl
  | e :: r, k => by simp [Mine.numbered, numbered_length r]
theorem numbered_ims : ∀ (ds : List D) (k : Nat), D.ims ds = true → D.ims (Mine.numbered k ds) = true
  | [], k, _ => rfl
  | e :: r, k, h => by
    simp only [D.ims, Bool.and_eq_true] at h
    simp [Mine.numbered, D.ims, D.im, h.1, numbered_ims r (k + 1) h.2]

/-- enumerate over what is drawn -/
theorem Itr.ofDraws {e it : Addr} {fp : List Addr} {k : Nat} {Pi : Nat → Value → Prop} {St : Nat → Heap → Prop} (Dr : Draws prog w A.in1 it fp k Pi St) {ds : List D} (hk : k = ds.length) {Ex : Heap → Prop} {R : List Addr} (hei : e ≠ it) (hef : e ∉ fp) (hif : it ∈ fp) (hfp : ∀ b ∈ fp, b = it ∨ b ∈ R)
    (hRR : ∀ i h, St i h → ∀ b ∈ R, ∃ o, h.get? b = some o)
    (hcls : ∀ i h, St i h → ∃ o nm, h.get? it = some o ∧ o.cls = .type nm ∧ nm ≠ "tuple")
    (hEx : ∀ h h' (X : Addr → Prop), Ex h → (∀ b o, h.get? b = some o → ¬ X b → h'.get? b = some o) → (∀ b its, X b → ¬ PTup h b its) → Ex h')
    (hrd : ∀ i v h d, Pi i v → Ex h → ds[i]? = some d → Rd prog w h d v []) :
    Itr prog w A h₀ true (.ref e) (Mine.numbered 0 ds) (fun i W s => W = [e, it] ∧ (∃ old, IsEnum s.heap e it i old) ∧ St i s.heap ∧ Ex s.heap) R none where
  item := fun i W' s d target st hd ht => by
    obtain ⟨rfl, ⟨old, he⟩, st, ex⟩ := st
    obtain ⟨es, kk, pp, rfl⟩ := ht
    obtain ⟨x, hx, rfl⟩ := numbered_get ds 0 i hd
    have hi : i < k := by rw [hk]; exact (List.getElem?_eq_some_iff.mp hx).1
    have hpt : ∀ {h : Heap} {j : Nat} {old : Value}, IsEnum h e it j old → St i s.heap → ∀ b its, b ∈ [e, it] → ¬ PTup s.heap b its := by
      rintro h j old he' st b its hb ⟨m, q⟩
      simp at hb
      rcases hb with rfl | rfl
      · rw [he] at q; exact absurd (congrArg (fun o : Option Obj => o.map Obj.cls) q) (by simp)
      · obtain ⟨o, nm, ho, hc, hn⟩ := hcls i s.heap st
        rw [ho] at q; cases q
        cases hc; exact hn rfl
    refine wpAny_pyNext_enum_itemD Dr he st hi hei hef fun v h' tk hP ho' st' hT hsz hkeep => ?_
    refine ⟨_, rfl, wpAny_letOwnedTupleGo_enum ho' fun h'' he'' hs'' => ?_⟩
    have hk2 : ∀ b o, b ∉ [e, it] → s.heap.get? b = some o → h''.get? b = some o := fun b o hb q => by
      simp at hb
      exact (hs''.2 b hb.1).trans (hkeep b o hb.1 hb.2 q)
    have hTe : s.heap.objs.size ≠ e := fun q => by have := Heap.lt_size he; rw [q] at this; exact Nat.lt_irrefl _ this
    have ex'' : Ex h'' := hEx s.heap h'' (· ∈ [e, it]) ex (fun b o q hb => hk2 b o hb q) (fun b its hb => hpt he st b its hb)
    refine ⟨Chd.heap hk2, ?_, [e, it], ⟨rfl, ⟨_, by simpa using he''⟩, ?_, ex''⟩, fun b hb => .inl hb⟩
    · refine ⟨s.heap.objs.size, [.int i tk, v], rfl, ⟨0, (hs''.2 _ hTe).trans hT⟩, .int i tk, [v], [], [], rfl, rfl, ⟨⟨tk, by simp⟩, rfl⟩, v, [], [], [], rfl, rfl, hrd i v h'' x hP ex'' hx, rfl, rfl⟩
    · refine Dr.frame _ _ _ st' fun b hb o q => (hs''.2 b fun q' => hef (q' ▸ hb)).trans q
  done := fun W' s st => by
    obtain ⟨rfl, ⟨old, he⟩, st, ex⟩ := st
    rw [numbered_length, ← hk] at st
    refine wpAny_pyNext_enum_endD Dr he st fun h' hx => ⟨rfl, ?_⟩
    refine Chd.heap (s := s) (tk := s.toks) fun b o hb q => hx b o (fun q' => hb (by simp [q'])) q
  frame := fun i W' s s' X st hkeep hX hW hR _ _ => by
    obtain ⟨rfl, ⟨old, he⟩, st, ex⟩ := st
    refine ⟨rfl, ⟨old, hkeep e _ he (hW e (by simp))⟩, Dr.frame i s.heap s'.heap st fun b hb o q => hkeep b o q ?_, hEx _ _ X ex hkeep hX⟩
    rcases hfp b hb with rfl | hb
    · exact hW _ (by simp)
    · exact hR _ hb
  wr := fun i W' s st b hb => by
    obtain ⟨rfl, ⟨old, he⟩, st, ex⟩ := st
    simp at hb
    rcases hb with rfl | rfl
    · refine ⟨⟨_, he⟩, fun its ⟨m, q⟩ => ?_⟩
      rw [he] at q; exact absurd (congrArg (fun o : Option Obj => o.map Obj.cls) q) (by simp)
    · obtain ⟨o, nm, ho, hc, hn⟩ := hcls i s.heap st
      refine ⟨⟨o, ho⟩, fun its ⟨m, q⟩ => ?_⟩
      rw [ho] at q; cases q
      cases hc; exact hn rfl
  rr := fun i W' s st => hRR i _ st.2.2.1
  self := fun i W' s st => by
    obtain ⟨rfl, ⟨old, he⟩, st, ex⟩ := st
    exact wpAny_pyIter_enum he ⟨rfl, rfl⟩

theorem iter_enum_list {E : Value → Shared → Prop} (hh : A.handled = none) {ρ : Store} {env : Env} {bs : List Str} {s s₁ : Shared} {ds : List D} {a : Addr} {vs : List Value} (e1 : Ext s s₁) (him : D.ims ds = true)
    (hl : s₁.heap.PlainList a vs.toArray) (r : Rds prog w s₁.heap ds vs []) (ha : s.heap.get? a = none ∨ Bor ρ env bs s.heap a) :
    wpAny (model prog w) A (call (.type "enumerate") [.ref a]) (fun v s₂ => Ext s₁ s₂ ∧ wpAny (model prog w) A (pyIter v) (fun it s₃ => Ext s₂ s₃ ∧ ItrAt prog w A h₀ true ρ env bs s (Mine.numbered 0 ds) it s₃) E s₂) E s₁ := by
  have hne : a ≠ s₁.heap.objs.size := by obtain ⟨n, e⟩ := hl; exact Nat.ne_of_lt (Heap.lt_size e)
  have hne2 : s₁.heap.objs.size + 1 ≠ a := by obtain ⟨n, e⟩ := hl; exact Nat.ne_of_gt (Nat.lt_succ_of_lt (Heap.lt_size e))
  have hlen := r.length
  refine call_enumerate_list hl.isList fun h' he hit hsz hk => ?_
  refine ⟨Ext.heap (tk := s₁.toks) hk, wpAny_pyIter_enum (s := { s₁ with heap := h' }) he ?_⟩
  refine ⟨Ext.refl _, _, [a], [s₁.heap.objs.size + 1, s₁.heap.objs.size], none,
    Itr.ofDraws (Draws.list (A := A.in1) hh s₁.heap.objs.size a hne vs.toArray) (Ex := fun h => Rds prog w h ds vs []) (by simp [hlen]) (Nat.succ_ne_self _) (by simp only [List.mem_cons, List.not_mem_nil, or_false, not_or]; exact ⟨Nat.succ_ne_self _, hne2⟩) (by simp) (fun b hb => by simpa using hb) (fun i h st b hb => by simp at hb; subst hb; exact let ⟨o, ho, _⟩ := st.2; ⟨o, ho⟩)
    (fun i h st => by obtain ⟨⟨o, ho, hc, _⟩, _⟩ := st; exact ⟨o, _, ho, hc, by decide⟩) (fun h h' X ex hk hX => Rds.keepBut hk hX (fun _ x => nomatch x) ex)
    (fun i v h d hP ex hd => ?_), ⟨rfl, ⟨_, he⟩, ⟨hit, ?_⟩, r.keeps hk⟩, fun b hb => ?_, fun b hb => ?_, fun _ e => nomatch e⟩
  · obtain ⟨v', f, q1, q2, q3⟩ := ex.get hd
    have : vs[i]? = some v := by simpa using hP
    rw [this] at q1; cases q1
    have := Rd.im_fp (D.ims_get him hd) q2
    subst this; exact q2
  · obtain ⟨n, e⟩ := hl
    exact ⟨_, hk _ _ e, rfl, n, rfl⟩
  · have : ∀ b, s₁.heap.objs.size ≤ b → s₁.heap.get? b = none := fun b hb' => by
      cases q : s₁.heap.get? b with
      | none => rfl
      | some o => exact absurd (Heap.lt_size q) (Nat.not_lt.mpr hb')
    simp at hb
    rcases hb with rfl | rfl
    · exact e1.fresh (this _ (Nat.le_succ _))
    · exact e1.fresh (this _ (Nat.le_refl _))
  · simp at hb; subst hb; exact ha

theorem iter_enum_str' {E : Value → Shared → Prop} (hh : A.handled = none) {s s₁ : Shared} {cs : List Nat} {tk : Tok} (e1 : Ext s s₁) :
    wpAny (model prog w) A (call (.type "enumerate") [.str ⟨cs.toArray⟩ tk]) (fun v s₂ => Ext s₁ s₂ ∧ wpAny (model prog w) A (pyIter v) (fun it s₃ => Ext s₂ s₃ ∧ ∃ St W, Itr prog w A h₀ true it (Mine.numbered 0 (cs.map fun c => .str [c])) St [] none ∧ St 0 W s₃ ∧ ∀ b ∈ W, s.heap.get? b = none) E s₂) E s₁ := by
  refine call_enumerate_str fun h' he hit hsz hk => ?_
  refine ⟨Ext.heap (tk := s₁.toks) hk, wpAny_pyIter_enum (s := { s₁ with heap := h' }) he ?_⟩
  have main : ∀ (T : String), T ≠ "tuple" → h'.IsStrIter s₁.heap.objs.size T ⟨cs.toArray⟩ tk 0 → (Draws prog w A.in1 s₁.heap.objs.size [s₁.heap.objs.size] (Str.mk cs.toArray).cps.size (fun i v => ∃ c u, (Str.mk cs.toArray).cps[i]? = some c ∧ v = .str ⟨#[c]⟩ u) (fun i h => h.IsStrIter s₁.heap.objs.size T ⟨cs.toArray⟩ tk i)) →
      Ext { s₁ with heap := h' } { s₁ with heap := h' } ∧ ∃ St W, Itr prog w A h₀ true (.ref (s₁.heap.objs.size + 1)) (Mine.numbered 0 (cs.map fun c => .str [c])) St [] none ∧ St 0 W { s₁ with heap := h' } ∧ ∀ b ∈ W, s.heap.get? b = none := fun T hT hit Dr => by
    refine ⟨Ext.refl _, _, [s₁.heap.objs.size + 1, s₁.heap.objs.size],
      Itr.ofDraws Dr (Ex := fun _ => True) (by simp) (Nat.succ_ne_self _) (by simp) (by simp) (fun b hb => .inl (by simpa using hb)) (fun _ _ _ _ hb => (nomatch hb))
      (fun i h st => by obtain ⟨o, ho, hc, _⟩ := st; exact ⟨o, _, ho, hc, hT⟩) (fun _ _ _ _ _ _ => trivial)
      (fun i v h d hP ex hd => ?_), ⟨rfl, ⟨_, he⟩, hit, trivial⟩, fun b hb => ?_⟩
    · obtain ⟨c, u, hc, rfl⟩ := hP
      have hc' : cs[i]? = some c := by simpa using hc
      rw [List.getElem?_map, hc'] at hd
      cases hd
      exact ⟨⟨u, rfl⟩, rfl⟩
    · have : ∀ b, s₁.heap.objs.size ≤ b → s₁.heap.get? b = none := fun b hb' => by
        cases q : s₁.heap.get? b with
        | none => rfl
        | some o => exact absurd (Heap.lt_size q) (Nat.not_lt.mpr hb')
      simp at hb
      rcases hb with rfl | rfl
      · exact e1.fresh (this _ (Nat.le_succ _))
      · exact e1.fresh (this _ (Nat.le_refl _))
  cases ha : (Str.mk cs.toArray).cps.all (· < 128)
  · exact main "str_iterator" (by decide) (by unfold strIterType at hit; rw [ha] at hit; exact hit) (Draws.strWide (A := A.in1) hh _ _ _)
  · exact main "str_ascii_iterator" (by decide) (by unfold strIterType at hit; rw [ha] at hit; exact hit) (Draws.strAscii (A := A.in1) hh _ _ _)

theorem iter_enum_str {E : Value → Shared → Prop} (hh : A.handled = none) {ρ : Store} {env : Env} {bs : List Str} {s s₁ : Shared} {cs : List Nat} {tk : Tok} (e1 : Ext s s₁) :
    wpAny (model prog w) A (call (.type "enumerate") [.str ⟨cs.toArray⟩ tk]) (fun v s₂ => Ext s₁ s₂ ∧ wpAny (model prog w) A (pyIter v) (fun it s₃ => Ext s₂ s₃ ∧ ItrAt prog w A h₀ true ρ env bs s (Mine.numbered 0 (cs.map fun c => .str [c])) it s₃) E s₂) E s₁ :=
  wpAny_mono (iter_enum_str' (h₀ := h₀) hh e1) (fun v s₂ q => ⟨q.1, wpAny_mono q.2 (fun it s₃ q => ⟨q.1, let ⟨St, W, i1, i2, i3⟩ := q.2; ⟨St, [], W, none, i1, i2, i3, fun _ q => (nomatch q), fun _ q => nomatch q⟩⟩) fun _ _ e => e⟩) fun _ _ e => e
end
end Mine
end
section
open PySem PySem.W PyProof.Rows PySem.Builtin PySem.Builtin.Str
set_option maxRecDepth 100000
namespace Mine
section
variable {prog : Program} {w : World} {A : Around} {h₀ : Heap} {mg mb : Str → Option Value}

/-- a generator function: what it draws from these -/
noncomputable def GenS (prog : Program) (w : World) (A : Around) (h₀ : Heap) (mg : Str → Option Value) (f : Str) (ds l : List D) : Prop :=
  ∃ a o fd, mg f = some (.ref a) ∧ h₀.get? a = some o ∧ o.data = .func fd ∧ ∀ s, Kp h₀ s → ∀ vs fp, Rds prog w s.heap ds vs fp → l.length ≤ lim → D.ims l = true →
    wpAny (model prog w) A (call (.ref a) vs) (fun v s' => Ext s s' ∧
      wpAny (model prog w) A (pyIter v) (fun it s'' => Ext s' s'' ∧ ∀ t ρ env bs, ItrAt prog w A h₀ t ρ env bs s l it s'') No s' ∧
      wpAny (model prog w) A (call (.type "list") [v]) (fun r s'' => New prog w s s'' (.list l) r) No s') No s

structure EvItS (prog : Program) (w : World) (A : Around) (h₀ : Heap) (sc : Scope) (t : Bool) (e : Expr) (ρ : Store) (ds : List D) (bs : List Str) : Prop where
  noSet : ∀ env x, foldedSetIterable e env x = pure x
  run : ∀ env s, EnvOk sc env → Kp h₀ s → Vars prog w s.heap env ρ →
    wpAny (model prog w) A (eval e env) (fun x s₁ => Ext s s₁ ∧ wpAny (model prog w) A (pyIter x) (fun it s₂ => Ext s₁ s₂ ∧ ItrAt prog w A h₀ t ρ env bs s ds it s₂) No s₁) No s

theorem items_iter (hh : A.handled = none) {t : Bool} {ρ : Store} {env : Env} {bs : List Str} {s s₁ : Shared} {d : D} {ds : List D} {v : Value} (h : itemsOf d = some ds) (e1 : Ext s s₁) (r : Res prog w env ρ bs s s₁ d v) :
    wpAny (model prog w) A (pyIter v) (fun it s₂ => Ext s₁ s₂ ∧ ItrAt prog w A h₀ t ρ env bs s ds it s₂) No s₁ := by
  obtain ⟨fp, rd, nd, fr⟩ := r
  unfold itemsOf at h
  split at h
  · split at h
    · cases h
      obtain ⟨⟨tk, rfl⟩, rfl⟩ := rd
      exact iter_str hh e1
    · cases h
  · split at h
    · rename_i hc
      simp only [Bool.and_eq_true, decide_eq_true_eq] at hc
      cases h
      obtain ⟨a, vs, rfl, hl, r, rfl⟩ := rd
      exact iter_list hh e1 hc.2 hl r (fr a (by simp))
    · cases h
  · split at h
    · cases h
      obtain ⟨a, kvs, rfl, hd, r, hs, rfl⟩ := rd
      exact iter_dict hh e1 hd r hs (fr a (by simp))
    · cases h
  · cases h

theorem rangeD_ims (a : Int) (k : Nat) : D.ims (rangeD a k) = true := by
  unfold rangeD
  generalize List.range k = l
  induction l with
  | nil => rfl
  | cons x r ih => simp [D.ims, D.im]; simpa using ih

theorem callWith_t2 {pos : Pos} {T : String} {e f : Expr} {env : Env} {s : Shared} {E : Value → Shared → Prop} {Q : Value → Shared → Prop} (hns : ∀ x p, e ≠ .Starred x p) (hnf : ∀ x p, f ≠ .Starred x p)
    (h : wpAny (model prog w) A (eval e env) (fun v s₁ => wpAny (model prog w) A (eval f env) (fun u s₂ => wpAny (model prog w) A (call (.type T) [v, u]) Q E s₂) E s₁) E s) :
    wpAny (model prog w) A (callWith pos (.type T) [] (backTo pos (starEach [e, f] env)) []) Q E s := by
  rw [starEach_cons hns, starEach_cons hnf]
  exact PySem.callWith_type rfl (Calls.evalArgs_plain (Calls.spliced_cons (wpAny_mono h (fun _ _ h₁ => Calls.spliced_cons (wpAny_mono h₁ (fun _ _ h₂ => Calls.spliced_nil h₂) fun _ _ e => e)) fun _ _ e => e)))

/-- range(a, b) -/
theorem ev_range2 (G : GlOk prog w A h₀ mg mb) {sc : Scope} {fp pos : Pos} {a b : Expr} {ρ : Store} {i j : Int} {ba bb : List Str} (hg : globOk sc "range" = true)
    (h1 : EvS prog w A h₀ sc a ρ (.int i) ba) (h2 : EvS prog w A h₀ sc b ρ (.int j) bb) {env : Env} {s : Shared} (O : EnvOk sc env) (K : Kp h₀ s) (V : Vars prog w s.heap env ρ) :
    wpAny (model prog w) A (eval (.Call (.Name "range" fp) [a, b] [] pos) env) (fun v s' => Ext s s' ∧ ∃ r x y z, v = .ref r ∧ IsRange s'.heap r i j 1 x y z ∧ s.heap.get? r = none) No s := by
  refine Call_ (blt_name G hg O K (by simp [builtins1]) boot_range ?_)
  refine callWith_t2 h1.ns h2.ns (h1.step O K V fun v s₁ _ e1 K1 V1 r1 _ => ?_)
  obtain ⟨⟨t, rfl⟩, _⟩ := r1
  refine h2.step O K1 V1 fun u s₂ _ e2 _ _ r2 _ => ?_
  obtain ⟨⟨t', rfl⟩, _⟩ := r2
  exact call_range_2 ⟨(e1.trans e2).trans Ext.push, _, _, _, _, rfl, Heap.get?_push_size _ rfl, (e1.trans e2).fresh (fresh_size _)⟩
theorem ev_range1 (G : GlOk prog w A h₀ mg mb) {sc : Scope} {fp pos : Pos} {a : Expr} {ρ : Store} {i : Int} {ba : List Str} (hg : globOk sc "range" = true)
    (h1 : EvS prog w A h₀ sc a ρ (.int i) ba) {env : Env} {s : Shared} (O : EnvOk sc env) (K : Kp h₀ s) (V : Vars prog w s.heap env ρ) :
    wpAny (model prog w) A (eval (.Call (.Name "range" fp) [a] [] pos) env) (fun v s' => Ext s s' ∧ ∃ r x y z, v = .ref r ∧ IsRange s'.heap r 0 i 1 x y z ∧ s.heap.get? r = none) No s := by
  refine Call_ (blt_name G hg O K (by simp [builtins1]) boot_range ?_)
  refine callWith_t1 h1.ns (h1.step O K V fun v s₁ _ e1 _ _ r1 _ => ?_)
  obtain ⟨⟨t, rfl⟩, _⟩ := r1
  exact call_range_1 ⟨e1.trans Ext.push, _, _, _, _, rfl, Heap.get?_push_size _ rfl, e1.fresh (fresh_size _)⟩

theorem rds_range {h : Heap} {i : Int} : ∀ (k : Nat) (vs : List Value), vs.length = k → (∀ (j : Nat) (v : Value), vs[j]? = some v → ∃ t, v = Value.int (i + (j : Int) * 1) t) → Rds prog w h (rangeD i k) vs [] := by
  intro k
  unfold rangeD
  have main : ∀ (k a : Nat) (vs : List Value), vs.length = k → (∀ (j : Nat) (v : Value), vs[j]? = some v → ∃ t, v = Value.int (i + ((a + j : Nat) : Int)) t) → Rds prog w h ((List.range' a k).map fun k : Nat => D.int (i + (k : Int))) vs [] := by
    intro k
    induction k with
    | zero => intro a vs hl _; rw [List.eq_nil_of_length_eq_zero hl]; exact ⟨rfl, rfl⟩
    | succ k ih =>
      intro a vs hl hv
      cases vs with
      | nil => simp at hl
      | cons v r =>
        rw [List.range'_succ, List.map_cons]
        obtain ⟨t, rfl⟩ := hv 0 v rfl
        refine ⟨_, r, [], [], rfl, rfl, ⟨⟨t, by simp⟩, rfl⟩, ih (a + 1) r (by simpa using hl) fun j v hj => ?_⟩
        obtain ⟨t, rfl⟩ := hv (j + 1) v (by simpa using hj)
        exact ⟨t, by congr 3; exact ar297⟩
  intro vs hl hv
  rw [List.range_eq_range']
  exact main k 0 vs hl fun j v hj => by obtain ⟨t, rfl⟩ := hv j v hj; exact ⟨t, by simp⟩

theorem range_small {i j : Int} (h0 : 0 ≤ i) (h1 : i ≤ j) (h2 : j ≤ lim) : Builtin.Range.rangeSize i j 1 = ((j - i).toNat : Int) ∧ Builtin.Range.small i j 1 = true := by
  have hlim : (lim : Int) = 1048576 := by decide
  have hsz : Builtin.Range.rangeSize i j 1 = ((j - i).toNat : Int) := by
    unfold Builtin.Range.rangeSize
    simp only [show (1 : Int) > 0 by decide, if_true, Int.ediv_one]
    split <;> (first | exact ar283 (by assumption) | exact ar284 (by assumption))
  refine ⟨hsz, ?_⟩
  unfold Builtin.Range.small
  rw [hsz]
  have e : ∀ x : Int, 0 ≤ x → x ≤ 1048577 → Builtin.Range.rangeFitsLong x = true := fun x h1 h2 => by
    unfold Builtin.Range.rangeFitsLong
    simp only [Bool.and_eq_true, decide_eq_true_eq]
    exact ar285 h1 h2
  rw [e i (by exact ar286 h0) (by exact ar287 h1 h2 hlim), e j (by exact ar288 h0 h1) (by exact ar289 h2 hlim), e 1 (by exact ar290) (by exact ar291), e _ (by exact ar292) (by exact ar293 h0 h2 hlim)]
  rw [if_pos (by decide), e _ (by exact ar294 h0 h1) (by exact ar295 h2 hlim)]
  simp

theorem list_range {s : Shared} (hh : A.handled = none) {r : Addr} {i j : Int} {x y z : Tok} (h0 : 0 ≤ i) (h1 : i ≤ j) (h2 : j ≤ lim) (hr : IsRange s.heap r i j 1 x y z) :
    wpAny (model prog w) A (call (.type "list") [.ref r]) (fun v s' => New prog w s s' (.list (rangeD i (j - i).toNat)) v) No s := by
  obtain ⟨q1, q2⟩ := range_small h0 h1 h2
  have hlim : (lim : Int) = 1048576 := by decide
  refine call_list_range hh hr q2 q1 (by exact ar298 h0 h2 hlim) fun h' tk acc' c' hk hS hacc => ?_
  refine ⟨Ext.heap hk, [s.heap.objs.size], ⟨_, acc'.toList, rfl, ⟨c', by simpa using hS⟩, rds_range _ _ (by simpa using hacc.1) fun j v hj => hacc.2 j v (by simpa using hj), rfl⟩, by simp, fun a ha => by simp at ha; subst ha; exact fresh_size _⟩

theorem preSum_vals : ∀ (l : List Int) (k : Nat), k ≤ l.length → preSum (fun i => l.getD i 0) k = (l.take k).sum := by
  intro l k
  induction k with
  | zero => intro _; simp [preSum]
  | succ k ih =>
    intro h
    have hk : k < l.length := by exact ar169 h
    rw [show preSum (fun i => l.getD i 0) (k + 1) = preSum (fun i => l.getD i 0) k + l.getD k 0 by simp [preSum], ih (by exact ar5 h)]
    simp only [List.getD, List.getElem?_eq_getElem hk, Option.getD_some]
    rw [List.take_succ_eq_append_getElem hk, List.sum_append]; simp

theorem ev_SumValues (G : GlOk prog w A h₀ mg mb) {sc : Scope} {fp pos ap pp : Pos} {o : Expr} {ρ : Store} {l : List (Int × Int)} {bo : List Str} (hg : globOk sc "sum" = true) (hf : methFine o ap pp = true)
    (h1 : EvS prog w A h₀ sc o ρ (.dict l) bo) : EvS prog w A h₀ sc (.Call (.Name "sum" fp) [.Call (.Attribute o "values" ap) [] [] pp] [] pos) ρ (.int (l.map (·.2)).sum) [] := ⟨rfl, trivial, fun env s O K V => by
  refine Call_ (blt_name G hg O K (by simp [builtins1]) boot_sum ?_)
  refine callWith_b1 (fun _ _ e => by cases e) (wpAny_meth hf rfl (by simp) (h1.step O K V fun v s₁ _ e1 _ _ ro _ pl => ?_))
  obtain ⟨d, kvs, rfl, hd, hp, hs, _⟩ := ro
  refine getMethod_builtin hd.typeIs PySem.F.plainAttrs_dict F.slot_dict_values F.type_dict_values hd.mapOf.noDict ?_
  refine callWith_method0 (call_meetsIn F.slot_dict_values hd.typeIs F.entry_dict_values (F.args_dict_values_1 _) (meets_dict_values (intKind prog w) d hs) ⟨⟨kvs, hd⟩, ?_⟩)
  have e2 : Ext s₁ { s₁ with heap := s₁.heap.push { cls := .type "dict_values", data := .fields #[.ref d] } } := Ext.push (tk := s₁.toks)
  refine call_sum_walkG ?_
  obtain ⟨ep, hd'⟩ := (hd.keep e2.keep).dictAt
  refine wpAny_pyIter_values (knd := intKind prog w) (kvs := kvs) (ep := ep) ⟨_, Heap.get?_push_size _ rfl, rfl, rfl⟩ hd' ?_
  have hne : d ≠ (s₁.heap.push { cls := .type "dict_values", data := .fields #[.ref d] }).objs.size := Nat.ne_of_lt hd'.lt_size
  refine ⟨_, _, _, _, _, _, fun i => (l.map (·.2)).getD i 0, rfl, Walks.dictValues (A := A.in1) G.hnd _ d hne kvs ep, ⟨⟨_, Heap.get?_push_size _ rfl, rfl, rfl⟩, hd'.push _⟩, fun b hb => ?_, fun i v hP => ?_, fun h' tk t' hk => ?_⟩
  · rw [Heap.size_push]
    simp only [List.mem_cons, List.not_mem_nil, or_false] at hb
    rcases hb with rfl | rfl
    · exact Nat.lt_succ_self _
    · exact Nat.lt_succ_of_lt hd'.lt_size
  · obtain ⟨k, hk⟩ := hP
    have : ∀ {kvs : List (Int × Value)} {l : List (Int × Int)} {i : Nat} {k : Int} {v : Value}, PairsRd kvs l → kvs[i]? = some (k, v) → ∃ t, v = Value.int ((l.map (·.2)).getD i 0) t := by
      intro kvs l i k v r
      induction r generalizing i with
      | nil => intro e; simp at e
      | @cons k' j t kvs l _ ih =>
        intro e
        cases i with
        | zero => simp at e; obtain ⟨_, rfl⟩ := e; exact ⟨t, by simp⟩
        | succ i =>
          obtain ⟨t, q⟩ := ih (i := i) (by simpa using e)
          exact ⟨t, by simpa using q⟩
    exact this hp hk
  · have e3 : preSum (fun i => (l.map (·.2)).getD i 0) kvs.length = (l.map (·.2)).sum := by
      rw [hp.length, preSum_vals _ _ (by simp), List.take_of_length_le (by simp)]
    rw [e3]
    have hlt : ∀ b o, s₁.heap.get? b = some o → h'.get? b = some o := fun b o q => by
      have q2 := Heap.get?_push_of_some { cls := .type "dict_values", data := .fields #[.ref d] } q
      refine hk b o ?_ (Heap.get?_push_of_some _ q2)
      simp only [List.mem_cons, List.not_mem_nil, or_false]
      exact Nat.ne_of_lt (Heap.lt_size q2)
    exact res_of_new e1 ⟨Ext.heap hlt, [], ⟨⟨t', rfl⟩, rfl⟩, List.nodup_nil, fun _ x => nomatch x⟩⟩

/-- a call of a generator function -/
theorem ev_gen (G : GlOk prog w A h₀ mg mb) {sc : Scope} {f : Str} {fp pos : Pos} {es : List Expr} {ρ : Store} {ds l : List D}
    (hg : globOk sc f = true) (hF : GenS prog w A h₀ mg f ds l) (hne : es.isEmpty = false) (h1 : EvsS prog w A h₀ sc es ρ ds) (hl : l.length ≤ lim) (him : D.ims l = true)
    {env : Env} {s : Shared} (O : EnvOk sc env) (K : Kp h₀ s) (V : Vars prog w s.heap env ρ) :
    wpAny (model prog w) A (eval (.Call (.Name f fp) es [] pos) env) (fun v s' => Ext s s' ∧
      wpAny (model prog w) A (pyIter v) (fun it s'' => Ext s' s'' ∧ ∀ t ρ env bs, ItrAt prog w A h₀ t ρ env bs s l it s'') No s' ∧
      wpAny (model prog w) A (call (.type "list") [v]) (fun r s'' => New prog w s s'' (.list l) r) No s') No s := by
  obtain ⟨a, o, fd, hm, ho, hd, hc⟩ := hF
  refine Call_ (glob_name G hg O K hm ?_)
  refine callWith_fn hd (fun q => by subst q; cases hne) (wp_no (h1.run env s pos O K V) fun vs s₁ q₁ => ?_) (fun e r q => starEach_cons (h1.hd e r q))
  obtain ⟨e1, fq, r⟩ := q₁
  refine ⟨K.ext e1 a o ho, wp_no (hc s₁ (K.ext e1) vs fq r hl him) fun v s' q => ?_⟩
  obtain ⟨e2, q1, q2⟩ := q
  refine ⟨e1.trans e2, wp_no q1 fun it s'' q => ⟨q.1, fun t ρ env bs => ?_⟩, wp_no q2 fun r s'' q => New.after e1 q⟩
  obtain ⟨St, R, W, g, i1, i2, i3, i4, i5⟩ := q.2 t [] env bs
  refine ⟨St, R, W, g, i1, i2, fun b hb => e1.fresh (i3 b hb), fun b hb => ?_, fun i hi => ?_⟩
  · rcases i4 b hb with q | ⟨x, _, ⟨d, hd, _⟩, _⟩
    · exact .inl (e1.fresh q)
    · cases hd
  · have := i5 i hi
    cases q : s.gens[i]? with
    | none => rfl
    | some x => rw [e1.gens i x q] at this; cases this
end
end Mine
end
section
open PySem PySem.W PyProof.Rows PySem.Builtin PySem.Builtin.Str
set_option maxRecDepth 100000
namespace Mine
section
variable {prog : Program} {w : World} {A : Around} {h₀ : Heap} {mg mb : Str → Option Value}

theorem New.to_itr {s : Shared} {d : D} {v : Value} {s' : Shared} (h : New prog w s s' d v) {ρ : Store} {env : Env} {bs : List Str} : Res prog w env ρ bs s s' d v := (New.res h).2

theorem it_plain (G : GlOk prog w A h₀ mg mb) {sc : Scope} {t : Bool} {e : Expr} {ρ : Store} {d : D} {bs : List Str} {ds : List D} (hn : ∀ env x, foldedSetIterable e env x = pure x) (h1 : EvS prog w A h₀ sc e ρ d bs) (h2 : itemsOf d = some ds) : EvItS prog w A h₀ sc t e ρ ds bs :=
  ⟨hn, fun env s O K V => wp_no (h1.run env s O K V) fun v s₁ q => ⟨q.1, items_iter G.hnd h2 q.1 q.2⟩⟩
theorem it_range1 (G : GlOk prog w A h₀ mg mb) {sc : Scope} {t : Bool} {fp pos : Pos} {a : Expr} {ρ : Store} {i : Int} {ba : List Str} (hg : globOk sc "range" = true) (h1 : EvS prog w A h₀ sc a ρ (.int i) ba) (h0 : 0 ≤ i) (hl : i ≤ (lim : Int)) :
    EvItS prog w A h₀ sc t (.Call (.Name "range" fp) [a] [] pos) ρ (rangeD 0 i.toNat) [] := ⟨fun _ _ => rfl, fun env s O K V => by
  refine wp_no (ev_range1 (pos := pos) G hg h1 O K V) fun v s₁ q => ?_
  obtain ⟨e1, r, x, y, z, rfl, hr, _⟩ := q
  refine ⟨e1, ?_⟩
  have := iter_range (h₀ := h₀) (w := w) (prog := prog) (A := A) (E := No) (t := t) (ρ := ρ) (env := env) (bs := []) G.hnd e1 (Int.le_refl 0) h0 hl hr
  rwa [Int.sub_zero] at this⟩
theorem it_enumS (G : GlOk prog w A h₀ mg mb) {sc : Scope} {fp pos : Pos} {a : Expr} {ρ : Store} {cs : List Nat} {ba : List Str} (hg : globOk sc "enumerate" = true) (h1 : EvS prog w A h₀ sc a ρ (.str cs) ba) :
    EvItS prog w A h₀ sc true (.Call (.Name "enumerate" fp) [a] [] pos) ρ (Mine.numbered 0 (cs.map fun c => .str [c])) [] := ⟨fun _ _ => rfl, fun env s O K V => by
  refine Call_ (blt_name G hg O K (by simp [builtins1]) boot_enumerate ?_)
  refine callWith_t1 h1.ns (h1.step O K V fun v s₁ fp e1 _ _ r _ => ?_)
  obtain ⟨⟨tk, rfl⟩, _⟩ := r
  exact wp_no (iter_enum_str (h₀ := h₀) (E := No) (ρ := ρ) (env := env) (bs := []) G.hnd e1) fun v s₂ q => ⟨e1.trans q.1, wp_no q.2 fun it s₃ q => q⟩⟩
theorem it_enumL (G : GlOk prog w A h₀ mg mb) {sc : Scope} {fp pos : Pos} {a : Expr} {ρ : Store} {l : List D} {ba : List Str} (hg : globOk sc "enumerate" = true) (h1 : EvS prog w A h₀ sc a ρ (.list l) ba) (him : D.ims l = true) :
    EvItS prog w A h₀ sc true (.Call (.Name "enumerate" fp) [a] [] pos) ρ (Mine.numbered 0 l) ba := ⟨fun _ _ => rfl, fun env s O K V => by
  refine Call_ (blt_name G hg O K (by simp [builtins1]) boot_enumerate ?_)
  refine callWith_t1 h1.ns (h1.step O K V fun v s₁ fp e1 _ _ r n1 => ?_)
  obtain ⟨a', vs, rfl, hl, r, rfl⟩ := r
  exact wp_no (iter_enum_list (h₀ := h₀) (E := No) (ρ := ρ) (env := env) (bs := ba) G.hnd e1 him hl r (n1.2 a' (List.mem_singleton_self _))) fun v s₂ q => ⟨e1.trans q.1, wp_no q.2 fun it s₃ q => q⟩⟩
theorem it_gen (G : GlOk prog w A h₀ mg mb) {sc : Scope} {t : Bool} {f : Str} {fp pos : Pos} {es : List Expr} {ρ : Store} {ds l : List D} (hg : globOk sc f = true) (hF : GenS prog w A h₀ mg f ds l) (hne : es.isEmpty = false) (h1 : EvsS prog w A h₀ sc es ρ ds) (hl : l.length ≤ lim) (him : D.ims l = true) :
    EvItS prog w A h₀ sc t (.Call (.Name f fp) es [] pos) ρ l [] :=
  ⟨fun _ _ => rfl, fun env s O K V => wp_no (ev_gen (pos := pos) G hg hF hne h1 hl him O K V) fun v s₁ q => ⟨q.1, wp_no q.2.1 fun it s₂ q => ⟨q.1, q.2 _ _ _ _⟩⟩⟩

theorem ev_ListRange (G : GlOk prog w A h₀ mg mb) {sc : Scope} {fp gp pos ppos : Pos} {a b : Expr} {ρ : Store} {i j : Int} {ba bb : List Str} (hg : globOk sc "list" = true) (hgg : globOk sc "range" = true)
    (h1 : EvS prog w A h₀ sc a ρ (.int i) ba) (h2 : EvS prog w A h₀ sc b ρ (.int j) bb) (c0 : 0 ≤ i) (c1 : i ≤ j) (c2 : j ≤ (lim : Int)) :
    EvS prog w A h₀ sc (.Call (.Name "list" fp) [.Call (.Name "range" gp) [a, b] [] ppos] [] pos) ρ (.list (rangeD i (j - i).toNat)) [] := ⟨rfl, trivial, fun env s O K V => by
  refine Call_ (blt_name G hg O K (by simp [builtins1]) boot_list ?_)
  refine callWith_t1 nofun (wp_no (ev_range2 (pos := ppos) G hgg h1 h2 O K V) fun v s₁ q => ?_)
  obtain ⟨e1, r, x, y, z, rfl, hr, _⟩ := q
  exact wp_no (list_range G.hnd c0 c1 c2 hr) fun v s' q => res_of_new e1 q⟩
theorem ev_ListGen (G : GlOk prog w A h₀ mg mb) {sc : Scope} {fp gp pos ppos : Pos} {f : Str} {es : List Expr} {ρ : Store} {ds l : List D} (hg : globOk sc "list" = true) (hgg : globOk sc f = true) (hF : GenS prog w A h₀ mg f ds l) (hne : es.isEmpty = false) (h1 : EvsS prog w A h₀ sc es ρ ds)
    (hl : l.length ≤ lim) (him : D.ims l = true) : EvS prog w A h₀ sc (.Call (.Name "list" fp) [.Call (.Name f gp) es [] ppos] [] pos) ρ (.list l) [] := ⟨rfl, trivial, fun env s O K V => by
  refine Call_ (blt_name G hg O K (by simp [builtins1]) boot_list ?_)
  refine callWith_t1 nofun (wp_no (ev_gen (pos := ppos) G hgg hF hne h1 hl him O K V) fun v s₁ q => ?_)
  exact wp_no q.2.2 fun v s' q2 => New.res q2⟩

theorem b_value {sc : Scope} {e : Expr} {ρ : Store} {b : Bool} {bx : List Str} (h1 : EvS prog w A h₀ sc e ρ (.bool b) bx) (he : ∀ env, isTrue e env (eval e env) = (do let v ← eval e env; standAt e.pos; holding [v] (truthy v))) : EvBS prog w A h₀ sc e ρ b := fun env s O K V => by
  refine wpAny_isTrue_value (h1.step O K V fun v s₁ _ e1 _ _ r _ => ?_) (he env)
  obtain ⟨rfl, _⟩ := r
  exact wpAny_truthy_bool ⟨e1, rfl⟩
theorem b_not {sc : Scope} {x : Expr} {p : Pos} {ρ : Store} {c : Bool} (h1 : EvBS prog w A h₀ sc x ρ c) : EvBS prog w A h₀ sc (.UnaryOp .Not x p) ρ (!c) := fun env s O K V =>
  wpAny_isTrue_Not (wp_no (h1 env s O K V) fun c' s' q => ⟨q.1, by rw [q.2]⟩)
theorem b_bool {sc : Scope} {op : BoolOp} {es : List Expr} {p : Pos} {ρ : Store} {b : Bool} (h : EvBoolS prog w A h₀ sc op es ρ b) : EvBS prog w A h₀ sc (.BoolOp op es p) ρ b := fun env s O K V =>
  wpAny_isTrue_BoolOp (h env s O K V)
theorem b_cmp (G : GlOk prog w A h₀ mg mb) {sc : Scope} {l r : Expr} {op : CmpOp} {pos : Pos} {ρ : Store} {a b : D} {c : Bool} {ba bb : List Str} (hm : behindInMarks op r = false) (h1 : EvS prog w A h₀ sc l ρ a ba) (h2 : EvS prog w A h₀ sc r ρ b bb) (h3 : CmpR op a b c) :
    EvBS prog w A h₀ sc (.Compare l [op] [r] pos) ρ c := fun env s O K V => by
  refine wpAny_isTrue_Compare1 (h1.step O K V fun va s₁ fa e1 K1 V1 ra _ => h2.step O K1 V1 fun vb s₂ fb e2 _ _ rb _ => wp_no (cmp_sound (room64 G) h3 (ra.keeps e2.keep) rb) fun v s' hn => ?_) hm
  obtain ⟨rfl, e3⟩ := hn
  exact wpAny_truthy_bool ⟨(e1.trans e2).trans e3, rfl⟩
theorem b_cmp2 (G : GlOk prog w A h₀ mg mb) {sc : Scope} {l r r' : Expr} {op op' : CmpOp} {pos : Pos} {ρ : Store} {a b a' : D} {c c' : Bool} {ba bb bc : List Str} (hm : behindInMarks op r = false) (hm' : behindInMarks op' r' = false)
    (h1 : EvS prog w A h₀ sc l ρ a ba) (h2 : EvS prog w A h₀ sc r ρ b bb) (h4 : EvS prog w A h₀ sc r' ρ a' bc) (h3 : CmpR op a b c) (h5 : CmpR op' b a' c') : EvBS prog w A h₀ sc (.Compare l [op, op'] [r, r'] pos) ρ (c && c') := fun env s O K V => by
  refine isTrue_chain (h1.step O K V fun va s₁ fa e1 K1 V1 ra _ => ?_) (by simp [lastMarks, hm, hm'])
  refine test_link (h2.step O K1 V1 fun vb s₂ fb e2 K2 V2 rb _ => wp_no (cmp_sound (room64 G) h3 (ra.keeps e2.keep) rb) fun v s₃ hn => ?_)
  obtain ⟨rfl, e3⟩ := hn
  refine wpAny_truthy_bool ?_
  have e123 := (e1.trans e2).trans e3
  cases c
  · exact ⟨e123, rfl⟩
  · refine test_last (h4.step O (K2.ext e3) (V2.keeps e3.keep) fun vc s₄ fc e4 _ _ rc _ => wp_no (cmp_sound (room64 G) h5 ((rb.keeps e3.keep).keeps e4.keep) rc) fun v s' hn => ?_)
    obtain ⟨rfl, e5⟩ := hn
    exact wpAny_truthy_bool ⟨(e123.trans e4).trans e5, rfl⟩

noncomputable def EvBsS (prog : Program) (w : World) (A : Around) (h₀ : Heap) (sc : Scope) (es : List Expr) (ρ : Store) (b : Bool) : Prop :=
  ∀ env s, EnvOk sc env → Kp h₀ s → Vars prog w s.heap env ρ →
    wpAny (model prog w) A (forIn es true fun c r => if r = true then do let ok ← isTrue c env (eval c env); pure (ForInStep.yield ok) else pure (ForInStep.yield r)) (fun c s' => Ext s s' ∧ c = b) No s
theorem bs_nil {sc : Scope} {ρ : Store} : EvBsS prog w A h₀ sc [] ρ true := fun _ s _ _ _ => wpAny_pure ⟨Ext.refl s, rfl⟩
theorem bs_one {sc : Scope} {e : Expr} {ρ : Store} {b : Bool} (h : EvBS prog w A h₀ sc e ρ b) : EvBsS prog w A h₀ sc [e] ρ b := fun env s O K V => by
  rw [List.forIn_cons]
  simp only [if_true]
  exact wpAny_bind (wpAny_bind (wp_no (h env s O K V) fun c' s₁ q => wpAny_pure (wpAny_pure q)))
end
end Mine
end
section
open PySem PySem.W PyProof.Rows PySem.Builtin PySem.Builtin.Str
set_option maxRecDepth 100000
namespace Mine

theorem Store.get_cons (x y : Str) (d : D) (r : Store) : Store.get ((y, d) :: r) x = if x = y then some d else Store.get r x := by
  unfold Store.get
  rw [List.lookup_cons]
  by_cases h : x = y
  · subst h; simp
  · rw [if_neg h, show (x == y) = false by simpa using h]
theorem Store.get_set : ∀ (ρ : Store) (x y : Str) (d : D), (ρ.set x d).get y = if y = x then some d else ρ.get y
  | [], x, y, d => by
    unfold Store.set
    rw [Store.get_cons]
  | (z, e) :: r, x, y, d => by
    unfold Store.set
    by_cases h : x = z
    · subst h
      simp only [beq_self_eq_true, if_true, Store.get_cons]
      by_cases h2 : y = x <;> simp [h2]
    · rw [if_neg (by simpa using h), Store.get_cons, Store.get_cons, Store.get_set r x y d]
      by_cases h2 : y = z
      · subst h2
        rw [if_pos rfl, if_pos rfl, if_neg (fun q => h q.symm)]
      · rw [if_neg h2, if_neg h2]

section
variable {prog : Program} {w : World} {A : Around} {h₀ : Heap} {mg mb : Str → Option Value}

theorem Chd.refl (W : List Addr) (g : Option Nat) (s : Shared) : Chd W g s s := ⟨fun _ _ _ e => e, rfl, fun _ _ _ e => e, id⟩
theorem Chd.trans {W : List Addr} {g : Option Nat} {s s' s'' : Shared} (x : Chd W g s s') (y : Chd W g s' s'') : Chd W g s s'' :=
  ⟨fun b o hb e => y.keep b o hb (x.keep b o hb e), y.os.trans x.os, fun i z hi e => y.gens i z hi (x.gens i z hi e), fun q => y.bare (x.bare q)⟩
theorem Ext.chd {W : List Addr} {g : Option Nat} {s s' : Shared} (x : Ext s s') : Chd W g s s' := ⟨fun b o _ e => x.keep b o e, x.os, fun i z _ e => x.gens i z e, x.bare⟩
theorem Chd.mono {W W' : List Addr} {s s' : Shared} (x : Chd W none s s') (h : ∀ b ∈ W, b ∈ W') : Chd W' none s s' :=
  ⟨fun b o hb e => x.keep b o (fun q => hb (h b q)) e, x.os, x.gens, x.bare⟩

/-- what stands in the store, within N -/
noncomputable def VarsN (prog : Program) (w : World) (h : Heap) (env : Env) (ρ : Store) (N : Addr → Prop) : Prop :=
  ∀ x d, ρ.get x = some d → d.ok = true ∧ ∃ v fp, VarAt h env x v ∧ Rd prog w h d v fp ∧ (∀ a ∈ fp, N a) ∧ (env.kindOf x = some .local ∨ ∀ c, env.cells.lookup x = some c → N c)
theorem VarsN.vars {h : Heap} {env : Env} {ρ : Store} {N : Addr → Prop} (V : VarsN prog w h env ρ N) : Vars prog w h env ρ :=
  fun x d e => let ⟨a, v, fp, b, c, _⟩ := V x d e; ⟨a, v, fp, b, c⟩
theorem VarsN.keeps {h h' : Heap} {env : Env} {ρ : Store} {N : Addr → Prop} (V : VarsN prog w h env ρ N) (hk : ∀ b o, h.get? b = some o → h'.get? b = some o) : VarsN prog w h' env ρ N :=
  fun x d e => let ⟨a, v, fp, b, c, q⟩ := V x d e; ⟨a, v, fp, b.keeps hk, c.keeps hk, q⟩
theorem VarAt.keepBut {h h' : Heap} {env : Env} {X : Addr → Prop} {x : Str} {v : Value} (hk : ∀ b o, h.get? b = some o → ¬ X b → h'.get? b = some o) (hL : ¬ X env.locals) (hC : env.kindOf x = some .local ∨ ∀ c, env.cells.lookup x = some c → ¬ X c) (V : VarAt h env x v) : VarAt h' env x v := by
  rcases V with ⟨k, m, hm, e⟩ | ⟨k, c, hc, hv⟩
  · obtain ⟨o, es, ep, ho, r⟩ := hm
    exact .inl ⟨k, m, ⟨o, es, ep, hk _ o ho hL, r⟩, e⟩
  · obtain ⟨o, ho, hd⟩ := hv
    refine .inr ⟨k, c, hc, o, hk c o ho ?_, hd⟩
    rcases hC with q | q
    · rw [q] at k; rcases k with k | k <;> cases k
    · exact q c hc
theorem VarsN.keepBut {h h' : Heap} {env : Env} {ρ : Store} {N X : Addr → Prop} (hk : ∀ b o, h.get? b = some o → ¬ X b → h'.get? b = some o) (hX : ∀ b its, X b → ¬ PTup h b its)
    (hL : ¬ X env.locals) (hN : ∀ a, N a → ¬ X a) (V : VarsN prog w h env ρ N) : VarsN prog w h' env ρ N :=
  fun x d e => let ⟨a, v, fp, b, c, q, r⟩ := V x d e; ⟨a, v, fp, b.keepBut hk hL (r.imp id fun r c hc => hN c (r c hc)), Rd.keepBut hk hX (fun a ha => hN a (q a ha)) c, q, r⟩
theorem VarsN.bor {h : Heap} {env : Env} {ρ : Store} {N : Addr → Prop} (V : VarsN prog w h env ρ N) {bs : List Str} {a : Addr} (B : Bor ρ env bs h a) : N a := by
  obtain ⟨x, _, ⟨d, hd, hm⟩, hv⟩ := B
  obtain ⟨_, v, fp, q, r, hn, _⟩ := V x d hd
  have e := q.unique hv
  subst e
  obtain ⟨b, e, rfl⟩ := Rd.mut_ref hm r
  cases e
  exact hn a (by simp)
theorem ns_kept {h h' : Heap} {X : Addr → Prop} {a : Addr} (hk : ∀ b o, h.get? b = some o → ¬ X b → h'.get? b = some o) (hL : ¬ X a) (m : ∃ m, h.Ns a m) : ∃ m, h'.Ns a m := by
  obtain ⟨m, o, es, ep, ho, r⟩ := m
  exact ⟨m, o, es, ep, hk a o ho hL, r⟩
theorem ns_not_tup {h : Heap} {a : Addr} {its : Array Value} (m : ∃ m, h.Ns a m) : ¬ PTup h a its := by
  obtain ⟨m, o, es, ep, ho, hd, _⟩ := m
  rintro ⟨k, e⟩
  rw [ho] at e; cases e; cases hd
theorem list_not_tup {h : Heap} {a : Addr} {l its : Array Value} (m : h.PlainList a l) : ¬ PTup h a its := by
  obtain ⟨n, ho⟩ := m
  rintro ⟨k, e⟩
  rw [ho] at e; exact absurd (congrArg (fun o : Option Obj => o.map Obj.cls) e) (by simp)

/-- a local name of the frame takes a value that isn't a container -/
theorem setLocal {env : Env} {ρ : Store} {N : Addr → Prop} {s : Shared} {x : Str} {d : D} {v : Value} (hx : env.kindOf x = some .local) (hk : env.scope.kind = .function)
    (V : VarsN prog w s.heap env ρ N) (hm : ∃ m, s.heap.Ns env.locals m) (hN : ¬ N env.locals) (hd : d.im = true) (r : Rd prog w s.heap d v []) :
    wpAny (model prog w) A (storeName env x v) (fun _ s' => Chd [env.locals] none s s' ∧ VarsN prog w s'.heap env (ρ.set x d) N ∧ ∃ m, s'.heap.Ns env.locals m) No s := by
  have hm' := hm
  obtain ⟨m, hm⟩ := hm
  refine wpAny_storeName_local hx hm (fun h' hn hs => ?_) (by rw [hk]; rfl)
  have hkeep : ∀ b o, s.heap.get? b = some o → ¬ b = env.locals → h'.get? b = some o := fun b o e q => hs.extBut b o q e
  have hX : ∀ b its, b = env.locals → ¬ PTup s.heap b its := by rintro b its rfl; exact ns_not_tup hm'
  refine ⟨Chd.heap fun b o hb e => hkeep b o e (by simpa using hb), ?_, _, hn⟩
  intro y e hy
  rw [Store.get_set] at hy
  by_cases q : y = x
  · subst q
    rw [if_pos rfl] at hy; cases hy
    exact ⟨by simp [D.ok, hd], v, [], .inl ⟨hx, _, hn, by simp⟩, Rd.keepBut hkeep hX (fun _ q => nomatch q) r, (fun _ q => nomatch q), .inl hx⟩
  · rw [if_neg q] at hy
    obtain ⟨a, v', fp, b, c, hq, hr⟩ := V y e hy
    refine ⟨a, v', fp, ?_, Rd.keepBut hkeep hX (fun a ha q => hN (q ▸ hq a ha)) c, hq, hr⟩
    rcases b with ⟨k, m', hm2, e'⟩ | ⟨k, c', hc, hv⟩
    · have := ns_unique hm hm2
      subst this
      exact .inl ⟨k, _, hn, by simp [q, e']⟩
    · obtain ⟨o, ho, hd'⟩ := hv
      refine .inr ⟨k, c', hc, o, hkeep c' o ho ?_, hd'⟩
      rcases hr with q | q
      · rw [q] at k; rcases k with k | k <;> cases k
      · exact fun q' => hN (q' ▸ q c' hc)

/-- a comprehension's target takes an item -/
theorem setT {sc : Scope} {env : Env} {ρ ρ' : Store} {N : Addr → Prop} {s : Shared} {t : Expr} {d : D} {v : Value} (hh : A.handled = none) (O : EnvOk sc env) (hf : freshT sc t ρ = true) (hb : BindR sc t d ρ ρ')
    (V : VarsN prog w s.heap env ρ N) (hm : ∃ m, s.heap.Ns env.locals m) (hN : ¬ N env.locals) (r : Rd prog w s.heap d v []) :
    TgtOk (isTupleT t) t ∧ (∀ h' N', VarsN prog w h' env ρ' N' → VarsN prog w h' env ρ N') ∧
    wpAny (model prog w) A (assign t env v) (fun _ s' => Chd [env.locals] none s s' ∧ VarsN prog w s'.heap env ρ' N ∧ ∃ m, s'.heap.Ns env.locals m) No s := by
  cases hb with
  | @one x pos d ρ hx hc =>
    simp only [freshT, tnames, List.all_cons, List.all_nil, Bool.and_true, Bool.and_eq_true, beq_iff_eq, Option.isNone_iff_eq_none] at hf
    refine ⟨⟨x, pos, rfl⟩, fun h' N' V' y e hy => V' y e ?_, wpAny_assign_Name (setLocal (by rw [O.kindOf]; exact hf.1) O.kind V hm hN hc r)⟩
    rw [Store.get_set, if_neg (by rintro rfl; rw [hf.2] at hy; cases hy)]
    exact hy
  | @two x y px py k pos d1 d2 ρ hx hy hc1 hc2 =>
    simp only [freshT, tnames, namesOf, Option.map_some, Option.getD_some, List.all_cons, List.all_nil, Bool.and_true, Bool.and_eq_true, beq_iff_eq, Option.isNone_iff_eq_none] at hf
    refine ⟨⟨_, _, _, rfl⟩, fun h' N' V' z e hz => V' z e ?_, ?_⟩
    · rw [Store.get_set, Store.get_set, if_neg (by rintro rfl; rw [hf.2.2] at hz; cases hz), if_neg (by rintro rfl; rw [hf.1.2] at hz; cases hz)]
      exact hz
    obtain ⟨a, vs, rfl, hp, r⟩ := r
    obtain ⟨v1, q1, f1, g1, rfl, e1, r1, r⟩ := r
    obtain ⟨v2, q2, f2, g2, rfl, e2, r2, r⟩ := r
    obtain ⟨rfl, rfl⟩ := r
    have hf1 : f1 = [] := Rd.im_fp hc1 r1
    have hf2 : f2 = [] := Rd.im_fp hc2 r2
    subst hf1 hf2
    refine wpAny_assign_Tuple hh hp.isTup rfl rfl fun h' hs => ?_
    have hk : ∀ b o, s.heap.get? b = some o → h'.get? b = some o := fun b o e => hs b o (Nat.ne_of_lt (Heap.lt_size e)) e
    show wpAny _ _ (assignInOrder [assign (.Name x px) env, assign (.Name y py) env] [v1, v2]) _ _ _
    have hE : Ext s { s with heap := h' } := Ext.heap (tk := s.toks) hk
    refine wpAny_bind (wpAny_holding (wpAny_assign_Name (wp_no (setLocal (s := { s with heap := h' }) (by rw [O.kindOf]; exact hf.1.1) O.kind (V.keeps hk) (by obtain ⟨m, hm⟩ := hm; exact ⟨m, hm.keeps hk⟩) hN hc1 (r1.keeps hk)) fun _ s₁ q => ?_)))
    obtain ⟨c1, V1, m1⟩ := q
    have hX : ∀ b its, b ∈ [env.locals] → ¬ PTup h' b its := by
      intro b its hb
      rw [List.mem_singleton.mp hb]
      obtain ⟨m, hm⟩ := hm
      exact ns_not_tup ⟨m, hm.keeps hk⟩
    refine wpAny_bind (wpAny_holding (wpAny_assign_Name (wp_no (setLocal (by rw [O.kindOf]; exact hf.2.1) O.kind V1 m1 hN hc2 (Rd.keepBut (X := (· ∈ [env.locals])) (fun b o e hb => c1.keep b o hb e) hX (fun _ q => nomatch q) (r2.keeps hk))) fun _ s₂ q => ?_)))
    exact wpAny_pure ⟨(hE.chd.trans c1).trans q.1, q.2.1, q.2.2⟩

/-- a turn of a comprehension's loop -/
noncomputable def Emits (elt : Expr) (gens : List Comprehension) (scope : Scope) (pos : Pos) (depth : Nat) (t : Expr) (ifs : List Expr) : Prop :=
  ∃ ip, ∀ it acc env, compTurn (.ListComp elt gens scope pos) depth it acc env = (do
      standAt ip
      match ← pyNext it with
      | none => pure (.done .next)
      | some v =>
        letOwnedTupleGo t it v
        assign t env v
        let mut ok := true
        for c in ifs do
          if ok then ok ← isTrue c env (eval c env)
        if ok then
          (do let _ ← call (.builtin "list.append") [acc, ← eval elt env])
        again (.compLoop (.ListComp elt gens scope pos) depth it acc env))
theorem emits1 (elt t it : Expr) (ifs : List Expr) (scope : Scope) (pos : Pos) : Emits elt [⟨t, it, ifs, 0⟩] scope pos 0 t ifs := ⟨it.pos, fun _ _ _ => rfl⟩
theorem emits2 (elt t it t' it' : Expr) (scope : Scope) (pos : Pos) : Emits elt [⟨t, it, [], 0⟩, ⟨t', it', [], 0⟩] scope pos 1 t' [] := ⟨it'.pos, fun _ _ _ => rfl⟩

theorem comp_turn {elt : Expr} {gens : List Comprehension} {scope : Scope} {pos : Pos} {depth : Nat} {t : Expr} {ifs : List Expr} (hE : Emits elt gens scope pos depth t ifs) {it acc : Value} {env : Env} {R : Result → Shared → Prop} {s : Shared}
    (h : wpAny (model prog w) A (pyNext it) (fun r s₁ => match r with
      | none => R (.ok .next) s₁
      | some v => wpAny (model prog w) A (letOwnedTupleGo t it v) (fun _ s₁' => wpAny (model prog w) A (assign t env v) (fun _ s₂ =>
          wpAny (model prog w) A (forIn ifs true fun c r => if r = true then do let ok ← isTrue c env (eval c env); pure (ForInStep.yield ok) else pure (ForInStep.yield r)) (fun ok s₃ =>
            if ok = true then wpAny (model prog w) A (eval elt env) (fun x s₄ =>
              wpAny (model prog w) A (call (.builtin "list.append") [acc, x]) (fun _ s₅ => codeAny (model prog w) A (.compLoop (.ListComp elt gens scope pos) depth it acc env) R s₅) No s₄) No s₃
            else codeAny (model prog w) A (.compLoop (.ListComp elt gens scope pos) depth it acc env) R s₃) No s₂) No s₁') No s₁) No s) :
    codeAny (model prog w) A (.compLoop (.ListComp elt gens scope pos) depth it acc env) R s := by
  obtain ⟨ip, hE⟩ := hE
  refine codeAny_of_tree ?_
  show wpAny _ A ((compTurn (.ListComp elt gens scope pos) depth it acc env).onRaise (fun x => do noteFrame x env; theTreesLotGoes x)) _ _ s
  refine wpAny_noted ?_
  rw [hE]
  refine wpAny_bind (wpAny_standAt (wpAny_bind (wp_no h fun r s₁ h₁ => ?_)))
  cases r with
  | none => exact wpAny_pure h₁
  | some v =>
    refine wpAny_bind (wp_no h₁ fun _ s₁' h₁ => wpAny_bind (wp_no h₁ fun _ s₂ h₂ => wpAny_bind (wp_no h₂ fun ok s₃ h₃ => ?_)))
    cases ok with
    | false => exact wpAny_pure ⟨rfl, h₃⟩
    | true =>
      exact wpAny_bind (wpAny_bind (wp_no h₃ fun x s₄ h₄ => wpAny_bind (wp_no h₄ fun _ s₅ h₅ => wpAny_pure (wpAny_pure ⟨rfl, h₅⟩))))
end
end Mine
end
section
open PySem PySem.W PyProof.Rows PySem.Builtin PySem.Builtin.Str
set_option maxRecDepth 100000
namespace Mine
section
variable {prog : Program} {w : World} {A : Around} {h₀ : Heap} {mg mb : Str → Option Value}

/-- the state of a comprehension's loop -/
structure CSt (prog : Program) (w : World) (cenv : Env) (ρ : Store) (N : Addr → Prop) (L : Addr) (s₀ : Shared) (ds : List D) (s : Shared) : Prop where
  chd : Chd [cenv.locals, L] none s₀ s
  vars : VarsN prog w s.heap cenv ρ N
  ns : ∃ m, s.heap.Ns cenv.locals m
  acc : ∃ vs, s.heap.PlainList L (List.toArray vs) ∧ Rds prog w s.heap ds vs []

structure CBase (cenv : Env) (N : Addr → Prop) (L : Addr) (h₀ : Heap) (s₀ : Shared) : Prop where
  kp : Kp h₀ s₀
  c0 : h₀.get? cenv.locals = none
  d0 : h₀.get? L = none
  ne : L ≠ cenv.locals
  old : ∀ a, N a → (s₀.heap.get? a).isSome = true ∧ a ≠ cenv.locals ∧ a ≠ L

structure CompS (prog : Program) (w : World) (A : Around) (h₀ : Heap) (sc : Scope) (elt t : Expr) (ifs : List Expr) (items : List D) (ρ : Store) (ds : List D) : Prop where
  run : ∀ gens scope pos depth, Emits elt gens scope pos depth t ifs →
    ∀ cenv N L s₀, EnvOk sc cenv → CBase cenv N L h₀ s₀ → ∀ it all St R W g s i ds₀, Itr prog w A h₀ (isTupleT t) it all St R g → St i W s → all.drop i = items → i ≤ all.length →
    CSt prog w cenv ρ N L s₀ ds₀ s → ds₀.length + ds.length ≤ lim → (∀ b ∈ W, s₀.heap.get? b = none ∧ b ≠ cenv.locals ∧ b ≠ L) → (∀ b ∈ R, b ≠ cenv.locals ∧ b ≠ L) → (∀ i, g = some i → s₀.gens[i]? = none) →
    ∀ RR : Result → Shared → Prop, (∀ s', CSt prog w cenv ρ N L s₀ (ds₀ ++ ds) s' → RR (.ok .next) s') →
    codeAny (model prog w) A (.compLoop (.ListComp elt gens scope pos) depth it (.ref L) cenv) RR s

theorem CSt.step {cenv : Env} {ρ ρ' : Store} {N : Addr → Prop} {L : Addr} {s₀ s s' : Shared} {ds : List D} {g : Option Nat} (C : CSt prog w cenv ρ N L s₀ ds s) {X : List Addr} (k : Chd X g s s') (hX : ∀ b its, b ∈ X → ¬ PTup s.heap b its)
    (h0 : ∀ b ∈ X, s₀.heap.get? b = none ∨ b = cenv.locals) (hD : L ∉ X) (hg : ∀ i, g = some i → s₀.gens[i]? = none) (V : VarsN prog w s'.heap cenv ρ' N) (hn : ∃ m, s'.heap.Ns cenv.locals m) : CSt prog w cenv ρ' N L s₀ ds s' := by
  refine ⟨⟨fun b o hb e => k.keep b o (fun q => ?_) (C.chd.keep b o hb e), k.os.trans C.chd.os, fun i x hi e => k.gens i x (fun q => ?_) (C.chd.gens i x hi e), fun q => k.bare (C.chd.bare q)⟩, V, hn, ?_⟩
  · rcases h0 b q with q | q
    · rw [q] at e; cases e
    · exact hb (by simp [q])
  · rw [hg i q.symm] at e; cases e
  · obtain ⟨vs, ⟨m, hl⟩, r⟩ := C.acc
    exact ⟨vs, ⟨m, k.keep L _ hD hl⟩, Rds.keepBut (X := (· ∈ X)) (fun b o e hb => k.keep b o hb e) hX (fun _ q => nomatch q) r⟩

theorem CSt.kp {cenv : Env} {ρ : Store} {N : Addr → Prop} {L : Addr} {s₀ s : Shared} {ds : List D} (C : CSt prog w cenv ρ N L s₀ ds s) (B : CBase cenv N L h₀ s₀) : Kp h₀ s := fun b o e => by
  refine C.chd.keep b o ?_ (B.kp b o e)
  simp only [List.mem_cons, List.not_mem_nil, or_false, not_or]
  exact ⟨fun q => (by rw [q, B.c0] at e; cases e), fun q => (by rw [q, B.d0] at e; cases e)⟩
theorem CSt.ext {cenv : Env} {ρ : Store} {N : Addr → Prop} {L : Addr} {s₀ s s' : Shared} {ds : List D} (C : CSt prog w cenv ρ N L s₀ ds s) (e : Ext s s') : CSt prog w cenv ρ N L s₀ ds s' :=
  ⟨C.chd.trans e.chd, C.vars.keeps e.keep, let ⟨m, hm⟩ := C.ns; ⟨m, hm.keeps e.keep⟩, let ⟨vs, ⟨m, hl⟩, r⟩ := C.acc; ⟨vs, ⟨m, e.keep _ _ hl⟩, r.keeps e.keep⟩⟩

theorem drop_get {α : Type} {all r : List α} {d : α} {i : Nat} (h : all.drop i = d :: r) : all[i]? = some d ∧ all.drop (i + 1) = r := by
  refine ⟨?_, ?_⟩
  · have := congrArg (fun l => l[0]?) h
    simpa using this
  · have := congrArg (fun l => l.drop 1) h
    simpa using this

theorem drop_lt {α : Type} {all r : List α} {d : α} {i : Nat} (h : all.drop i = d :: r) : i + 1 ≤ all.length := by
  have := (List.getElem?_eq_some_iff.mp (drop_get h).1).1
  exact ar141 this

/-- an item is drawn and bound -/
theorem comp_bind (G : GlOk prog w A h₀ mg mb) {sc : Scope} {cenv : Env} {ρ ρ' : Store} {N : Addr → Prop} {L : Addr} {s₀ s : Shared} {t : Expr} {d : D} {r all : List D} {it : Value} {St : Nat → List Addr → Shared → Prop} {R W : List Addr} {g : Option Nat} {i : Nat} {ds₀ : List D}
    (O : EnvOk sc cenv) (B : CBase cenv N L h₀ s₀) (I : Itr prog w A h₀ (isTupleT t) it all St R g) (st : St i W s) (hi : all.drop i = d :: r) (C : CSt prog w cenv ρ N L s₀ ds₀ s)
    (hW : ∀ b ∈ W, s₀.heap.get? b = none ∧ b ≠ cenv.locals ∧ b ≠ L) (hR : ∀ b ∈ R, b ≠ cenv.locals ∧ b ≠ L) (hg : ∀ i, g = some i → s₀.gens[i]? = none) (hf : freshT sc t ρ = true) (hb : BindR sc t d ρ ρ') :
    (∀ h' N', VarsN prog w h' cenv ρ' N' → VarsN prog w h' cenv ρ N') ∧
    wpAny (model prog w) A (pyNext it) (fun r s₁ => ∃ v, r = some v ∧ wpAny (model prog w) A (letOwnedTupleGo t it v) (fun _ s₂ => wpAny (model prog w) A (assign t cenv v) (fun _ s₃ =>
      CSt prog w cenv ρ' N L s₀ ds₀ s₃ ∧ ∃ W', St (i + 1) W' s₃ ∧ (∀ b ∈ W', s₀.heap.get? b = none ∧ b ≠ cenv.locals ∧ b ≠ L)) No s₂) No s₁) No s := by
  have hN : ¬ N cenv.locals := fun q => (B.old _ q).2.1 rfl
  have hX : ∀ b its, b ∈ W → ¬ PTup s.heap b its := fun b its q => (I.wr i W s st b q).2 its
  obtain ⟨hT, hback⟩ : TgtOk (isTupleT t) t ∧ ∀ h' N', VarsN prog w h' cenv ρ' N' → VarsN prog w h' cenv ρ N' := by
    cases hb with
    | one =>
      simp only [freshT, tnames, List.all_cons, List.all_nil, Bool.and_true, Bool.and_eq_true, beq_iff_eq, Option.isNone_iff_eq_none] at hf
      refine ⟨⟨_, _, rfl⟩, fun h' N' V' y e hy => V' y e ?_⟩
      rw [Store.get_set, if_neg (by rintro rfl; rw [hf.2] at hy; cases hy)]
      exact hy
    | two =>
      simp only [freshT, tnames, namesOf, Option.map_some, Option.getD_some, List.all_cons, List.all_nil, Bool.and_true, Bool.and_eq_true, beq_iff_eq, Option.isNone_iff_eq_none] at hf
      refine ⟨⟨_, _, _, rfl⟩, fun h' N' V' z e hz => V' z e ?_⟩
      rw [Store.get_set, Store.get_set, if_neg (by rintro rfl; rw [hf.2.2] at hz; cases hz), if_neg (by rintro rfl; rw [hf.1.2] at hz; cases hz)]
      exact hz
  refine ⟨hback, ?_⟩
  refine wp_no (I.item i W s d t st (drop_get hi).1 hT) fun r' s₁ q => ?_
  obtain ⟨v, rfl, q⟩ := q
  refine ⟨v, rfl, wp_no q fun _ s₂ q => ?_⟩
  obtain ⟨k, rd, W', st', hW'⟩ := q
  have hC1 : CSt prog w cenv ρ N L s₀ ds₀ s₂ := by
    have hkeep : ∀ b o, s.heap.get? b = some o → ¬ b ∈ W → s₂.heap.get? b = some o := fun b o e q => k.keep b o q e
    refine C.step k hX (fun b q => .inl (hW b q).1) (fun q => (hW L q).2.2 rfl) hg (VarsN.keepBut hkeep hX (fun q => (hW _ q).2.1 rfl) (fun a q1 q2 => ?_) C.vars) (ns_kept hkeep (fun q => (hW _ q).2.1 rfl) C.ns)
    have := (B.old a q1).1; rw [(hW a q2).1] at this; cases this
  have hW2 : ∀ b ∈ W', s₀.heap.get? b = none ∧ b ≠ cenv.locals ∧ b ≠ L := fun b q => by
    rcases hW' b q with q | q
    · exact hW b q
    · have hne : b ≠ cenv.locals := by
        rintro rfl
        obtain ⟨m, o, _, _, ho, _⟩ := C.ns
        rw [q] at ho; cases ho
      have hnl : b ≠ L := by
        rintro rfl
        obtain ⟨vs, ⟨m, ho⟩, _⟩ := C.acc
        rw [q] at ho; cases ho
      refine ⟨?_, hne, hnl⟩
      cases e : s₀.heap.get? b with
      | none => rfl
      | some o =>
        rw [C.chd.keep b o (by simp [hne, hnl]) e] at q; cases q
  obtain ⟨_, _, hset⟩ := setT (A := A) G.hnd O hf hb hC1.vars hC1.ns hN rd
  refine wp_no hset fun _ s₃ q => ?_
  obtain ⟨k3, V3, m3⟩ := q
  have hX3 : ∀ b its, b ∈ [cenv.locals] → ¬ PTup s₂.heap b its := by
    intro b its q; simp at q; subst q; exact ns_not_tup hC1.ns
  refine ⟨hC1.step k3 hX3 (fun b q => .inr (by simpa using q)) (by simp [B.ne]) (fun _ q => nomatch q) V3 m3, W', ?_, hW2⟩
  exact I.frame (i + 1) W' s₂ s₃ (· ∈ [cenv.locals]) st' (fun b o e q => k3.keep b o q e) hX3 (fun b q q2 => (hW2 b q).2.1 (by simpa using q2)) (fun b q q2 => (hR b q).1 (by simpa using q2)) (fun i x _ e => k3.gens i x (by simp) e) (fun b o e q => by simp at q; rw [q, B.c0] at e; cases e)

theorem lim_line {k : Nat} (h : k ≤ lim) : k ≤ sizeLine := Nat.le_trans h (by decide)

theorem comp_nil {sc : Scope} {elt t : Expr} {ifs : List Expr} {ρ : Store} : CompS prog w A h₀ sc elt t ifs [] ρ [] := ⟨by
  intro gens scope pos depth hE cenv N L s₀ O B it all St R W g s i ds₀ It st hi hle C hl hW hR hg RR hRR
  refine comp_turn hE ?_
  have hlen : all.length ≤ i := List.drop_eq_nil_iff.mp hi
  obtain rfl : i = all.length := Nat.le_antisymm hle hlen
  refine wp_no (It.done W s st) fun r' s₁ q => ?_
  obtain ⟨rfl, k⟩ := q
  refine hRR s₁ ?_
  rw [List.append_nil]
  have hkeep : ∀ b o, s.heap.get? b = some o → ¬ b ∈ W → s₁.heap.get? b = some o := fun b o e q => k.keep b o q e
  have hX : ∀ b its, b ∈ W → ¬ PTup s.heap b its := fun b its q => (It.wr _ W s st b q).2 its
  refine C.step k hX (fun b q => .inl (hW b q).1) (fun q => (hW L q).2.2 rfl) hg (VarsN.keepBut hkeep hX (fun q => (hW _ q).2.1 rfl) (fun a q1 q2 => ?_) C.vars) (ns_kept hkeep (fun q => (hW _ q).2.1 rfl) C.ns)
  have := (B.old a q1).1; rw [(hW a q2).1] at this; cases this⟩

theorem comp_cons (G : GlOk prog w A h₀ mg mb) {sc : Scope} {elt t : Expr} {ifs : List Expr} {ρ ρ' : Store} {d : D} {r hd dr : List D} {ok : Bool} (hf : freshT sc t ρ = true) (hb : BindR sc t d ρ ρ') (h1 : EvBsS prog w A h₀ sc ifs ρ' ok)
    (h2 : if ok = true then ∃ x bx, EvS prog w A h₀ sc elt ρ' x bx ∧ x.im = true ∧ hd = [x] else hd = []) (h3 : CompS prog w A h₀ sc elt t ifs r ρ dr) : CompS prog w A h₀ sc elt t ifs (d :: r) ρ (hd ++ dr) := ⟨by
  intro gens scope pos depth hE cenv N L s₀ O B it all St R W g s i ds₀ It st hi hle C hl hW hR hg RR hRR
  refine comp_turn hE ?_
  obtain ⟨hback, hbind⟩ := comp_bind G O B It st hi C hW hR hg hf hb
  refine wp_no hbind fun x s₁ q => ?_
  obtain ⟨v, rfl, q⟩ := q
  refine wp_no q fun _ s₂ q => wp_no q fun _ s₃ q => ?_
  obtain ⟨C3, W', st', hW'⟩ := q
  refine wp_no (h1 cenv s₃ O (C3.kp B) C3.vars.vars) fun ok' s₄ q => ?_
  obtain ⟨e4, rfl⟩ := q
  have C4 := C3.ext e4
  have back : ∀ {ds' : List D} {s' : Shared}, CSt prog w cenv ρ' N L s₀ ds' s' → CSt prog w cenv ρ N L s₀ ds' s' := fun c => ⟨c.chd, hback _ _ c.vars, c.ns, c.acc⟩
  have fr4 : St (i + 1) W' s₄ := It.frame _ _ _ _ (fun _ => False) st' (fun b o e _ => e4.keep b o e) (fun _ _ q => q.elim) (fun _ _ q => q) (fun _ _ q => q) (fun i x _ e => e4.gens i x e) (fun _ _ _ q => q)
  cases ok' with
  | false =>
    rw [if_neg Bool.false_ne_true] at h2 ⊢
    subst h2
    exact h3.run gens scope pos depth hE cenv N L s₀ O B it all St R W' g s₄ (i + 1) ds₀ It fr4 (drop_get hi).2 (drop_lt hi) (back C4) hl hW' hR hg RR hRR
  | true =>
    rw [if_pos rfl] at h2 ⊢
    obtain ⟨x, bx, h4, him, rfl⟩ := h2
    refine h4.step O (C4.kp B) C4.vars.vars fun xv s₅ fp e5 _ _ rx _ => ?_
    have := Rd.im_fp him rx
    subst this
    have C5 := C4.ext e5
    obtain ⟨vs, hpl, rvs⟩ := C5.acc
    have hsz : vs.toArray.size ≤ sizeLine := by
      rw [List.size_toArray, rvs.length]
      exact lim_line (Nat.le_trans (Nat.le_add_right _ _) hl)
    refine wpAny_list_append_plain hpl (fun h' hp' hs' => ?_) hsz
    have hX : ∀ b its, b = L → ¬ PTup s₅.heap b its := by rintro b its rfl; exact list_not_tup hpl
    have hkeep : ∀ b o, s₅.heap.get? b = some o → ¬ b = L → h'.get? b = some o := fun b o e q => hs'.extBut b o q e
    have C6 : CSt prog w cenv ρ' N L s₀ (ds₀ ++ [x]) { s₅ with heap := h' } := by
      refine ⟨⟨fun b o hb e => hkeep b o (C5.chd.keep b o hb e) (fun q => hb (by simp [q])), C5.chd.os, C5.chd.gens, C5.chd.bare⟩,
        VarsN.keepBut hkeep hX (fun q => B.ne q.symm) (fun a q => (B.old a q).2.2) C5.vars, ns_kept hkeep (fun q => B.ne q.symm) C5.ns, vs ++ [xv], by simpa using hp', ?_⟩
      have r1 := Rds.keepBut (fp := []) hkeep hX (fun _ q => nomatch q) rvs
      have r2 := Rd.keepBut (fp := []) hkeep hX (fun _ q => nomatch q) rx
      have := Rds.append r1 (b := [x]) (ws := [xv]) (g := []) ⟨xv, [], [], [], rfl, rfl, r2, rfl, rfl⟩
      simpa using this
    have fr6 : St (i + 1) W' { s₅ with heap := h' } := by
      refine It.frame _ _ s₅ _ (· = L) (It.frame _ _ _ _ (fun _ => False) fr4 (fun b o e _ => e5.keep b o e) (fun _ _ q => q.elim) (fun _ _ q => q) (fun _ _ q => q) (fun i x _ e => e5.gens i x e) (fun _ _ _ q => q)) hkeep hX (fun b q => (hW' b q).2.2) (fun b q => (hR b q).2) (fun _ _ _ e => e) (fun b o e q => by rw [q, B.d0] at e; cases e)
    refine h3.run gens scope pos depth hE cenv N L s₀ O B it all St R W' g _ (i + 1) (ds₀ ++ [x]) It fr6 (drop_get hi).2 (drop_lt hi) (back C6) ?_ hW' hR hg RR ?_
    · rw [List.length_append, Nat.add_assoc, ← List.length_append]; exact hl
    · rw [List.append_assoc]; exact hRR⟩
end
end Mine
end
section
open PySem PySem.W PyProof.Rows PySem.Builtin PySem.Builtin.Str
set_option maxRecDepth 100000
namespace Mine
section
variable {prog : Program} {w : World} {A : Around} {h₀ : Heap} {mg mb : Str → Option Value}

theorem compStart_any {elt : Expr} {gens : List Comprehension} {scope : Scope} {pos : Pos} {depth : Nat} {it acc : Value} {env : Env} {R : Result → Shared → Prop} {s : Shared} {t i : Expr} {ifs : List Expr}
    (hg : gens[depth]? = some ⟨t, i, ifs, 0⟩) (h0 : codeAny (model prog w) A (.compLoop (.ListComp elt gens scope pos) depth it acc env) R s)
    (h : wpAny (model prog w) A (pyIter it) (fun it' s' => it' = it ∧ s' = s) No s) :
    codeAny (model prog w) A (.compStart (.ListComp elt gens scope pos) depth it acc env) R s := by
  refine codeAny_of_tree ?_
  show wpAny _ A ((compStart (.ListComp elt gens scope pos) depth it acc env).onRaise (fun x => do noteFrame x env; standAt theWindowsPlace)) _ _ s
  refine wpAny_notedAt ?_
  unfold compStart
  rw [show clausesOf (.ListComp elt gens scope pos) = gens from rfl, hg]
  show wpAny _ _ (ask >>= _) _ _ s
  refine wpAny_bind (wpAny_askSetting (wpAny_ite ?_))
  split
  · first
      | exact wpAny_bind (wpAny_pure (wpAny_pure (And.intro rfl h0)))
      | exact wpAny_pure (And.intro rfl h0)
  · first
      | exact wpAny_bind (wpAny_rule (wpAny_bind (wpAny_standAt (wpAny_bind (wp_no h (fun it' s' h' => by obtain ⟨rfl, rfl⟩ := h'; exact wpAny_pure (And.intro rfl h0)))))))
      | (refine wpAny_bind (wpAny_rule ?_); show wpAny _ _ (standAt i.pos >>= _) _ _ s; exact wpAny_bind (wpAny_standAt (wpAny_bind (wp_no h (fun it' s' h' => by obtain ⟨rfl, rfl⟩ := h'; exact wpAny_pure (And.intro rfl h0))))))

theorem comp_turn2 {elt t it₀ t' it' : Expr} {scope : Scope} {pos : Pos} (hs : ∀ env x, foldedSetIterable it' env x = pure x) {it acc : Value} {env : Env} {R : Result → Shared → Prop} {s : Shared}
    (h : wpAny (model prog w) A (pyNext it) (fun r s₁ => match r with
      | none => R (.ok .next) s₁
      | some v => wpAny (model prog w) A (letOwnedTupleGo t it v) (fun _ s₁' => wpAny (model prog w) A (assign t env v) (fun _ s₂ =>
          wpAny (model prog w) A (eval it' env) (fun x s₃ => wpAny (model prog w) A (pyIter x) (fun y s₄ =>
            codeAny (model prog w) A (.compStart (.ListComp elt [⟨t, it₀, [], 0⟩, ⟨t', it', [], 0⟩] scope pos) 1 y acc env) (fun r s₅ => r = .ok .next ∧
              codeAny (model prog w) A (.compLoop (.ListComp elt [⟨t, it₀, [], 0⟩, ⟨t', it', [], 0⟩] scope pos) 0 it acc env) R s₅) s₄) No s₃) No s₂) No s₁') No s₁) No s) :
    codeAny (model prog w) A (.compLoop (.ListComp elt [⟨t, it₀, [], 0⟩, ⟨t', it', [], 0⟩] scope pos) 0 it acc env) R s := by
  refine codeAny_of_tree ?_
  show wpAny _ A ((compTurn (.ListComp elt [⟨t, it₀, [], 0⟩, ⟨t', it', [], 0⟩] scope pos) 0 it acc env).onRaise (fun x => do noteFrame x env; theTreesLotGoes x)) _ _ s
  refine wpAny_noted ?_
  have hT : compTurn (.ListComp elt [⟨t, it₀, [], 0⟩, ⟨t', it', [], 0⟩] scope pos) 0 it acc env = (do
      standAt it₀.pos
      match ← pyNext it with
      | none => pure (.done .next)
      | some v =>
        letOwnedTupleGo t it v
        assign t env v
        let x ← eval it' env
        standAt it'.pos
        let x ← foldedSetIterable it' env x
        let _ ← runOwn (.compStart (.ListComp elt [⟨t, it₀, [], 0⟩, ⟨t', it', [], 0⟩] scope pos) 1 (← holding [x] (pyIter x)) acc env) env
        again (.compLoop (.ListComp elt [⟨t, it₀, [], 0⟩, ⟨t', it', [], 0⟩] scope pos) 0 it acc env)) := by rfl
  rw [hT]
  refine wpAny_bind (wpAny_standAt (wpAny_bind (wp_no h fun r s₁ h₁ => ?_)))
  cases r with
  | none => exact wpAny_pure h₁
  | some v =>
    refine wpAny_bind (wp_no h₁ fun _ s₁' h₁ => wpAny_bind (wp_no h₁ fun _ s₂ h₂ => wpAny_bind (wp_no h₂ fun x s₃ h₃ => wpAny_bind (wpAny_standAt ?_))))
    rw [hs]
    refine wpAny_bind (wpAny_pure (wpAny_bind (wpAny_holding (wp_no h₃ fun y s₄ h₄ => wpAny_bind (wpAny_runOwn (codeAny_mono (A := A) h₄ fun r s₅ q => ?_))))))
    obtain ⟨rfl, q⟩ := q
    exact wpAny_pure ⟨rfl, q⟩

structure Comp2S (prog : Program) (w : World) (A : Around) (h₀ : Heap) (sc : Scope) (elt t t' it' : Expr) (items : List D) (ρ : Store) (ds : List D) : Prop where
  run : ∀ it₀ scope pos,
    ∀ cenv N L s₀, EnvOk sc cenv → CBase cenv N L h₀ s₀ → ∀ it all St R W g s i ds₀, Itr prog w A h₀ (isTupleT t) it all St R g → St i W s → all.drop i = items → i ≤ all.length →
    CSt prog w cenv ρ N L s₀ ds₀ s → ds₀.length + ds.length ≤ lim → (∀ b ∈ W, s₀.heap.get? b = none ∧ b ≠ cenv.locals ∧ b ≠ L) → (∀ b ∈ R, b ≠ cenv.locals ∧ b ≠ L) → (∀ i, g = some i → s₀.gens[i]? = none) →
    ∀ RR : Result → Shared → Prop, (∀ s', CSt prog w cenv ρ N L s₀ (ds₀ ++ ds) s' → RR (.ok .next) s') →
    codeAny (model prog w) A (.compLoop (.ListComp elt [⟨t, it₀, [], 0⟩, ⟨t', it', [], 0⟩] scope pos) 0 it (.ref L) cenv) RR s

theorem comp_end {cenv : Env} {ρ : Store} {N : Addr → Prop} {L : Addr} {s₀ s s₁ : Shared} {ds₀ : List D} {t : Bool} {it : Value} {all : List D} {St : Nat → List Addr → Shared → Prop} {R W : List Addr} {g : Option Nat} {i : Nat}
    (B : CBase cenv N L h₀ s₀) (It : Itr prog w A h₀ t it all St R g) (st : St i W s) (C : CSt prog w cenv ρ N L s₀ ds₀ s) (hW : ∀ b ∈ W, s₀.heap.get? b = none ∧ b ≠ cenv.locals ∧ b ≠ L) (hg : ∀ i, g = some i → s₀.gens[i]? = none) (k : Chd W g s s₁) :
    CSt prog w cenv ρ N L s₀ ds₀ s₁ := by
  have hkeep : ∀ b o, s.heap.get? b = some o → ¬ b ∈ W → s₁.heap.get? b = some o := fun b o e q => k.keep b o q e
  have hX : ∀ b its, b ∈ W → ¬ PTup s.heap b its := fun b its q => (It.wr _ W s st b q).2 its
  refine C.step k hX (fun b q => .inl (hW b q).1) (fun q => (hW L q).2.2 rfl) hg (VarsN.keepBut hkeep hX (fun q => (hW _ q).2.1 rfl) (fun a q1 q2 => ?_) C.vars) (ns_kept hkeep (fun q => (hW _ q).2.1 rfl) C.ns)
  have := (B.old a q1).1; rw [(hW a q2).1] at this; cases this

theorem CSt.there {cenv : Env} {ρ : Store} {N : Addr → Prop} {L : Addr} {s₀ s : Shared} {ds : List D} (C : CSt prog w cenv ρ N L s₀ ds s) : (∃ o, s.heap.get? cenv.locals = some o) ∧ ∃ o, s.heap.get? L = some o := by
  obtain ⟨m, o, _, _, ho, _⟩ := C.ns
  obtain ⟨vs, ⟨k, hl⟩, _⟩ := C.acc
  exact ⟨⟨o, ho⟩, _, hl⟩

theorem comp2_nil {sc : Scope} {elt t t' it' : Expr} {ρ : Store} : Comp2S prog w A h₀ sc elt t t' it' [] ρ [] := ⟨by
  intro it₀ scope pos cenv N L s₀ O B it all St R W g s i ds₀ It st hi hle C hl hW hR hg RR hRR
  have hlen : all.length ≤ i := List.drop_eq_nil_iff.mp hi
  obtain rfl : i = all.length := Nat.le_antisymm hle hlen
  refine codeAny_of_tree ?_
  show wpAny _ A ((compTurn (.ListComp elt [⟨t, it₀, [], 0⟩, ⟨t', it', [], 0⟩] scope pos) 0 it (.ref L) cenv).onRaise (fun x => do noteFrame x cenv; theTreesLotGoes x)) _ _ s
  refine wpAny_noted ?_
  show wpAny _ A (standAt it₀.pos >>= fun _ => pyNext it >>= _) _ _ s
  refine wpAny_bind (wpAny_standAt (wpAny_bind (wp_no (It.done W s st) fun r' s₁ q => ?_)))
  obtain ⟨rfl, k⟩ := q
  refine wpAny_pure (hRR s₁ ?_)
  rw [List.append_nil]
  exact comp_end B It st C hW hg k⟩
theorem comp2_cons (G : GlOk prog w A h₀ mg mb) {sc : Scope} {elt t t' it' : Expr} {ρ ρ' : Store} {d : D} {r inner hd dr : List D} {bs : List Str} (hf : freshT sc t ρ = true) (hb : BindR sc t d ρ ρ') (h1 : EvItS prog w A h₀ sc (isTupleT t') it' ρ' inner bs)
    (h2 : CompS prog w A h₀ sc elt t' [] inner ρ' hd) (h3 : Comp2S prog w A h₀ sc elt t t' it' r ρ dr) : Comp2S prog w A h₀ sc elt t t' it' (d :: r) ρ (hd ++ dr) := ⟨by
  intro it₀ scope pos cenv N L s₀ O B it all St R W g s i ds₀ It st hi hle C hl hW hR hg RR hRR
  refine comp_turn2 h1.noSet ?_
  obtain ⟨hback, hbind⟩ := comp_bind G O B It st hi C hW hR hg hf hb
  refine wp_no hbind fun x s₁ q => ?_
  obtain ⟨v, rfl, q⟩ := q
  refine wp_no q fun _ s₂ q => wp_no q fun _ s₃ q => ?_
  obtain ⟨C3, W', st', hW'⟩ := q
  refine wp_no (h1.run cenv s₃ O (C3.kp B) C3.vars.vars) fun x s₄ q => ?_
  obtain ⟨e4, q⟩ := q
  refine wp_no q fun y s₅ q => ?_
  obtain ⟨e5, St2, R2, W2, g2, It2, st2, hW2, hR2, hg2⟩ := q
  have e45 := e4.trans e5
  have C5 := C3.ext e45
  obtain ⟨⟨oc, hoc⟩, ol, hol⟩ := C3.there
  have B3 : CBase cenv N L h₀ s₃ := ⟨C3.kp B, B.c0, B.d0, B.ne, fun a q => ⟨by
    obtain ⟨q1, q2, q3⟩ := B.old a q
    obtain ⟨o, ho⟩ := Option.isSome_iff_exists.mp q1
    rw [C3.chd.keep a o (by simp [q2, q3]) ho]; rfl, (B.old a q).2⟩⟩
  have C5' : CSt prog w cenv ρ' N L s₃ ds₀ s₅ := ⟨e45.chd, C5.vars, C5.ns, C5.acc⟩
  have hWW : ∀ b ∈ W2, s₃.heap.get? b = none ∧ b ≠ cenv.locals ∧ b ≠ L := fun b q =>
    ⟨hW2 b q, fun q' => (by rw [q'] at q; rw [hW2 _ q] at hoc; cases hoc), fun q' => (by rw [q'] at q; rw [hW2 _ q] at hol; cases hol)⟩
  have hRR2 : ∀ b ∈ R2, b ≠ cenv.locals ∧ b ≠ L := fun b q => by
    rcases hR2 b q with q | q
    · exact ⟨fun q' => (by rw [q'] at q; rw [q] at hoc; cases hoc), fun q' => (by rw [q'] at q; rw [q] at hol; cases hol)⟩
    · exact (B.old b (C3.vars.bor q)).2
  rw [List.length_append, ← Nat.add_assoc] at hl
  have hlen : ds₀.length + hd.length ≤ lim := Nat.le_trans (Nat.le_add_right _ _) hl
  refine compStart_any (t := t') (i := it') (ifs := []) rfl ?_ (It2.self _ _ _ st2)
  refine h2.run _ scope pos 1 (emits2 elt t it₀ t' it' scope pos) cenv N L s₃ O B3 y inner St2 R2 W2 g2 s₅ 0 ds₀ It2 st2 (by simp) (by simp) C5' hlen hWW hRR2 hg2 _ fun s₆ C6 => ⟨rfl, ?_⟩
  have C6' : CSt prog w cenv ρ N L s₀ (ds₀ ++ hd) s₆ := ⟨C3.chd.trans C6.chd, hback _ _ C6.vars, C6.ns, C6.acc⟩
  have hXX : ∀ b its, b ∈ [cenv.locals, L] → ¬ PTup s₃.heap b its := by
    intro b its q
    simp only [List.mem_cons, List.not_mem_nil, or_false] at q
    rcases q with rfl | rfl
    · exact ns_not_tup C3.ns
    · obtain ⟨vs, hl, _⟩ := C3.acc
      exact list_not_tup hl
  have fr : St (i + 1) W' s₆ := It.frame _ _ s₃ s₆ (· ∈ [cenv.locals, L]) st' (fun b o e q => C6.chd.keep b o q e) hXX (fun b q q2 => by
      simp only [List.mem_cons, List.not_mem_nil, or_false] at q2
      rcases q2 with q2 | q2
      · exact (hW' b q).2.1 q2
      · exact (hW' b q).2.2 q2) (fun b q q2 => by
      simp only [List.mem_cons, List.not_mem_nil, or_false] at q2
      rcases q2 with q2 | q2
      · exact (hR b q).1 q2
      · exact (hR b q).2 q2) (fun i x _ e => C6.chd.gens i x (by simp) e) (fun b o e q => by
      simp only [List.mem_cons, List.not_mem_nil, or_false] at q
      rcases q with q | q
      · rw [q, B.c0] at e; cases e
      · rw [q, B.d0] at e; cases e)
  refine h3.run it₀ scope pos cenv N L s₀ O B it all St R W' g s₆ (i + 1) (ds₀ ++ hd) It fr (drop_get hi).2 (drop_lt hi) C6' (by rw [List.length_append]; exact hl) hW' hR hg RR ?_
  rw [List.append_assoc]; exact hRR⟩
end
end Mine
end
section
open PySem PySem.W PyProof.Rows PySem.Builtin PySem.Builtin.Str
set_option maxRecDepth 100000
namespace Mine
section
variable {prog : Program} {w : World} {A : Around} {h₀ : Heap} {mg mb : Str → Option Value}

theorem closure_loop {env : Env} : ∀ (names : List (Str × NameKind)) (cs : List (Str × Addr)), (∀ x ∈ names, x.2 = .free → ∃ c, env.cells.lookup x.1 = some c) →
    (∀ x c, cs.lookup x = some c → env.cells.lookup x = some c) →
    ∃ cl, (forIn names cs fun x r => if (x.2 == NameKind.free) = true then do let a ← cellOf env x.1; pure (ForInStep.yield ((x.1, a) :: r)) else pure (ForInStep.yield r) : Sem (List (Str × Addr))) = pure cl ∧
      (∀ x c, cl.lookup x = some c → env.cells.lookup x = some c) ∧ (∀ x, (cs.lookup x).isSome = true → (cl.lookup x).isSome = true) ∧ ∀ x ∈ names, x.2 = .free → (cl.lookup x.1).isSome = true
  | [], cs, _, h2 => ⟨cs, rfl, h2, fun _ q => q, fun _ q => nomatch q⟩
  | (x, k) :: r, cs, h1, h2 => by
    by_cases hk : k = .free
    · subst hk
      obtain ⟨c, hc⟩ := h1 (x, .free) (by simp) rfl
      obtain ⟨cl, e, q1, q2, q3⟩ := closure_loop r ((x, c) :: cs) (fun y hy => h1 y (by simp [hy])) (fun y c' hy => by
        rw [List.lookup_cons] at hy
        by_cases q : y = x
        · subst q; simp at hy; rw [← hy]; exact hc
        · rw [show (y == x) = false by simpa using q] at hy; exact h2 y c' hy)
      refine ⟨cl, ?_, q1, fun y hy => q2 y ?_, fun y hy hf => ?_⟩
      · rw [List.forIn_cons]
        have : cellOf env x = pure c := by unfold cellOf; rw [hc]
        simp only [beq_self_eq_true, if_true, this, pure_bind]
        exact e
      · rw [List.lookup_cons]
        by_cases q : y = x
        · subst q; simp
        · rw [show (y == x) = false by simpa using q]; exact hy
      · simp only [List.mem_cons] at hy
        rcases hy with rfl | hy
        · exact q2 x (by simp)
        · exact q3 y hy hf
    · obtain ⟨cl, e, q1, q2, q3⟩ := closure_loop r cs (fun y hy => h1 y (by simp [hy])) h2
      refine ⟨cl, ?_, q1, q2, fun y hy hf => ?_⟩
      · rw [List.forIn_cons]
        have : (k == NameKind.free) = false := by simpa using hk
        simp only [this, Bool.false_eq_true, if_false, pure_bind]
        exact e
      · simp only [List.mem_cons] at hy
        rcases hy with rfl | hy
        · exact absurd hf hk
        · exact q3 y hy hf

theorem closure_ok {csc : Scope} {env : Env} (h : ∀ x ∈ csc.names, x.2 = .free → ∃ c, env.cells.lookup x.1 = some c) :
    ∃ cl, closureFor csc env = pure cl ∧ (∀ x c, cl.lookup x = some c → env.cells.lookup x = some c) ∧ ∀ x ∈ csc.names, x.2 = .free → (cl.lookup x.1).isSome = true := by
  obtain ⟨cl, e, q1, _, q3⟩ := closure_loop csc.names [] h (fun _ _ q => by simp at q)
  refine ⟨cl, ?_, q1, q3⟩
  unfold closureFor
  rw [← e]
  exact bind_pure _

theorem get_seen {sc csc : Scope} {ρ : Store} {x : Str} {d : D} (h : (seenIn sc csc ρ).get x = some d) : ρ.get x = some d ∧ csc.names.lookup x = some .free ∧ sc.names.lookup x = some .cell := by
  unfold seenIn at h
  induction ρ with
  | nil => simp [Store.get] at h
  | cons p r ih =>
    obtain ⟨y, e⟩ := p
    rw [List.filter_cons] at h
    split at h
    · rename_i hc
      simp only [Bool.and_eq_true, beq_iff_eq] at hc
      rw [Store.get_cons] at h ⊢
      split at h
      · rename_i q
        subst q
        cases h
        exact ⟨by simp, hc⟩
      · rename_i q
        obtain ⟨a, b⟩ := ih h
        rw [if_neg q]
        exact ⟨a, b⟩
    · rename_i hc
      obtain ⟨a, b, c⟩ := ih h
      rw [Store.get_cons]
      by_cases q : x = y
      · subst q
        exact absurd (by simp [b, c]) hc
      · rw [if_neg q]; exact ⟨a, b, c⟩

theorem compScope_names {sc csc : Scope} {env : Env} (O : EnvOk sc env) : (relabel csc env).names = (compScope sc csc).names := by
  unfold relabel compScope
  have : ∀ n, env.kindOf n = sc.names.lookup n := O.kindOf
  simp only [O.kind, O.skind, this]

theorem compOk_mem {sc csc : Scope} (h : compOk sc csc = true) : csc.kind = .function ∧ (∀ x ∈ csc.names, x.2 ≠ .cell) ∧ (∀ x ∈ csc.names, x.2 = .local → csc.names.lookup x.1 = some .local) ∧
    (∀ x ∈ csc.names, x.2 = .free → sc.names.lookup x.1 = some .cell ∧ csc.names.lookup x.1 = some .free) := by
  unfold compOk at h
  simp only [Bool.and_eq_true, beq_iff_eq, List.all_eq_true] at h
  obtain ⟨h1, h2⟩ := h
  refine ⟨h1, fun x hx q => ?_, fun x hx q => ?_, fun x hx q => ?_⟩
  · have := h2 x hx
    obtain ⟨a, k⟩ := x
    simp only at q; subst q
    simp at this
  · have := h2 x hx
    obtain ⟨a, k⟩ := x
    simp only at q; subst q
    simpa using this
  · have := h2 x hx
    obtain ⟨a, k⟩ := x
    simp only at q; subst q
    simpa using this

theorem lookup_relabel {sc csc : Scope} : ∀ (names : List (Str × NameKind)) (x : Str), (names.map fun (n, k) => if (k == NameKind.free && sc.kind == .function && sc.names.lookup n == some .cell) then (n, NameKind.cell) else (n, k)).lookup x =
    (names.lookup x).map fun k => if (k == NameKind.free && sc.kind == .function && sc.names.lookup x == some .cell) then NameKind.cell else k
  | [], x => rfl
  | (n, k) :: r, x => by
    have ih := lookup_relabel (sc := sc) (csc := csc) r x
    show List.lookup x ((if (k == NameKind.free && sc.kind == .function && sc.names.lookup n == some .cell) then (n, NameKind.cell) else (n, k)) :: _) = _
    by_cases q : x = n
    · subst q
      split <;> simp_all
    · have q' : (x == n) = false := by simpa using q
      rw [show List.lookup x ((n, k) :: r) = List.lookup x r by rw [List.lookup_cons, q']]
      split <;> (rw [List.lookup_cons]; simp only [q']; exact ih)

/-- what a comprehension makes -/
theorem comp_core {sc csc : Scope} {elt t it : Expr} {ifs : List Expr} {rest : List Comprehension} {pos : Pos} {ρ : Store} {items ds : List D} {bs : List Str}
    (hok : compOk sc csc = true) (h1 : EvItS prog w A h₀ sc (isTupleT t) it ρ items bs) (hlen : ds.length ≤ lim)
    (hloop : ∀ cenv N L s₀, EnvOk (compScope sc csc) cenv → CBase cenv N L h₀ s₀ → ∀ it' all St R W g s i, Itr prog w A h₀ (isTupleT t) it' all St R g → St i W s → all.drop i = items → i ≤ all.length →
      CSt prog w cenv (seenIn sc csc ρ) N L s₀ [] s → (∀ b ∈ W, s₀.heap.get? b = none ∧ b ≠ cenv.locals ∧ b ≠ L) → (∀ b ∈ R, b ≠ cenv.locals ∧ b ≠ L) → (∀ i, g = some i → s₀.gens[i]? = none) →
      ∀ RR : Result → Shared → Prop, (∀ s', CSt prog w cenv (seenIn sc csc ρ) N L s₀ ds s' → RR (.ok .next) s') →
      codeAny (model prog w) A (.compLoop (.ListComp elt (⟨t, it, ifs, 0⟩ :: rest) csc pos) 0 it' (.ref L) cenv) RR s)
    {env : Env} {s : Shared} (O : EnvOk sc env) (K : Kp h₀ s) (V : Vars prog w s.heap env ρ) :
    ∃ cl, closureFor csc env = pure cl ∧ ∀ RR : Value → Addr → Result → Shared → Prop,
      (∀ L C s', Ext s s' → s.heap.get? L = none → s.heap.get? C = none → L ≠ C → (∃ m, s'.heap.Ns C m) → (∃ vs, s'.heap.PlainList L (List.toArray vs) ∧ Rds prog w s'.heap ds vs []) → RR (.ref L) C (.ok .next) s') →
      wpAny (model prog w) A (eval it env) (fun x s₁ => wpAny (model prog w) A (pyIter x) (fun it' s₂ => wpAny (model prog w) A (newList []) (fun acc s₃ =>
        wpAny (model prog w) A (newFunctionEnv csc env.globals cl [] env.qual none .none (some env)) (fun cenv s₄ =>
          codeAny (model prog w) A (.compStart (.ListComp elt (⟨t, it, ifs, 0⟩ :: rest) csc pos) 0 it' acc { cenv with scope := relabel csc env }) (RR acc cenv.locals) s₄) No s₃) No s₂) No s₁) No s := by
  obtain ⟨hk, hnc, hloc, hfree⟩ := compOk_mem hok
  obtain ⟨cl, hcl, hc1, hc2⟩ := closure_ok (csc := csc) (env := env) fun x hx hf => O.cells x.1 (hfree x hx hf).1
  refine ⟨cl, hcl, fun RR hRR => ?_⟩
  refine wp_no (h1.run env s O K V) fun x s₁ q => ?_
  obtain ⟨e1, q⟩ := q
  refine wp_no q fun it' s₂ q => ?_
  obtain ⟨e2, St, R, W, g, It, st, hW, hR, hg⟩ := q
  have e12 := e1.trans e2
  have hfresh : ∀ b, s₂.heap.objs.size ≤ b → s.heap.get? b = none := fun b hb => e12.fresh (by
    cases q : s₂.heap.get? b with
    | none => rfl
    | some o => exact absurd (Heap.lt_size q) (Nat.not_lt.mpr hb))
  refine wpAny_newList (wpAny_newFunctionEnv hnc (by intro y hy; simp at hy) (fun h₁ hns hsb => ?_) hk) (by decide)
  have hCs : ({ s₂ with heap := s₂.heap.push { cls := .type "list", data := .seq ([] : List Value).toArray } } : Shared).heap.objs.size = s₂.heap.objs.size + 1 := Heap.size_push ..
  generalize hsC : ({ s₂ with heap := s₂.heap.push { cls := .type "list", data := .seq ([] : List Value).toArray } } : Shared).heap.objs.size = C at *
  have hLC : s₂.heap.objs.size ≠ C := by rw [hCs]; exact Nat.ne_of_lt (Nat.lt_succ_self _)
  have hE0 : Ext s₂ { s₂ with heap := h₁, toks := s₂.toks + ([] : List (Str × Value)).length } := Ext.heap fun b o e => by
    have e' := Heap.get?_push_of_some { cls := .type "list", data := .seq ([] : List Value).toArray } e
    refine hsb.extBut b o ?_ (Heap.get?_push_of_some _ e')
    rw [hCs]; exact Nat.ne_of_lt (Nat.lt_succ_of_lt (Heap.lt_size e))
  have hacc : h₁.PlainList s₂.heap.objs.size #[] := ⟨_, hsb.extBut _ _ hLC (Heap.get?_push_of_some _ (Heap.get?_push_size _ rfl))⟩
  have hE := e12.trans hE0
  show codeAny (model prog w) A (.compStart (.ListComp elt (⟨t, it, ifs, 0⟩ :: rest) csc pos) 0 it' (.ref s₂.heap.objs.size) (compEnvC csc cl C env)) (RR (.ref s₂.heap.objs.size) C) _
  have hlk : ∀ x, (compScope sc csc).names.lookup x = (csc.names.lookup x).map fun k => if (k == NameKind.free && sc.kind == .function && sc.names.lookup x == some .cell) then NameKind.cell else k := fun x => lookup_relabel (csc := csc) csc.names x
  have O' : EnvOk (compScope sc csc) (compEnvC csc cl C env) := by
    refine ⟨compScope_names O, hk, hk, O.glob, O.blt, fun x hx => ?_⟩
    rw [hlk] at hx
    obtain ⟨k, hk1, hk2⟩ := Option.map_eq_some_iff.mp hx
    have hm : (x, k) ∈ csc.names := mem_of_lookup hk1
    have hf : k = .free := by
      split at hk2
      · rename_i q
        simp only [Bool.and_eq_true, beq_iff_eq] at q
        exact q.1.1
      · exact absurd hk2 (hnc _ hm)
    exact Option.isSome_iff_exists.mp (hc2 (x, k) hm hf)
  have hsL : s.heap.get? s₂.heap.objs.size = none := hfresh _ (Nat.le_refl _)
  have hsCC : s.heap.get? C = none := hfresh _ (by rw [hCs]; exact Nat.le_succ _)
  have hk0 : ∀ b, s.heap.get? b = none → h₀.get? b = none := fun b q => by
    cases e : h₀.get? b with
    | none => rfl
    | some o => rw [K b o e] at q; cases q
  have B : CBase (compEnvC csc cl C env) (fun a => (s.heap.get? a).isSome = true) s₂.heap.objs.size h₀ s :=
    ⟨K, hk0 _ hsCC, hk0 _ hsL, hLC, fun a q => ⟨q, fun q' => (by rw [q', show (compEnvC csc cl C env).locals = C from rfl, hsCC] at q; cases q), fun q' => (by rw [q', hsL] at q; cases q)⟩⟩
  have C0 : CSt prog w (compEnvC csc cl C env) (seenIn sc csc ρ) (fun a => (s.heap.get? a).isSome = true) s₂.heap.objs.size s [] { s₂ with heap := h₁, toks := s₂.toks + ([] : List (Str × Value)).length } := by
    refine ⟨hE.chd, fun x d hx => ?_, ⟨_, hns⟩, [], hacc, rfl, rfl⟩
    obtain ⟨hx, hfr, hce⟩ := get_seen hx
    obtain ⟨hdk, v, fp, hv, hr⟩ := V x d hx
    have hkx : (compEnvC csc cl C env).kindOf x = some .cell := by rw [O'.kindOf, hlk, hfr]; simp [O.skind, hce]
    obtain ⟨c, hc⟩ := Option.isSome_iff_exists.mp (hc2 _ (mem_of_lookup hfr) rfl)
    have hce' := hc1 x c hc
    obtain ⟨o, ho, hd⟩ : s.heap.IsCell c (some v) := by
      rcases hv with ⟨k, _⟩ | ⟨_, c', q, hq⟩
      · rw [O.kindOf, hce] at k; cases k
      · rw [hce'] at q; cases q; exact hq
    refine ⟨hdk, v, fp, .inr ⟨.inl hkx, c, hc, o, hE.keep c o ho, hd⟩, hr.keeps hE.keep, fun a ha => hr.there a ha, .inr fun c' q => ?_⟩
    have : c' = c := by
      have q' : cl.lookup x = some c' := q
      rw [hc] at q'; cases q'; rfl
    subst this
    rw [ho]; rfl
  have hWW : ∀ b ∈ W, s.heap.get? b = none ∧ b ≠ C ∧ b ≠ s₂.heap.objs.size := fun b q => by
    obtain ⟨o, ho⟩ := (It.wr 0 W s₂ st b q).1
    have := Heap.lt_size ho
    exact ⟨hW b q, by rw [hCs]; exact Nat.ne_of_lt (Nat.lt_succ_of_lt this), Nat.ne_of_lt this⟩
  have hRR' : ∀ b ∈ R, b ≠ C ∧ b ≠ s₂.heap.objs.size := fun b q => by
    obtain ⟨o, ho⟩ := It.rr 0 W s₂ st b q
    have := Heap.lt_size ho
    exact ⟨by rw [hCs]; exact Nat.ne_of_lt (Nat.lt_succ_of_lt this), Nat.ne_of_lt this⟩
  have st' : St 0 W { s₂ with heap := h₁, toks := s₂.toks + ([] : List (Str × Value)).length } :=
    It.frame _ _ _ _ (fun _ => False) st (fun b o e _ => hE0.keep b o e) (fun _ _ q => q.elim) (fun _ _ q => q) (fun _ _ q => q) (fun i x _ e => hE0.gens i x e) (fun _ _ _ q => q)
  refine compStart_any (t := t) (i := it) (ifs := ifs) rfl ?_ (It.self _ _ _ st')
  refine hloop _ _ _ s O' B it' items St R W g _ 0 It st' rfl (Nat.zero_le _) C0 hWW hRR' hg _ fun s' C' => ?_
  refine hRR _ _ s' ⟨fun b o e => C'.chd.keep b o ?_ e, C'.chd.os, fun i x e => C'.chd.gens i x (by simp) e, C'.chd.bare⟩ hsL hsCC hLC C'.ns C'.acc
  simp only [List.mem_cons, List.not_mem_nil, or_false, not_or]
  exact ⟨fun q => (by rw [q, show (compEnvC csc cl C env).locals = C from rfl, hsCC] at e; cases e), fun q => (by rw [q, hsL] at e; cases e)⟩

/-- the frame's own rule for it -/
theorem comp_whole {sc csc : Scope} {elt t it : Expr} {ifs : List Expr} {rest : List Comprehension} {pos : Pos} {ρ : Store} {items ds : List D} {bs : List Str}
    (hok : compOk sc csc = true) (h1 : EvItS prog w A h₀ sc (isTupleT t) it ρ items bs) (hlen : ds.length ≤ lim)
    (hloop : ∀ cenv N L s₀, EnvOk (compScope sc csc) cenv → CBase cenv N L h₀ s₀ → ∀ it' all St R W g s i, Itr prog w A h₀ (isTupleT t) it' all St R g → St i W s → all.drop i = items → i ≤ all.length →
      CSt prog w cenv (seenIn sc csc ρ) N L s₀ [] s → (∀ b ∈ W, s₀.heap.get? b = none ∧ b ≠ cenv.locals ∧ b ≠ L) → (∀ b ∈ R, b ≠ cenv.locals ∧ b ≠ L) → (∀ i, g = some i → s₀.gens[i]? = none) →
      ∀ RR : Result → Shared → Prop, (∀ s', CSt prog w cenv (seenIn sc csc ρ) N L s₀ ds s' → RR (.ok .next) s') →
      codeAny (model prog w) A (.compLoop (.ListComp elt (⟨t, it, ifs, 0⟩ :: rest) csc pos) 0 it' (.ref L) cenv) RR s) : CompW prog w A h₀ sc elt (⟨t, it, ifs, 0⟩ :: rest) csc pos ρ (.list ds) := by
  intro env s O K V pp use E Q hQ
  obtain ⟨cl, hcl, hcore⟩ := comp_core hok h1 hlen hloop O K V
  obtain ⟨hk, _, hloc, _⟩ := compOk_mem hok
  refine wpAny_comprehension_free (g := ⟨t, it, ifs, 0⟩) (gs := rest) rfl (h1.noSet env) hcl hk hloc ?_
  refine wp_no (hcore (fun acc C => compPost (model prog w) A E use Q acc C) fun L C s' hE hL hC hne hns hacc => ?_) fun x s₁ q => wp_no q fun it' s₂ q => wp_no q fun acc s₃ q => wp_no q fun cenv s₄ q => q
  obtain ⟨vs, hl, r⟩ := hacc
  exact hQ L C s' hE hL hC hne hns ⟨L, vs, rfl, hl, r, rfl⟩

theorem ev_ofComp {sc csc : Scope} {elt : Expr} {gens : List Comprehension} {pos : Pos} {ρ : Store} {d : D} (h : CompW prog w A h₀ sc elt gens csc pos ρ d) : EvS prog w A h₀ sc (.ListComp elt gens csc pos) ρ d [] := ⟨rfl, ⟨rfl, h⟩, fun env s O K V => by
  rw [eval_ListComp]
  refine h env s O K V _ _ _ _ fun L C s' hE hL hC hne ⟨m, hn⟩ r => ⟨m, hn, fun h' hs => ?_⟩
  have hk : ∀ b o, s.heap.get? b = some o → h'.get? b = some o := fun b o e => hs.extBut b o (fun q => by rw [q, hC] at e; cases e) (hE.keep b o e)
  have hnt : ∀ b its, b = C → ¬ PTup s'.heap b its := by rintro b its rfl; exact ns_not_tup ⟨m, hn⟩
  refine ⟨⟨hk, hE.os, hE.gens, hE.bare⟩, [L], Rd.keepBut (X := (· = C)) (fun b o e q => hs.extBut b o q e) hnt (fun a ha q => ?_) r, nodup_one L, fun a ha => ?_⟩
  · exact hne ((List.mem_singleton.mp ha).symm.trans q)
  · exact .inl (List.mem_singleton.mp ha ▸ hL)⟩
theorem ev_ListComp {sc csc : Scope} {elt t it : Expr} {ifs : List Expr} {pos : Pos} {ρ : Store} {items ds : List D} {bs : List Str} (hok : compOk sc csc = true) (h1 : EvItS prog w A h₀ sc (isTupleT t) it ρ items bs)
    (h2 : CompS prog w A h₀ (compScope sc csc) elt t ifs items (seenIn sc csc ρ) ds) (hlen : ds.length ≤ lim) : EvS prog w A h₀ sc (.ListComp elt [⟨t, it, ifs, 0⟩] csc pos) ρ (.list ds) [] :=
  ev_ofComp (comp_whole hok h1 hlen fun cenv N L s₀ O' B it' all St R W g s i It st hi hle C hW hR hg RR hRR =>
    h2.run _ _ _ 0 (emits1 _ _ _ _ _ _) cenv N L s₀ O' B it' all St R W g s i [] It st hi hle C (by rw [List.length_nil, Nat.zero_add]; exact hlen) hW hR hg RR hRR)
theorem ev_ListComp2 {sc csc : Scope} {elt t it t' it' : Expr} {pos : Pos} {ρ : Store} {items ds : List D} {bs : List Str} (hok : compOk sc csc = true) (h1 : EvItS prog w A h₀ sc (isTupleT t) it ρ items bs)
    (h2 : Comp2S prog w A h₀ (compScope sc csc) elt t t' it' items (seenIn sc csc ρ) ds) (hlen : ds.length ≤ lim) : EvS prog w A h₀ sc (.ListComp elt [⟨t, it, [], 0⟩, ⟨t', it', [], 0⟩] csc pos) ρ (.list ds) [] :=
  ev_ofComp (comp_whole hok h1 hlen fun cenv N L s₀ O' B it' all St R W g s i It st hi hle C hW hR hg RR hRR =>
    h2.run _ _ _ cenv N L s₀ O' B it' all St R W g s i [] It st hi hle C (by rw [List.length_nil, Nat.zero_add]; exact hlen) hW hR hg RR hRR)
end
end Mine
end
section
open PySem PySem.W PyProof.Rows PySem.Builtin PySem.Builtin.Str
set_option maxRecDepth 100000
namespace Mine
section
variable {prog : Program} {w : World} {A : Around} {h₀ hE : Heap} {mg mb : Str → Option Value}

mutual
theorem Rd.not_cell {h : Heap} : ∀ {d : D} {v : Value} {fp : List Addr}, Rd prog w h d v fp → ∀ a ∈ fp, ∀ u, ¬ h.IsCell a u
  | .none, v, fp, r, a, ha, _ => by rw [r.2] at ha; cases ha
  | .bool _, v, fp, r, a, ha, _ => by rw [r.2] at ha; cases ha
  | .int _, v, fp, r, a, ha, _ => by rw [r.2] at ha; cases ha
  | .str _, v, fp, r, a, ha, _ => by rw [r.2] at ha; cases ha
  | .tuple ds, v, fp, r, a, ha, u => by
    obtain ⟨b, vs, e, _, r⟩ := r
    exact Rds.not_cell r a ha u
  | .list ds, v, fp, r, a, ha, u => by
    obtain ⟨b, vs, e, ⟨n, h⟩, _, rfl⟩ := r
    simp at ha; subst ha
    rintro ⟨o, ho, hd⟩
    rw [h] at ho; cases ho; cases hd
  | .dict l, v, fp, r, a, ha, u => by
    obtain ⟨b, kvs, e, ⟨o, _, _, h, _, hd', _⟩, _, _, rfl⟩ := r
    simp at ha; subst ha
    rintro ⟨o, ho, hd⟩
    rw [h] at ho; cases ho
    rw [hd'] at hd; cases hd
theorem Rds.not_cell {h : Heap} : ∀ {ds : List D} {vs : List Value} {fp : List Addr}, Rds prog w h ds vs fp → ∀ a ∈ fp, ∀ u, ¬ h.IsCell a u
  | [], vs, fp, r, a, ha, _ => by rw [r.2] at ha; cases ha
  | d :: ds, vs, fp, r, a, ha, u => by
    obtain ⟨v, q, f, g, rfl, rfl, r1, r2⟩ := r
    rcases List.mem_append.mp ha with ha | ha
    · exact Rd.not_cell r1 a ha u
    · exact Rds.not_cell r2 a ha u
end

/-- a name's container lies at a -/
noncomputable def Hold (ρ : Store) (env : Env) (h : Heap) (x : Str) (a : Addr) : Prop := (∃ d, ρ.get x = some d ∧ d.mut = true) ∧ VarAt h env x (.ref a)

structure Rep (prog : Program) (w : World) (hE : Heap) (env : Env) (fz : List Str) (s : Shared) (ρ : Store) : Prop where
  kp : Kp hE s
  ns : ∃ m, s.heap.Ns env.locals m
  lnew : hE.get? env.locals = none
  cell : ∀ x c, env.cells.lookup x = some c → (∃ v, s.heap.IsCell c v) ∧ hE.get? c = none
  apart : ∀ x y c, env.cells.lookup x = some c → env.cells.lookup y = some c → x = y
  vars : Vars prog w s.heap env ρ
  dist : ∀ x y a, Hold ρ env s.heap x a → Hold ρ env s.heap y a → x = y
  lsep : ∀ x a, Hold ρ env s.heap x a → a ≠ env.locals
  fresh : ∀ x a, Hold ρ env s.heap x a → x ∉ fz → hE.get? a = none

noncomputable def Own (md : List Str) (ρ : Store) (env : Env) (h : Heap) (b : Addr) : Prop := b = env.locals ∨ (∃ x, env.cells.lookup x = some b) ∨ ∃ x ∈ md, Hold ρ env h x b

structure Tr (env : Env) (md : List Str) (s : Shared) (ρ : Store) (s' : Shared) (ρ' : Store) : Prop where
  keep : ∀ b o, s.heap.get? b = some o → ¬ Own md ρ env s.heap b → s'.heap.get? b = some o
  own : ∀ b, Own md ρ' env s'.heap b → Own md ρ env s.heap b ∨ s.heap.get? b = none
  same : ∀ x, x ∉ md → ρ'.get x = ρ.get x ∧ ∀ v, VarAt s.heap env x v → VarAt s'.heap env x v
  os : s'.os = s.os
  gens : ∀ (i : Nat) (g : GenState), s.gens[i]? = some g → s'.gens[i]? = some g
  bare : AllBare s.gens → AllBare s'.gens

theorem Hold.back {h h' : Heap} {env : Env} {ρ : Store} {x : Str} {a : Addr} (V : Vars prog w h env ρ) (hk : ∀ v, VarAt h env x v → VarAt h' env x v) (H : Hold ρ env h' x a) : Hold ρ env h x a := by
  obtain ⟨⟨d, hd, hm⟩, hv⟩ := H
  obtain ⟨_, v, fp, q, _⟩ := V x d hd
  have := (hk v q).unique hv
  subst this
  exact ⟨⟨d, hd, hm⟩, q⟩
theorem Hold.there {h : Heap} {env : Env} {ρ : Store} {x : Str} {a : Addr} (V : Vars prog w h env ρ) (H : Hold ρ env h x a) : (∃ o, h.get? a = some o) ∧ (∀ u, ¬ h.IsCell a u) ∧ ∀ its, ¬ PTup h a its := by
  obtain ⟨⟨d, hd, hm⟩, hv⟩ := H
  obtain ⟨_, v, fp, q, r⟩ := V x d hd
  have := q.unique hv
  subst this
  obtain ⟨b, e, rfl⟩ := Rd.mut_ref hm r
  cases e
  refine ⟨Option.isSome_iff_exists.mp (r.there a (by simp)), r.not_cell a (by simp), fun its q => ?_⟩
  cases d <;> simp [D.mut] at hm
  · obtain ⟨b, vs, e, hl, _⟩ := r
    cases e
    exact list_not_tup hl q
  · obtain ⟨b, kvs, e, ⟨o, _, _, h1, _, hd', _⟩, _⟩ := r
    cases e
    obtain ⟨k, q⟩ := q
    rw [h1] at q; cases q; cases hd'

theorem Tr.refl (env : Env) (md : List Str) (s : Shared) (ρ : Store) : Tr env md s ρ s ρ := ⟨fun _ _ e _ => e, fun _ q => .inl q, fun _ _ => ⟨rfl, fun _ q => q⟩, rfl, fun _ _ e => e, id⟩
theorem Tr.trans {env : Env} {md : List Str} {s s' s'' : Shared} {ρ ρ' ρ'' : Store} (x : Tr env md s ρ s' ρ') (y : Tr env md s' ρ' s'' ρ'') : Tr env md s ρ s'' ρ'' := by
  refine ⟨fun b o e q => y.keep b o (x.keep b o e q) fun q' => ?_, fun b q => ?_, fun z hz => ⟨(y.same z hz).1.trans (x.same z hz).1, fun v q => (y.same z hz).2 v ((x.same z hz).2 v q)⟩, y.os.trans x.os, fun i g e => y.gens i g (x.gens i g e), fun q => y.bare (x.bare q)⟩
  · rcases x.own b q' with r | r
    · exact q r
    · rw [e] at r; cases r
  · rcases y.own b q with r | r
    · exact x.own b r
    · by_cases q' : Own md ρ env s.heap b
      · exact .inl q'
      · refine .inr ?_
        cases e : s.heap.get? b with
        | none => rfl
        | some o => rw [x.keep b o e q'] at r; cases r
theorem Tr.mono {env : Env} {md md' : List Str} {s s' : Shared} {ρ ρ' : Store} (V : Vars prog w s.heap env ρ) (x : Tr env md s ρ s' ρ') (h : ∀ z ∈ md, z ∈ md') : Tr env md' s ρ s' ρ' := by
  have up : ∀ b, Own md ρ env s.heap b → Own md' ρ env s.heap b := fun b q => q.imp id fun q => q.imp id fun ⟨z, hz, q⟩ => ⟨z, h z hz, q⟩
  refine ⟨fun b o e q => x.keep b o e fun q' => q (up b q'), fun b q => ?_, fun z hz => x.same z fun q => hz (h z q), x.os, x.gens, x.bare⟩
  rcases q with q | q | ⟨z, hz, q⟩
  · exact .inl (.inl q)
  · exact .inl (.inr (.inl q))
  · by_cases hm : z ∈ md
    · exact (x.own b (.inr (.inr ⟨z, hm, q⟩))).imp (up b) id
    · obtain ⟨h1, h2⟩ := x.same z hm
      refine .inl (.inr (.inr ⟨z, hz, ?_⟩))
      refine Hold.back V h2 ?_
      obtain ⟨⟨d, hd, hmm⟩, hv⟩ := q
      exact ⟨⟨d, h1 ▸ hd, hmm⟩, hv⟩

theorem Rep.ext {env : Env} {fz : List Str} {s s' : Shared} {ρ : Store} (R : Rep prog w hE env fz s ρ) (e : Ext s s') : Rep prog w hE env fz s' ρ := by
  have back : ∀ {x a}, Hold ρ env s'.heap x a → Hold ρ env s.heap x a := fun H => H.back R.vars fun v q => q.keeps e.keep
  refine ⟨R.kp.ext e, ?_, R.lnew, fun x c hc => ?_, R.apart, R.vars.keeps e.keep, fun x y a p q => R.dist x y a (back p) (back q), fun x a p => R.lsep x a (back p), fun x a p => R.fresh x a (back p)⟩
  · obtain ⟨m, hm⟩ := R.ns; exact ⟨m, hm.keeps e.keep⟩
  · obtain ⟨⟨v, hv⟩, q⟩ := R.cell x c hc
    exact ⟨⟨v, hv.keeps e.keep⟩, q⟩
theorem Tr.ext {env : Env} {fz : List Str} {md : List Str} {s s' : Shared} {ρ : Store} (R : Rep prog w hE env fz s ρ) (e : Ext s s') : Tr env md s ρ s' ρ := by
  refine ⟨fun b o q _ => e.keep b o q, fun b q => ?_, fun _ _ => ⟨rfl, fun v q => q.keeps e.keep⟩, e.os, e.gens, e.bare⟩
  refine .inl (q.imp id fun q => q.imp id fun ⟨z, hz, q⟩ => ⟨z, hz, q.back R.vars fun v q => q.keeps e.keep⟩)

/-- fewer names are told -/
theorem Rep.sub {env : Env} {fz : List Str} {s : Shared} {ρ ρ' : Store} (R : Rep prog w hE env fz s ρ) (h : ∀ x d, ρ'.get x = some d → ρ.get x = some d) : Rep prog w hE env fz s ρ' := by
  have back : ∀ {x a}, Hold ρ' env s.heap x a → Hold ρ env s.heap x a := fun ⟨⟨d, hd, hm⟩, q⟩ => ⟨⟨d, h _ d hd, hm⟩, q⟩
  exact ⟨R.kp, R.ns, R.lnew, R.cell, R.apart, fun x d e => R.vars x d (h x d e), fun x y a p q => R.dist x y a (back p) (back q), fun x a p => R.lsep x a (back p), fun x a p => R.fresh x a (back p)⟩
theorem Tr.sub {env : Env} {md : List Str} {s s' : Shared} {ρ ρ' ρ'' : Store} (T : Tr env md s ρ s' ρ') (h : ∀ x d, ρ''.get x = some d → ρ'.get x = some d) (hm : ∀ x, x ∉ md → ρ''.get x = ρ'.get x) : Tr env md s ρ s' ρ'' :=
  ⟨T.keep, fun b q => T.own b (q.imp id fun q => q.imp id fun ⟨z, hz, ⟨d, hd, hmm⟩, q⟩ => ⟨z, hz, ⟨d, h _ d hd, hmm⟩, q⟩), fun x hx => ⟨(hm x hx).trans (T.same x hx).1, (T.same x hx).2⟩, T.os, T.gens, T.bare⟩

noncomputable def Free (hE : Heap) (ρ : Store) (env : Env) (h : Heap) (a : Addr) : Prop := a ≠ env.locals ∧ hE.get? a = none ∧ ∀ y, ¬ Hold ρ env h y a

theorem Own.there {env : Env} {fz md : List Str} {s : Shared} {ρ : Store} (R : Rep prog w hE env fz s ρ) {b : Addr} (q : Own md ρ env s.heap b) : ∃ o, s.heap.get? b = some o := by
  rcases q with rfl | ⟨x, q⟩ | ⟨x, _, q⟩
  · obtain ⟨m, o, _, _, ho, _⟩ := R.ns; exact ⟨o, ho⟩
  · obtain ⟨⟨v, o, ho, _⟩, _⟩ := R.cell x b q; exact ⟨o, ho⟩
  · exact (q.there R.vars).1

/-- a name of the frame takes a value -/
theorem set1 {sc : Scope} {env : Env} {fz md : List Str} {s₀ s : Shared} {ρ₀ ρ : Store} {x : Str} {d : D} {v : Value} {fp : List Addr} (O : EnvOk sc env) (R : Rep prog w hE env fz s ρ) (T : Tr env md s₀ ρ₀ s ρ) (hx : bindOk sc x = true) (hmd : x ∈ md)
    (hd : d.ok = true) (r : Rd prog w s.heap d v fp) (hfree : ∀ a ∈ fp, Free hE ρ env s.heap a) (hown : ∀ a ∈ fp, s₀.heap.get? a = none ∨ Own md ρ₀ env s₀.heap a) :
    wpAny (model prog w) A (storeName env x v) (fun _ s' => Rep prog w hE env fz s' (ρ.set x d) ∧ Tr env md s₀ ρ₀ s' (ρ.set x d) ∧ (∀ a, a ∉ fp → Free hE ρ env s.heap a → Free hE (ρ.set x d) env s'.heap a) ∧
      (∀ d' v' fp', (∀ a ∈ fp', Free hE ρ env s.heap a) → Rd prog w s.heap d' v' fp' → Rd prog w s'.heap d' v' fp') ∧ ∀ b o, b ≠ env.locals → (∀ y, env.cells.lookup y ≠ some b) → s.heap.get? b = some o → s'.heap.get? b = some o) No s := by
  -- the object that is changed
  have main : ∀ (X : Addr) (s' : Shared), (X = env.locals ∨ (env.cells.lookup x = some X ∧ ∃ u, s.heap.IsCell X u)) → (∀ its, ¬ PTup s.heap X its) → (∀ b o, b ≠ X → s.heap.get? b = some o → s'.heap.get? b = some o) → s'.os = s.os → s'.gens = s.gens →
      VarAt s'.heap env x v → (∀ y u, y ≠ x → VarAt s.heap env y u → VarAt s'.heap env y u) → (∃ m, s'.heap.Ns env.locals m) → (∀ y c, env.cells.lookup y = some c → ∃ u, s'.heap.IsCell c u) →
      Rep prog w hE env fz s' (ρ.set x d) ∧ Tr env md s₀ ρ₀ s' (ρ.set x d) ∧ (∀ a, a ∉ fp → Free hE ρ env s.heap a → Free hE (ρ.set x d) env s'.heap a) ∧
      (∀ d' v' fp', (∀ a ∈ fp', Free hE ρ env s.heap a) → Rd prog w s.heap d' v' fp' → Rd prog w s'.heap d' v' fp') ∧ ∀ b o, b ≠ env.locals → (∀ y, env.cells.lookup y ≠ some b) → s.heap.get? b = some o → s'.heap.get? b = some o := by
    intro X s' hX hXt hk hos hgens hxv hyv hns hcells
    have hXc : ∀ {d' : D} {v' : Value} {fp' : List Addr}, Rd prog w s.heap d' v' fp' → (∀ a ∈ fp', a ≠ env.locals) → ∀ a ∈ fp', ¬ a = X := by
      intro d' v' fp' r' hl a ha q
      rcases hX with q' | ⟨_, u, q'⟩
      · exact hl a ha (q.trans q')
      · exact r'.not_cell a ha u (q ▸ q')
    have hrd : ∀ d' v' fp', (∀ a ∈ fp', a ≠ env.locals) → Rd prog w s.heap d' v' fp' → Rd prog w s'.heap d' v' fp' := fun d' v' fp' hl r' =>
      Rd.keepBut (X := (· = X)) (fun b o e q => hk b o q e) (fun b its q => by cases q; exact hXt its) (hXc r' hl) r'
    have hback : ∀ y a, Hold (ρ.set x d) env s'.heap y a → (y = x ∧ a ∈ fp) ∨ (y ≠ x ∧ Hold ρ env s.heap y a) := by
      rintro y a ⟨⟨e, he, hm⟩, hv⟩
      rw [Store.get_set] at he
      by_cases q : y = x
      · subst q
        rw [if_pos rfl] at he; cases he
        have := hxv.unique hv
        subst this
        obtain ⟨b, e, rfl⟩ := Rd.mut_ref hm r
        cases e
        exact .inl ⟨rfl, by simp⟩
      · rw [if_neg q] at he
        exact .inr ⟨q, Hold.back R.vars (fun u => hyv y u q) ⟨⟨e, he, hm⟩, hv⟩⟩
    have hmine : ∀ a ∈ fp, ∀ y, ¬ Hold ρ env s.heap y a := fun a ha => (hfree a ha).2.2
    refine ⟨⟨fun b o e => hk b o (fun q => ?_) (R.kp b o e), hns, R.lnew, fun y c hc => ⟨hcells y c hc, (R.cell y c hc).2⟩, R.apart, fun y e hy => ?_, fun y z a p q => ?_, fun y a p => ?_, fun y a p hz => ?_⟩, ⟨fun b o e q => ?_, fun b q => ?_, fun y hy => ⟨?_, fun u q => hyv y u (fun q' => hy (q' ▸ hmd)) ((T.same y hy).2 u q)⟩, hos.trans T.os, fun i g e => hgens ▸ T.gens i g e, fun q => hgens ▸ T.bare q⟩, fun a ha F => ⟨F.1, F.2.1, fun y H => ?_⟩, fun d' v' fp' F => hrd d' v' fp' fun a ha => (F a ha).1, fun b o q1 q2 e => hk b o (fun q => ?_) e⟩
    · rcases hX with q' | ⟨q', _⟩
      · rw [q, q', R.lnew] at e; cases e
      · rw [q, (R.cell x X q').2] at e; cases e
    · rw [Store.get_set] at hy
      by_cases q : y = x
      · subst q
        rw [if_pos rfl] at hy; cases hy
        exact ⟨hd, v, fp, hxv, hrd _ _ _ (fun a ha => (hfree a ha).1) r⟩
      · rw [if_neg q] at hy
        obtain ⟨a, u, f, b, c⟩ := R.vars y e hy
        refine ⟨a, u, f, hyv y u q b, hrd _ _ _ (fun z hz => ?_) c⟩
        rcases D.ok_cases a with hi | hm
        · rw [Rd.im_fp hi c] at hz; cases hz
        · obtain ⟨k, e1, rfl⟩ := Rd.mut_ref hm c
          simp at hz; subst hz; subst e1
          exact R.lsep y z ⟨⟨e, hy, hm⟩, b⟩
    · rcases hback y a p with ⟨p1, p2⟩ | ⟨p1, p2⟩ <;> rcases hback z a q with ⟨q1, q2⟩ | ⟨q1, q2⟩
      · exact p1.trans q1.symm
      · exact absurd q2 (hmine a p2 z)
      · exact absurd p2 (hmine a q2 y)
      · exact R.dist y z a p2 q2
    · rcases hback y a p with ⟨p1, p2⟩ | ⟨p1, p2⟩
      · exact (hfree a p2).1
      · exact R.lsep y a p2
    · rcases hback y a p with ⟨p1, p2⟩ | ⟨p1, p2⟩
      · exact (hfree a p2).2.1
      · exact R.fresh y a p2 hz
    · refine hk b o (fun q' => q ?_) (T.keep b o e q)
      rcases hX with q2 | ⟨q2, _⟩
      · exact .inl (q'.trans q2)
      · exact .inr (.inl ⟨x, by rw [q']; exact q2⟩)
    · rcases q with q | q | ⟨z, hz, q⟩
      · exact .inl (.inl q)
      · exact .inl (.inr (.inl q))
      · rcases hback z b q with ⟨p1, p2⟩ | ⟨p1, p2⟩
        · exact (hown b p2).symm
        · exact T.own b (.inr (.inr ⟨z, hz, p2⟩))
    · rw [Store.get_set, if_neg (by rintro rfl; exact hy hmd)]
      exact (T.same y hy).1
    · rcases hback y a H with ⟨p1, p2⟩ | ⟨p1, p2⟩
      · exact ha p2
      · exact F.2.2 y p2
    · rcases hX with q' | ⟨q', _⟩
      · exact q1 (q.trans q')
      · exact q2 x (q ▸ q')
  unfold bindOk at hx
  have hkd := O.kindOf x
  split at hx
  · rename_i hl
    rw [hl] at hkd
    obtain ⟨m, hm⟩ := R.ns
    refine wpAny_storeName_local hkd hm (fun h' hn hs => ?_) (by rw [O.kind]; rfl)
    refine main env.locals { s with heap := h', toks := s.toks + 1 } (.inl rfl) (fun its => ns_not_tup ⟨m, hm⟩) (fun b o hb e => hs.extBut b o hb e) rfl rfl (.inl ⟨hkd, _, hn, by simp⟩) (fun y u hy q => ?_) ⟨_, hn⟩ (fun y c hc => ?_)
    · rcases q with ⟨k, m', hm2, e'⟩ | ⟨k, c', hc, hv⟩
      · have := ns_unique hm hm2
        subst this
        exact .inl ⟨k, _, hn, by simp [hy, e']⟩
      · obtain ⟨o, ho, hd'⟩ := hv
        refine .inr ⟨k, c', hc, o, hs.extBut c' o (fun q => ?_) ho, hd'⟩
        subst q
        obtain ⟨o', _, _, ho', hd'', _⟩ := hm
        rw [ho] at ho'; cases ho'
        rw [hd'] at hd''; cases hd''
    · obtain ⟨⟨u, o, ho, hd'⟩, _⟩ := R.cell y c hc
      refine ⟨u, o, hs.extBut c o (fun q => ?_) ho, hd'⟩
      subst q
      obtain ⟨o', _, _, ho', hd'', _⟩ := hm
      rw [ho] at ho'; cases ho'
      rw [hd'] at hd''; cases hd''
  · rename_i hl
    rw [hl] at hkd
    obtain ⟨c, hc⟩ := O.cells x hl
    obtain ⟨⟨u₀, hu₀⟩, hcE⟩ := R.cell x c hc
    refine wpAny_storeName_cell O.kind hkd hc hu₀ fun h' hv hs => ?_
    have hcl : c ≠ env.locals := by
      rintro rfl
      obtain ⟨o, ho, hd'⟩ := hu₀
      obtain ⟨m, o', _, _, ho', hd'', _⟩ := R.ns
      rw [ho] at ho'; cases ho'
      rw [hd'] at hd''; cases hd''
    refine main c { s with heap := h' } (.inr ⟨hc, _, hu₀⟩) (fun its q => ?_) (fun b o hb e => hs.extBut b o hb e) rfl rfl (.inr ⟨.inl hkd, c, hc, hv⟩) (fun y u hy q => ?_) ?_ (fun y c' hc' => ?_)
    · obtain ⟨o, ho, hd'⟩ := hu₀
      obtain ⟨k, q⟩ := q
      rw [ho] at q; cases q; cases hd'
    · rcases q with ⟨k, m', ⟨o, es, ep, ho, q⟩, e'⟩ | ⟨k, c', hc', o, ho, hd'⟩
      · exact .inl ⟨k, m', ⟨o, es, ep, hs.extBut _ o (Ne.symm hcl) ho, q⟩, e'⟩
      · exact .inr ⟨k, c', hc', o, hs.extBut c' o (fun q => hy (R.apart y x c' hc' (q ▸ hc))) ho, hd'⟩
    · obtain ⟨m, o, es, ep, ho, q⟩ := R.ns
      exact ⟨m, o, es, ep, hs.extBut _ o (Ne.symm hcl) ho, q⟩
    · by_cases q : c' = c
      · subst q; exact ⟨_, hv⟩
      · obtain ⟨⟨u, o, ho, hd'⟩, _⟩ := R.cell y c' hc'
        exact ⟨u, o, hs.extBut c' o q ho, hd'⟩
  · cases hx

/-- an object that nothing here tells of is changed -/
theorem Rep.off {env : Env} {fz md : List Str} {s₀ s s' : Shared} {ρ₀ ρ : Store} {C : Addr} (R : Rep prog w hE env fz s ρ) (T : Tr env md s₀ ρ₀ s ρ) (hk : ∀ b o, b ≠ C → s.heap.get? b = some o → s'.heap.get? b = some o) (hos : s'.os = s.os) (hg : s'.gens = s.gens)
    (h1 : C ≠ env.locals) (h2 : ∀ y, env.cells.lookup y ≠ some C) (h3 : s₀.heap.get? C = none) (h4 : hE.get? C = none) (h5 : ∀ y, ¬ Hold ρ env s.heap y C) (h6 : ∀ its, ¬ PTup s.heap C its) :
    Rep prog w hE env fz s' ρ ∧ Tr env md s₀ ρ₀ s' ρ := by
  have hk' : ∀ b o, s.heap.get? b = some o → ¬ b = C → s'.heap.get? b = some o := fun b o e q => hk b o q e
  have hX : ∀ b its, b = C → ¬ PTup s.heap b its := by rintro b its rfl; exact h6 its
  have hv : ∀ x v, VarAt s.heap env x v → VarAt s'.heap env x v := fun x v q => q.keepBut hk' (fun q => h1 q.symm) (.inr fun c hc q => h2 x (by rw [hc, q]))
  have back : ∀ {x a}, Hold ρ env s'.heap x a → Hold ρ env s.heap x a := fun {x a} H => H.back R.vars (hv x)
  refine ⟨⟨fun b o e => hk b o (fun q => by rw [q, h4] at e; cases e) (R.kp b o e), ns_kept hk' (fun q => h1 q.symm) R.ns, R.lnew, fun x c hc => ?_, R.apart, fun x d e => ?_, fun x y a p q => R.dist x y a (back p) (back q), fun x a p => R.lsep x a (back p), fun x a p => R.fresh x a (back p)⟩,
    ⟨fun b o e q => hk b o (fun q' => by rw [q', h3] at e; cases e) (T.keep b o e q), fun b q => T.own b (q.imp id fun q => q.imp id fun ⟨z, hz, q⟩ => ⟨z, hz, back q⟩), fun x hx => ⟨(T.same x hx).1, fun v q => hv x v ((T.same x hx).2 v q)⟩, hos.trans T.os, fun i g e => hg ▸ T.gens i g e, fun q => hg ▸ T.bare q⟩⟩
  · obtain ⟨⟨v, o, ho, hd⟩, q⟩ := R.cell x c hc
    exact ⟨⟨v, o, hk c o (fun q => h2 x (by rw [hc, q])) ho, hd⟩, q⟩
  · obtain ⟨a, v, fp, b, c⟩ := R.vars x d e
    refine ⟨a, v, fp, hv x v b, Rd.keepBut hk' hX (fun z hz q => ?_) c⟩
    rcases D.ok_cases a with hi | hm
    · rw [Rd.im_fp hi c] at hz; cases hz
    · obtain ⟨k, e1, rfl⟩ := Rd.mut_ref hm c
      simp at hz; subst hz; subst e1
      exact h5 x (q ▸ ⟨⟨d, e, hm⟩, b⟩)
end
end Mine
end
section
open PySem PySem.W PyProof.Rows PySem.Builtin PySem.Builtin.Str
set_option maxRecDepth 100000
namespace Mine

section
variable {prog : Program} {w : World} {A : Around} {h₀ hE : Heap} {mg mb : Str → Option Value}

inductive FlIs (prog : Program) (w : World) (hE : Heap) (s : Shared) : Flow → Fl → Prop
  | next : FlIs prog w hE s .next .next
  | brk : FlIs prog w hE s .brk .brk
  | cont : FlIs prog w hE s .cont .cont
  | ret {v : Value} {d : D} {fp : List Addr} : Rd prog w s.heap d v fp → fp.Nodup → (∀ a ∈ fp, hE.get? a = none) → FlIs prog w hE s (.ret v) (.ret d)

/-- a statement that goes on to the next -/
noncomputable def ExN (prog : Program) (w : World) (A : Around) (h₀ : Heap) (sc : Scope) (fz md : List Str) (st : Stmt) (ρ ρ' : Store) : Prop :=
  ∀ hE env s, EnvOk sc env → (∀ b o, h₀.get? b = some o → hE.get? b = some o) → Rep prog w hE env fz s ρ →
    wpAny (model prog w) A (exec st env) (fun f s' => f = .next ∧ Rep prog w hE env fz s' ρ' ∧ Tr env md s ρ s' ρ') No s

theorem Rep.kp0 {env : Env} {fz : List Str} {s : Shared} {ρ : Store} (R : Rep prog w hE env fz s ρ) (h : ∀ b o, h₀.get? b = some o → hE.get? b = some o) : Kp h₀ s := fun b o e => R.kp b o (h b o e)

/-- one name's store -/
structure Item where
  x : Str
  d : D
  v : Value
  fp : List Addr
  f : Value → Sem Unit

theorem setMany {sc : Scope} {env : Env} {fz md : List Str} {s₀ : Shared} {ρ₀ : Store} (O : EnvOk sc env) : ∀ (L : List Item) (s : Shared) (ρ : Store), Rep prog w hE env fz s ρ → Tr env md s₀ ρ₀ s ρ →
    (∀ i ∈ L, bindOk sc i.x = true ∧ i.x ∈ md ∧ i.d.ok = true ∧ Rd prog w s.heap i.d i.v i.fp ∧ (∀ a ∈ i.fp, Free hE ρ env s.heap a) ∧ (∀ a ∈ i.fp, s₀.heap.get? a = none ∨ Own md ρ₀ env s₀.heap a) ∧
      ∀ (Q : Unit → Shared → Prop) (s : Shared), wpAny (model prog w) A (storeName env i.x i.v) Q No s → wpAny (model prog w) A (i.f i.v) Q No s) →
    L.Pairwise (fun i j => ∀ a ∈ i.fp, a ∉ j.fp) →
    wpAny (model prog w) A (assignInOrder (L.map (·.f)) (L.map (·.v))) (fun _ s' => Rep prog w hE env fz s' (L.foldl (fun ρ i => ρ.set i.x i.d) ρ) ∧ Tr env md s₀ ρ₀ s' (L.foldl (fun ρ i => ρ.set i.x i.d) ρ)) No s
  | [], s, ρ, R, T, _, _ => wpAny_pure ⟨R, T⟩
  | i :: L, s, ρ, R, T, h, hp => by
    obtain ⟨h1, h2, h3, h4, h5, h6, h7⟩ := h i (by simp)
    rw [List.pairwise_cons] at hp
    refine wpAny_bind (wpAny_holding (h7 _ _ (wp_no (set1 O R T h1 h2 h3 h4 h5 h6) fun _ s' q => ?_)))
    obtain ⟨R', T', hf, hr, _⟩ := q
    refine setMany O L s' (ρ.set i.x i.d) R' T' (fun j hj => ?_) hp.2
    obtain ⟨j1, j2, j3, j4, j5, j6, j7⟩ := h j (by simp [hj])
    exact ⟨j1, j2, j3, hr _ _ _ j5 j4, fun a ha => hf a (fun q => hp.1 j hj a q ha) (j5 a ha), j6, j7⟩

theorem store_ext {ρ ρ' : Store} (h : ∀ y, ρ.get y = ρ'.get y) {env : Env} {fz md : List Str} {s₀ s : Shared} {ρ₀ : Store} (R : Rep prog w hE env fz s ρ) (T : Tr env md s₀ ρ₀ s ρ) : Rep prog w hE env fz s ρ' ∧ Tr env md s₀ ρ₀ s ρ' :=
  ⟨R.sub fun x d e => (h x).trans e, T.sub (fun x d e => (h x).trans e) fun x _ => (h x).symm⟩

theorem Store.get_del (ρ : Store) (x y : Str) : (ρ.del x).get y = if y = x then none else ρ.get y := by
  induction ρ with
  | nil => simp [Store.del, Store.get]
  | cons p r ih =>
    obtain ⟨z, e⟩ := p
    unfold Store.del
    by_cases h : x = z
    · subst h
      simp only [beq_self_eq_true, if_true, ih, Store.get_cons]
      by_cases h2 : y = x <;> simp [h2]
    · rw [if_neg (by simpa using h), Store.get_cons, Store.get_cons, ih]
      by_cases h2 : y = z
      · subst h2
        rw [if_pos rfl, if_pos rfl, if_neg (fun q => h q.symm)]
      · rw [if_neg h2, if_neg h2]
theorem Store.get_dels : ∀ (bs : List Str) (ρ : Store) (y : Str), (ρ.dels bs).get y = if y ∈ bs then none else ρ.get y
  | [], ρ, y => by simp [Store.dels]
  | b :: bs, ρ, y => by
    have := Store.get_dels bs (ρ.del b) y
    unfold Store.dels at this ⊢
    rw [List.foldl_cons, this, Store.get_del]
    by_cases h : y ∈ bs
    · simp [h]
    · by_cases h2 : y = b <;> simp [h, h2]

/-- a value with what it borrowed goes over to a name -/
theorem moved {env : Env} {fz md : List Str} {s s₁ : Shared} {ρ : Store} {bs : List Str} {d₀ : D} {v : Value} (R : Rep prog w hE env fz s ρ) (e : Ext s s₁) (hr : Res prog w env ρ bs s s₁ d₀ v) (hbs : ∀ y ∈ bs, y ∉ fz ∧ y ∈ md) :
    ∃ fp, Rd prog w s₁.heap d₀ v fp ∧ fp.Nodup ∧ Rep prog w hE env fz s₁ (ρ.dels bs) ∧ Tr env md s ρ s₁ (ρ.dels bs) ∧ (∀ a ∈ fp, Free hE (ρ.dels bs) env s₁.heap a) ∧ ∀ a ∈ fp, s.heap.get? a = none ∨ Own md ρ env s.heap a := by
  obtain ⟨fp, r, nd, hf⟩ := hr
  have R1 := R.ext e
  have hsub : ∀ x d, (ρ.dels bs).get x = some d → ρ.get x = some d := fun x d q => by
    rw [Store.get_dels] at q; split at q
    · cases q
    · exact q
  refine ⟨fp, r, nd, R1.sub hsub, (Tr.ext (md := md) R e).sub hsub (fun x hx => by rw [Store.get_dels, if_neg fun q => hx (hbs x q).2]), fun a ha => ?_, fun a ha => ?_⟩
  · have hE0 : s.heap.get? a = none → hE.get? a = none := fun q => by
      cases q' : hE.get? a with
      | none => rfl
      | some o => rw [R.kp a o q'] at q; cases q
    have hback : ∀ y, Hold (ρ.dels bs) env s₁.heap y a → y ∉ bs ∧ Hold ρ env s.heap y a := fun y ⟨⟨d, hd, hm⟩, hv⟩ => by
      refine ⟨fun q => (by rw [Store.get_dels, if_pos q] at hd; cases hd), Hold.back R.vars (fun v q => q.keeps e.keep) ⟨⟨d, hsub y d hd, hm⟩, hv⟩⟩
    rcases hf a ha with q | ⟨x, hx, q⟩
    · refine ⟨?_, hE0 q, fun y hy => ?_⟩
      · rintro rfl
        obtain ⟨m, o, _, _, ho, _⟩ := R.ns
        rw [q] at ho; cases ho
      · obtain ⟨o, ho⟩ := ((hback y hy).2.there R.vars).1
        rw [q] at ho; cases ho
    · have q : Hold ρ env s.heap x a := q
      refine ⟨R.lsep x a q, R.fresh x a q (hbs x hx).1, fun y hy => ?_⟩
      have := R.dist x y a q (hback y hy).2
      subst this
      exact (hback x hy).1 hx
  · exact (hf a ha).imp id fun ⟨x, hx, q⟩ => .inr (.inr ⟨x, (hbs x hx).2, q⟩)

theorem swaps_name (v : Expr) (x : Str) (p : Pos) (line : Nat) (env : Env) : ∃ b, swapsWith v (some (.Name x p)) line env = pure b ∧ (b = true → (∃ e g s q, v = .ListComp e g s q) ∨ (∃ e g s q, v = .SetComp e g s q) ∨ ∃ k e g s q, v = .DictComp k e g s q) := by
  cases v <;> first
    | exact ⟨false, rfl, fun q => by cases q⟩
    | exact ⟨_, rfl, fun _ => .inl ⟨_, _, _, _, rfl⟩⟩
    | exact ⟨_, rfl, fun _ => .inr (.inl ⟨_, _, _, _, rfl⟩)⟩
    | exact ⟨_, rfl, fun _ => .inr (.inr ⟨_, _, _, _, _, rfl⟩)⟩

/-- x = value -/
theorem ex_Name {sc : Scope} {fz md : List Str} {x : Str} {px pos : Pos} {v : Expr} {ρ : Store} {d : D} {bs : List Str} (hx : bindOk sc x = true) (hm : x ∈ md)
    (h1 : EvS prog w A h₀ sc v ρ d bs) (hd : d.ok = true) (hbs : ∀ y ∈ bs, y ∉ fz ∧ y ∈ md) : ExN prog w A h₀ sc fz md (.Assign [.Name x px] v pos) ρ ((ρ.dels bs).set x d) := fun hE env s O K R => by
  obtain ⟨b, hb, hc⟩ := swaps_name v x px pos.line env
  cases b with
  | false =>
    refine wpAny_Assign_Name (wp_no (h1.run env s O (R.kp0 K) R.vars) fun u s₁ q => ?_) hb
    obtain ⟨fp, r, nd, R1, T1, F1, W1⟩ := moved R q.1 q.2 hbs
    exact wp_no (set1 O R1 T1 hx hm hd r F1 W1) fun _ s' q => ⟨rfl, q.1, q.2.1⟩
  | true =>
    have hl : ∃ e g s q, v = .ListComp e g s q := by
      rcases hc rfl with q | ⟨e, g, s, q, rfl⟩ | ⟨k, e, g, s, q, rfl⟩
      · exact q
      · exact absurd h1.fine Bool.false_ne_true
      · exact absurd h1.fine Bool.false_ne_true
    obtain ⟨elt, gens, csc, cpos, rfl⟩ := hl
    obtain ⟨rfl, hcomp⟩ := h1.lc
    rw [exec_Assign_Name_used _ _ _ _ hb]
    refine wpAny_bind (wpAny_standAt (wpAny_bind ?_))
    show wpAny _ A (do let _ ← comprehension (.ListComp elt gens csc cpos) csc env (firstIterPos gens cpos) (newList []) (firstAsync gens) (firstIter gens env) (some (assign (.Name x px) env))) _ _ s
    refine wpAny_bind (wp_no (hcomp env s O (R.kp0 K) R.vars _ (some (assign (.Name x px) env)) No (fun _ s' => Rep prog w hE env fz s' (ρ.set x d) ∧ Tr env md s ρ s' (ρ.set x d)) fun L C s' hE' hL hC hne hns r => ?_) fun _ s' q => wpAny_pure (wpAny_pure ⟨rfl, q⟩))
    have hex : ∀ a, s.heap.get? a = none → a ≠ env.locals ∧ (∀ y, env.cells.lookup y ≠ some a) ∧ hE.get? a = none ∧ ∀ y, ¬ Hold ρ env s.heap y a := fun a q => by
      refine ⟨?_, fun y hy => ?_, ?_, fun y hy => ?_⟩
      · rintro rfl
        obtain ⟨m, o, _, _, ho, _⟩ := R.ns
        rw [q] at ho; cases ho
      · obtain ⟨⟨v, o, ho, _⟩, _⟩ := R.cell y a hy
        rw [q] at ho; cases ho
      · cases q' : hE.get? a with
        | none => rfl
        | some o => rw [R.kp a o q'] at q; cases q
      · obtain ⟨o, ho⟩ := (hy.there R.vars).1
        rw [q] at ho; cases ho
    obtain ⟨l1, l2, l3, l4⟩ := hex L hL
    obtain ⟨c1, c2, c3, c4⟩ := hex C hC
    have R' := R.ext hE'
    have back : ∀ y a, Hold ρ env s'.heap y a → Hold ρ env s.heap y a := fun y a q => q.back R.vars fun v q => q.keeps hE'.keep
    show wpAny _ A (assign (.Name x px) env (.ref L)) _ _ _
    refine wpAny_assign_Name (wp_no (set1 O R' (Tr.ext (md := md) R hE') hx hm hd r (fun a ha => ?_) (fun a ha => ?_)) fun _ s'' q => ?_)
    · simp at ha; subst ha
      exact ⟨l1, l3, fun y q => l4 y (back y a q)⟩
    · simp at ha; subst ha
      exact .inl hL
    obtain ⟨R2, T2, hf, _, hkeep⟩ := q
    obtain ⟨m, o, es, ep, ho, q⟩ := hns
    have hns2 : s''.heap.Ns C m := ⟨o, es, ep, hkeep C o c1 c2 ho, q⟩
    refine ⟨m, hns2, fun h' hs => ?_⟩
    refine Rep.off R2 T2 (fun b o q e => hs.extBut b o q e) rfl rfl c1 c2 hC c3 (fun y hy => ?_) (fun its => ns_not_tup ⟨m, hns2⟩)
    exact (hf C (by simp; exact fun q => hne q.symm) ⟨c1, c3, fun y q => c4 y (back y C q)⟩).2.2 y hy
end
end Mine
end
section
open PySem PySem.W PyProof.Rows PySem.Builtin PySem.Builtin.Str
set_option maxRecDepth 100000
namespace Mine

theorem noDup_nodup : ∀ {l : List Str}, noDup l = true → l.Nodup
  | [], _ => List.nodup_nil
  | x :: r, h => by
    simp only [noDup, Bool.and_eq_true, Bool.not_eq_true'] at h
    exact List.nodup_cons.mpr ⟨by simpa using h.1, noDup_nodup h.2⟩

noncomputable def setL (L : List Item) (ρ : Store) : Store := L.foldl (fun ρ i => ρ.set i.x i.d) ρ
theorem setL_spec : ∀ (L : List Item) (ρ : Store), (L.map (·.x)).Nodup → (∀ i ∈ L, (setL L ρ).get i.x = some i.d) ∧ ∀ y, y ∉ L.map (·.x) → (setL L ρ).get y = ρ.get y
  | [], ρ, _ => ⟨fun _ q => (nomatch q), fun _ _ => rfl⟩
  | i :: L, ρ, h => by
    rw [List.map_cons, List.nodup_cons] at h
    obtain ⟨h1, h2⟩ := setL_spec L (ρ.set i.x i.d) h.2
    refine ⟨fun j hj => ?_, fun y hy => ?_⟩
    · rcases List.mem_cons.mp hj with rfl | hj
      · show (setL L (ρ.set j.x j.d)).get j.x = _
        rw [h2 _ h.1, Store.get_set, if_pos rfl]
      · exact h1 j hj
    · rw [List.map_cons, List.mem_cons, not_or] at hy
      show (setL L (ρ.set i.x i.d)).get y = _
      rw [h2 y hy.2, Store.get_set, if_neg hy.1]
theorem setL_reverse (L : List Item) (ρ : Store) (h : (L.map (·.x)).Nodup) (y : Str) : (setL L.reverse ρ).get y = (setL L ρ).get y := by
  obtain ⟨h1, h2⟩ := setL_spec L ρ h
  obtain ⟨r1, r2⟩ := setL_spec L.reverse ρ (by rw [List.map_reverse]; exact List.pairwise_reverse.mpr (h.imp Ne.symm))
  by_cases hy : y ∈ L.map (·.x)
  · obtain ⟨i, hi, rfl⟩ := List.mem_map.mp hy
    rw [h1 i hi, r1 i (List.mem_reverse.mpr hi)]
  · rw [h2 y hy, r2 y (by rw [List.map_reverse, List.mem_reverse]; exact hy)]
theorem setAll_L : ∀ (L : List Item) (ρ ρ' : Store), setAll (L.map (·.x)) (L.map (·.d)) ρ = some ρ' → ρ' = setL L ρ ∧ ∀ i ∈ L, i.d.ok = true
  | [], ρ, ρ', h => by simp only [List.map_nil, setAll, Option.some.injEq] at h; exact ⟨h.symm, fun _ q => nomatch q⟩
  | i :: L, ρ, ρ', h => by
    simp only [List.map_cons, setAll] at h
    split at h
    · rename_i hd
      obtain ⟨h1, h2⟩ := setAll_L L _ _ h
      exact ⟨h1, fun j hj => by rcases List.mem_cons.mp hj with rfl | hj; exact hd; exact h2 j hj⟩
    · cases h
theorem setAll_len : ∀ {xs : List Str} {ds : List D} {ρ ρ' : Store}, setAll xs ds ρ = some ρ' → xs.length = ds.length
  | [], [], _, _, _ => rfl
  | [], _ :: _, _, _, h => by simp [setAll] at h
  | _ :: _, [], _, _, h => by simp [setAll] at h
  | x :: xs, d :: ds, ρ, ρ', h => by
    simp only [setAll] at h
    split at h
    · simp [setAll_len h]
    · cases h

section
variable {prog : Program} {w : World} {A : Around} {h₀ hE : Heap} {mg mb : Str → Option Value}

theorem mkItems {h : Heap} {env : Env} (F : Expr → Value → Sem Unit) (hF : ∀ x p v (Q : Unit → Shared → Prop) (s : Shared), wpAny (model prog w) A (storeName env x v) Q No s → wpAny (model prog w) A (F (.Name x p) v) Q No s) :
    ∀ (ts : List Expr) (xs : List Str) (ds : List D) (vs : List Value) (fp : List Addr), namesOf ts = some xs → xs.length = ds.length → Rds prog w h ds vs fp → fp.Nodup →
    ∃ L : List Item, L.map (·.x) = xs ∧ L.map (·.d) = ds ∧ L.map (·.v) = vs ∧ L.map (·.f) = ts.map F ∧ (∀ i ∈ L, Rd prog w h i.d i.v i.fp ∧ (∀ a ∈ i.fp, a ∈ fp) ∧ ∀ (Q : Unit → Shared → Prop) (s : Shared), wpAny (model prog w) A (storeName env i.x i.v) Q No s → wpAny (model prog w) A (i.f i.v) Q No s) ∧
      L.Pairwise fun i j => ∀ a ∈ i.fp, a ∉ j.fp
  | [], xs, ds, vs, fp, h1, h2, r, nd => by
    simp only [namesOf, Option.some.injEq] at h1
    subst h1
    have : ds = [] := List.eq_nil_of_length_eq_zero h2.symm
    subst this
    obtain ⟨rfl, rfl⟩ := r
    exact ⟨[], rfl, rfl, rfl, rfl, fun _ q => (nomatch q), List.Pairwise.nil⟩
  | t :: ts, xs, ds, vs, fp, h1, h2, r, nd => by
    cases t <;> simp only [namesOf] at h1 <;> first | cases h1 | skip
    rename_i x p
    obtain ⟨ys, h1', rfl⟩ := Option.map_eq_some_iff.mp h1
    cases ds with
    | nil => simp at h2
    | cons d ds =>
      obtain ⟨v, q, f, g, rfl, rfl, r1, r2⟩ := r
      rw [List.nodup_append] at nd
      obtain ⟨L, e1, e2, e3, e4, e5, e6⟩ := mkItems F hF ts ys ds q g h1' (by simpa using h2) r2 nd.2.1
      refine ⟨⟨x, d, v, f, F (.Name x p)⟩ :: L, by simp [e1], by simp [e2], by simp [e3], by simp [e4], fun i hi => ?_, List.pairwise_cons.mpr ⟨fun j hj a ha ha' => ?_, e6⟩⟩
      · rcases List.mem_cons.mp hi with rfl | hi
        · exact ⟨r1, fun a ha => by simp; exact .inl ha, fun Q s => hF x p v Q s⟩
        · obtain ⟨q1, q2, q3⟩ := e5 i hi
          exact ⟨q1, fun a ha => by simp; exact .inr (q2 a ha), q3⟩
      · exact nd.2.2 a ha a ((e5 j hj).2.1 a ha') rfl

theorem assignEach_names {env : Env} : ∀ {ts : List Expr} {xs : List Str}, namesOf ts = some xs → assignEach ts env = ts.map fun t => (false, assign t env)
  | [], _, _ => rfl
  | t :: ts, xs, h => by
    cases t <;> simp only [namesOf] at h <;> first | cases h | skip
    obtain ⟨ys, h', rfl⟩ := Option.map_eq_some_iff.mp h
    rw [List.map_cons, ← assignEach_names h']
    rfl
theorem namesOf_len : ∀ {ts : List Expr} {xs : List Str}, namesOf ts = some xs → xs.length = ts.length
  | [], _, h => by simp only [namesOf, Option.some.injEq] at h; subst h; rfl
  | t :: ts, xs, h => by
    cases t <;> simp only [namesOf] at h <;> first | cases h | skip
    obtain ⟨ys, h', rfl⟩ := Option.map_eq_some_iff.mp h
    simp [namesOf_len h']

theorem names_kept {g : Expr → Option Str} (hg : ∀ x p, g (.Name x p) = some x ∨ g (.Name x p) = none) : ∀ {ts : List Expr} {xs : List Str}, namesOf ts = some xs → (ts.filterMap g).length ≤ ts.length ∧ ((ts.filterMap g).length = ts.length → ts.filterMap g = xs)
  | [], _, h => by simp only [namesOf, Option.some.injEq] at h; subst h; exact ⟨Nat.le_refl _, fun _ => rfl⟩
  | t :: ts, xs, h => by
    cases t <;> simp only [namesOf] at h <;> first | cases h | skip
    rename_i x p
    obtain ⟨ys, h', rfl⟩ := Option.map_eq_some_iff.mp h
    obtain ⟨h1, h2⟩ := names_kept hg h'
    rcases hg x p with q | q
    · rw [List.filterMap_cons_some q]
      refine ⟨by simp; exact h1, fun e => by rw [h2 (by simpa using e)]⟩
    · rw [List.filterMap_cons_none q]
      refine ⟨by simp; exact ar58 h1, fun e => by simp at e; exact (ar229 h1 e).elim⟩

theorem swapped_ok {env : Env} {ts : List Expr} {k : Nat} {p : Pos} {v : Expr} {xs : List Str} (h : namesOf ts = some xs) (hf : swapFine v = true) :
    ∃ r, swappedStores [.Tuple ts k p] v env = pure r ∧ (r = none ∨ r = some xs) := by
  cases v <;> try exact ⟨none, rfl, .inl rfl⟩
  rename_i vs k' p'
  unfold swappedStores
  simp only [swapFine, Bool.or_eq_true, Bool.not_eq_true'] at hf
  dsimp only
  split
  · exact ⟨none, rfl, .inl rfl⟩
  · split
    · exact ⟨none, rfl, .inl rfl⟩
    · split
      · exact ⟨none, rfl, .inl rfl⟩
      · rename_i hn
        split
        · exact ⟨none, rfl, .inl rfl⟩
        · rename_i hfs
          split
          · rename_i hca
            rcases hf with q | q
            · exact absurd q hfs
            · rw [hca] at q; cases q
          · refine ⟨_, rfl, .inr (congrArg some ?_)⟩
            simp only [Bool.or_eq_true, bne_iff_ne, ne_eq, not_or, Decidable.not_not] at hn
            refine (names_kept (fun x p => ?_) h).2 hn.1
            dsimp only
            split
            · exact .inl rfl
            · exact .inr rfl
theorem sole_tuple {ts : List Expr} {k : Nat} {p : Pos} {v : Expr} {line : Nat} {env : Env} : swapsWithSole [.Tuple ts k p] v line env = pure false := by cases v <;> rfl

theorem bind_names {env : Env} : ∀ {ts : List Expr} {xs : List Str}, namesOf ts = some xs → xs.map (fun n => bindName env n) = ts.map fun t => bindName env ((nameId t).getD "")
  | [], _, h => by simp only [namesOf, Option.some.injEq] at h; subst h; rfl
  | t :: ts, xs, h => by
    cases t <;> simp only [namesOf] at h <;> first | cases h | skip
    obtain ⟨ys, h', rfl⟩ := Option.map_eq_some_iff.mp h
    rw [List.map_cons, List.map_cons, bind_names h']
    rfl

/-- x, y = value -/
theorem ex_TupleQ (G : GlOk prog w A h₀ mg mb) {sc : Scope} {fz md : List Str} {ts : List Expr} {xs : List Str} {k : Nat} {tp pos : Pos} {v : Expr} {ρ : Store} {Y : D → Prop} {Z : Store → Prop} (hn : namesOf ts = some xs)
    (hx : xs.all (bindOk sc) = true) (hdup : noDup xs = true) (hsf : swapFine v = true) (hm : ∀ x ∈ xs, x ∈ md)
    (h1 : EvQ prog w A h₀ sc v ρ Y) (h2 : ∀ d, Y d → ∃ ds ρ', d = .tuple ds ∧ setAll xs ds ρ = some ρ' ∧ Z ρ') {hE : Heap} {env : Env} {s : Shared} (O : EnvOk sc env) (K : ∀ b o, h₀.get? b = some o → hE.get? b = some o) (R : Rep prog w hE env fz s ρ) :
    wpAny (model prog w) A (exec (.Assign [.Tuple ts k tp] v pos) env) (fun f s' => f = .next ∧ ∃ ρ', Z ρ' ∧ Rep prog w hE env fz s' ρ' ∧ Tr env md s ρ s' ρ') No s := by
  have hev := h1 env s O (R.kp0 K) R.vars
  -- what stands after the evaluation
  have after : ∀ (u : Value) (s₁ : Shared), (∃ d, Y d ∧ Ext s s₁ ∧ Res prog w env ρ [] s s₁ d u) → ∃ a vs ρ', Z ρ' ∧ u = .ref a ∧ s₁.heap.IsTuple a (List.toArray vs) ∧ vs.length = ts.length ∧
      ∀ (F : Expr → Value → Sem Unit) (hF : ∀ x p v (Q : Unit → Shared → Prop) (s : Shared), wpAny (model prog w) A (storeName env x v) Q No s → wpAny (model prog w) A (F (.Name x p) v) Q No s) (s₂ : Shared), Ext s₁ s₂ →
        wpAny (model prog w) A (assignInOrder (ts.map F) vs) (fun _ s' => Rep prog w hE env fz s' ρ' ∧ Tr env md s ρ s' ρ') No s₂ ∧
        wpAny (model prog w) A (assignInOrder (ts.map F).reverse vs.reverse) (fun _ s' => Rep prog w hE env fz s' ρ' ∧ Tr env md s ρ s' ρ') No s₂ := by
    rintro u s₁ ⟨d, hy, e1, hr⟩
    obtain ⟨ds, ρ', rfl, h2, hz⟩ := h2 d hy
    have hlen := setAll_len h2
    obtain ⟨fp, r, nd, R1, T1, F1, W1⟩ := moved (md := md) R e1 hr (fun _ q => nomatch q)
    obtain ⟨a, vs, rfl, hp, r⟩ := r
    refine ⟨a, vs, ρ', hz, rfl, hp.isTup, ?_, fun F hF s₂ e2 => ?_⟩
    · rw [r.length, ← hlen, namesOf_len hn]
    obtain ⟨L, l1, l2, l3, l4, l5, l6⟩ := mkItems (A := A) (env := env) F hF ts xs ds vs fp hn hlen (r.keeps e2.keep) nd
    have h2' : setAll (L.map (·.x)) (L.map (·.d)) ρ = some ρ' := by rw [l1, l2]; exact h2
    obtain ⟨rfl, hok⟩ := setAll_L L ρ ρ' h2'
    have R2 := R1.ext e2
    have T2 := T1.trans (Tr.ext R1 e2)
    have F2 : ∀ a ∈ fp, Free hE (ρ.dels []) env s₂.heap a := fun a ha => ⟨(F1 a ha).1, (F1 a ha).2.1, fun y hy => (F1 a ha).2.2 y (hy.back R1.vars fun v q => q.keeps e2.keep)⟩
    have hall : ∀ i ∈ L, bindOk sc i.x = true ∧ i.x ∈ md ∧ i.d.ok = true ∧ Rd prog w s₂.heap i.d i.v i.fp ∧ (∀ a ∈ i.fp, Free hE ρ env s₂.heap a) ∧ (∀ a ∈ i.fp, s.heap.get? a = none ∨ Own md ρ env s.heap a) ∧
      ∀ (Q : Unit → Shared → Prop) (s : Shared), wpAny (model prog w) A (storeName env i.x i.v) Q No s → wpAny (model prog w) A (i.f i.v) Q No s := fun i hi => by
      obtain ⟨q1, q2, q3⟩ := l5 i hi
      have hxi : i.x ∈ xs := l1 ▸ List.mem_map_of_mem hi
      exact ⟨List.all_eq_true.mp hx _ hxi, hm _ hxi, hok i hi, q1, fun a ha => F2 a (q2 a ha), fun a ha => W1 a (q2 a ha), q3⟩
    have hnd : (L.map (·.x)).Nodup := l1 ▸ noDup_nodup hdup
    refine ⟨?_, ?_⟩
    · rw [← l4, ← l3]
      exact setMany O L s₂ ρ R2 T2 hall l6
    · rw [← l4, ← l3, ← List.map_reverse, ← List.map_reverse]
      refine wp_no (setMany O L.reverse s₂ ρ R2 T2 (fun i hi => hall i (List.mem_reverse.mp hi)) (List.pairwise_reverse.mpr (l6.imp fun q a ha ha' => q a ha' ha))) fun _ s' q => ?_
      exact store_ext (fun y => setL_reverse L ρ hnd y) q.1 q.2
  obtain ⟨r, hr, hrr⟩ := swapped_ok (env := env) (k := k) (p := tp) hn hsf
  rcases hrr with rfl | rfl
  · refine Assign_Tuple (wp_no hev fun u s₁ q => ?_) sole_tuple hr
    obtain ⟨a, vs, ρ', hz, rfl, ht, hl, hgo⟩ := after u s₁ q
    have hae := assignEach_names (env := env) hn
    refine wpAny_assign_Tuple G.hnd ht (by rw [hae]; simp [hl]) (by rw [hae]; simp [List.findIdx?_eq_none_iff]) fun h' hs => ?_
    rw [hae]
    have hk : Ext s₁ { s₁ with heap := h' } := Ext.heap (tk := s₁.toks) fun b o e => hs b o (Nat.ne_of_lt (Heap.lt_size e)) e
    have := (hgo (fun t => assign t env) (fun x p v Q s h => wpAny_assign_Name h) _ hk).1
    refine wp_no (Q := fun _ s' => Rep prog w hE env fz s' ρ' ∧ Tr env md s ρ s' ρ') ?_ fun _ s' q => ⟨rfl, ρ', hz, q⟩
    simpa [List.map_map, Function.comp_def] using this
  · refine Assign_Tuple_swapped (wp_no hev fun u s₁ q => ?_) sole_tuple hr
    obtain ⟨a, vs, ρ', hz, rfl, ht, hl, hgo⟩ := after u s₁ q
    have hsz : xs.length = (List.toArray vs).size := by rw [namesOf_len hn]; simp [hl]
    rw [hsz]
    refine wpAny_unpackItems_tuple G.hnd ht fun h' hs => ?_
    have hk : Ext s₁ { s₁ with heap := h' } := Ext.heap (tk := s₁.toks) fun b o e => hs b o (Nat.ne_of_lt (Heap.lt_size e)) e
    have := (hgo (fun t => bindName env ((nameId t).getD "")) (fun x p v Q s h => wpAny_bindName h) _ hk).2
    have e : xs.reverse.map (fun n => bindName env n) = (ts.map fun t => bindName env ((nameId t).getD "")).reverse := by
      rw [List.map_reverse]
      rw [bind_names hn]
    rw [e]
    refine wp_no (Q := fun _ s' => Rep prog w hE env fz s' ρ' ∧ Tr env md s ρ s' ρ') ?_ fun _ s' q => ⟨rfl, ρ', hz, q⟩
    simpa using this
theorem ex_Tuple (G : GlOk prog w A h₀ mg mb) {sc : Scope} {fz md : List Str} {ts : List Expr} {xs : List Str} {k : Nat} {tp pos : Pos} {v : Expr} {ρ ρ' : Store} {ds : List D} (hn : namesOf ts = some xs)
    (hx : xs.all (bindOk sc) = true) (hdup : noDup xs = true) (hsf : swapFine v = true) (hm : ∀ x ∈ xs, x ∈ md)
    (h1 : EvS prog w A h₀ sc v ρ (.tuple ds) []) (h2 : setAll xs ds ρ = some ρ') : ExN prog w A h₀ sc fz md (.Assign [.Tuple ts k tp] v pos) ρ ρ' := fun hE env s O K R =>
  wp_no (ex_TupleQ (Y := (· = .tuple ds)) (Z := (· = ρ')) G hn hx hdup hsf hm (fun env s O K V => wp_no (h1.run env s O K V) fun _ _ q => ⟨_, rfl, q⟩) (fun _ e => ⟨ds, ρ', e, h2, rfl⟩) O K R) fun f s' q => by
    obtain ⟨q0, _, rfl, q⟩ := q
    exact ⟨q0, q⟩
end
end Mine
end
section
open PySem PySem.W PyProof.Rows PySem.Builtin PySem.Builtin.Str
set_option maxRecDepth 100000
namespace Mine
section
variable {prog : Program} {w : World} {A : Around} {h₀ hE : Heap} {mg mb : Str → Option Value}

/-- l[k] = v, k in place, also from the end -/
theorem setItem_list {E : Value → Shared → Prop} {s : Shared} {l : Addr} {items : Array Value} {k : Int} {j : Nat} {t : Tok} {v : Value} {Q : Unit → Shared → Prop} (hl : s.heap.PlainList l items)
    (hfit : Builtin.List.listFitsIndex k = true) (hj : j < items.size) (hk : (0 ≤ k ∧ k = j) ∨ (k < 0 ∧ k + items.size = j))
    (hQ : ∀ h', h'.PlainList l (items.setIfInBounds j v) → Heap.SameBut l s.heap h' → Q () { s with heap := h' }) :
    wpAny (model prog w) A (setItem (.ref l) (.int k t) v) Q E s := by
  obtain ⟨m, ho⟩ := id hl
  unfold setItem
  try with_reducible refine wpAny_holding ?_
  first | refine wpAny_bind (wpAny_pure ?_) | skip
  refine wpAny_bind (wpAny_sequenceKey hl.isList.typeIs (by decide) ?_)
  refine wpAny_bind (wpAny_callSpecial?_slot (name := Str.ofString "__setitem__") hl.isList.typeIs slot_list_setitem
    (wpAny_call_entry slot_list_setitem hl.isList.typeIs entry_list_setitem ?_ (args_list_setitem _ _ _)))
  show wpAny _ _ (Builtin.List.listSubscript? (.int k t) >>= _) _ _ s
  refine wpAny_bind (wpAny_listSubscript_int hfit ?_)
  have hx' : items[j]? = some items[j] := Array.getElem?_eq_getElem hj
  have hset : ∀ (E' : Value → Shared → Prop) (Q' : Unit → Shared → Prop), (∀ h', h'.PlainList l (items.setIfInBounds j v) → Heap.SameBut l s.heap h' → Q' () { s with heap := h' }) → wpAny (model prog w) A.in1 (setSeqItemAt l j v) Q' E' s := fun E' Q' h => by
    refine wpAny_setSeqItemAt ho rfl (h _ ⟨m, ?_⟩ (Heap.SameBut.update ..))
    rw [Heap.get?_update_self _ ho rfl]
    simp [Obj.mapSeq]
  rcases hk with ⟨h0, rfl⟩ | ⟨h0, hk⟩
  · show wpAny _ _ ((seqItemAt l j >>= fun r => pure (r.map (j, ·))) >>= _) _ _ s
    refine wpAny_bind (wpAny_bind (wpAny_seqItemAt ho rfl (wpAny_pure ?_)))
    rw [hx']
    show wpAny _ _ (setSeqItemAt l j v >>= _) _ _ s
    refine wpAny_bind (hset _ _ fun h' hp hs => ?_)
    first
      | exact wpAny_bind (wpAny_pure (wpAny_pure ⟨.none, rfl, wpAny_pure (hQ _ hp hs)⟩))
      | exact wpAny_pure ⟨.none, rfl, wpAny_pure (hQ _ hp hs)⟩
  · obtain ⟨q, rfl⟩ : ∃ q, k = Int.negSucc q := by
      cases k with
      | ofNat q => exact absurd h0 (by simp)
      | negSucc q => exact ⟨q, rfl⟩
    show wpAny _ _ ((Builtin.List.listItems (.ref l) >>= fun xs => pure ((seqIndex? (.negSucc q) xs.size).bind fun j => xs[j]?.map (j, ·))) >>= _) _ _ s
    refine wpAny_bind (wpAny_bind (wpAny_listItems ho rfl (wpAny_pure ?_)))
    have hix : seqIndex? (.negSucc q) items.size = some j := by
      unfold seqIndex?
      simp only [h0, if_true]
      rw [hk]
      simp [hj]
    rw [hix, Option.bind_some, hx']
    show wpAny _ _ (setSeqItemAt l j v >>= _) _ _ s
    refine wpAny_bind (hset _ _ fun h' hp hs => ?_)
    first
      | exact wpAny_bind (wpAny_pure (wpAny_pure ⟨.none, rfl, wpAny_pure (hQ _ hp hs)⟩))
      | exact wpAny_pure ⟨.none, rfl, wpAny_pure (hQ _ hp hs)⟩

/-- a name's container is changed in place -/
theorem upd1 {env : Env} {fz md : List Str} {s₀ s s' : Shared} {ρ₀ ρ : Store} {x : Str} {a : Addr} {d d' : D} (R : Rep prog w hE env fz s ρ) (T : Tr env md s₀ ρ₀ s ρ) (hx : ρ.get x = some d) (hdm : d.mut = true) (hv : VarAt s.heap env x (.ref a))
    (hfz : x ∉ fz) (hmd : x ∈ md) (hd' : d'.mut = true) (hk : ∀ b o, b ≠ a → s.heap.get? b = some o → s'.heap.get? b = some o) (hos : s'.os = s.os) (hg : s'.gens = s.gens) (r : Rd prog w s'.heap d' (.ref a) [a]) :
    Rep prog w hE env fz s' (ρ.set x d') ∧ Tr env md s₀ ρ₀ s' (ρ.set x d') := by
  have H : Hold ρ env s.heap x a := ⟨⟨d, hx, hdm⟩, hv⟩
  obtain ⟨⟨oa, hoa⟩, hnc, hnt⟩ := H.there R.vars
  have hal := R.lsep x a H
  have hcell : ∀ y, env.cells.lookup y ≠ some a := fun y hy => by
    obtain ⟨⟨u, hu⟩, _⟩ := R.cell y a hy
    exact hnc u hu
  have hk' : ∀ b o, s.heap.get? b = some o → ¬ b = a → s'.heap.get? b = some o := fun b o e q => hk b o q e
  have hX : ∀ b its, b = a → ¬ PTup s.heap b its := by rintro b its rfl; exact hnt its
  have hvv : ∀ y v, VarAt s.heap env y v → VarAt s'.heap env y v := fun y v q => q.keepBut hk' (fun q => hal q.symm) (.inr fun c hc q => hcell y (by rw [hc, q]))
  have hback : ∀ y b, Hold (ρ.set x d') env s'.heap y b → Hold ρ env s.heap y b := by
    rintro y b ⟨⟨e, he, hm⟩, hb⟩
    rw [Store.get_set] at he
    by_cases q : y = x
    · subst q
      have := (hvv y _ hv).unique hb
      cases this
      exact H
    · rw [if_neg q] at he
      exact Hold.back R.vars (hvv y) ⟨⟨e, he, hm⟩, hb⟩
  refine ⟨⟨fun b o e => hk b o (fun q => by rw [q, R.fresh x a H hfz] at e; cases e) (R.kp b o e), ns_kept hk' (fun q => hal q.symm) R.ns, R.lnew, fun y c hc => ?_, R.apart, fun y e hy => ?_, fun y z b p q => R.dist y z b (hback y b p) (hback z b q), fun y b p => R.lsep y b (hback y b p), fun y b p => R.fresh y b (hback y b p)⟩,
    ⟨fun b o e q => hk b o (fun q' => ?_) (T.keep b o e q), fun b q => T.own b (q.imp id fun q => q.imp id fun ⟨z, hz, q⟩ => ⟨z, hz, hback z b q⟩), fun y hy => ⟨?_, fun v q => hvv y v ((T.same y hy).2 v q)⟩, hos.trans T.os, fun i g e => hg ▸ T.gens i g e, fun q => hg ▸ T.bare q⟩⟩
  · obtain ⟨⟨u, o, ho, hd⟩, q⟩ := R.cell y c hc
    exact ⟨⟨u, o, hk c o (fun q => hcell y (by rw [hc, q])) ho, hd⟩, q⟩
  · rw [Store.get_set] at hy
    by_cases q : y = x
    · subst q
      rw [if_pos rfl] at hy; cases hy
      exact ⟨by simp [D.ok, hd'], _, _, hvv y _ hv, r⟩
    · rw [if_neg q] at hy
      obtain ⟨o, u, f, b, c⟩ := R.vars y e hy
      refine ⟨o, u, f, hvv y u b, Rd.keepBut hk' hX (fun z hz q' => ?_) c⟩
      rcases D.ok_cases o with hi | hm
      · rw [Rd.im_fp hi c] at hz; cases hz
      · obtain ⟨k, e1, rfl⟩ := Rd.mut_ref hm c
        simp at hz; subst hz; subst e1
        exact q (R.dist y x a (q' ▸ ⟨⟨e, hy, hm⟩, b⟩) H)
  · subst q'
    rcases T.own b (.inr (.inr ⟨x, hmd, H⟩)) with q2 | q2
    · exact q q2
    · rw [e] at q2; cases q2
  · rw [Store.get_set, if_neg (by rintro rfl; exact hy hmd)]
    exact (T.same y hy).1

theorem D.ims_set : ∀ {l : List D} {j : Nat} {d : D}, D.ims l = true → d.im = true → D.ims (l.set j d) = true
  | [], j, d, _, _ => rfl
  | e :: l, 0, d, h, hd => by simp only [D.ims, Bool.and_eq_true] at h; simp [D.ims, hd, h.2]
  | e :: l, j + 1, d, h, hd => by
    simp only [D.ims, Bool.and_eq_true] at h
    simp [D.ims, h.1, D.ims_set (j := j) h.2 hd]
theorem Rds.set {h : Heap} : ∀ {ds : List D} {vs : List Value} {j : Nat} {d : D} {v : Value}, Rds prog w h ds vs [] → Rd prog w h d v [] → Rds prog w h (ds.set j d) (vs.set j v) []
  | [], vs, j, d, v, r, _ => by obtain ⟨rfl, _⟩ := r; exact ⟨by simp, rfl⟩
  | e :: ds, vs, j, d, v, r, rd => by
    obtain ⟨u, q, f, g, rfl, hf, r1, r2⟩ := r
    have hf1 : f = [] := (List.append_eq_nil_iff.mp hf.symm).1
    have hg1 : g = [] := (List.append_eq_nil_iff.mp hf.symm).2
    subst hf1 hg1
    cases j with
    | zero => exact ⟨v, q, [], [], rfl, rfl, rd, r2⟩
    | succ j => exact ⟨u, q.set j v, [], [], rfl, rfl, r1, Rds.set r2 rd⟩

theorem PairsRd.keys : ∀ {kvs : List (Int × Value)} {l : List (Int × Int)}, PairsRd kvs l → kvs.map (·.1) = l.map (·.1)
  | _, _, .nil => rfl
  | _, _, .cons r => by simp [PairsRd.keys r]
theorem pairs_map {k v : Int} {t : Tok} : ∀ {kvs : List (Int × Value)} {l : List (Int × Int)}, PairsRd kvs l → (∀ p ∈ l, p.1 ≠ k) → kvs.map (fun kv => if kv.1 = k then (kv.1, Value.int v t) else kv) = kvs ∧ putD l k v = l ++ [(k, v)]
  | _, _, .nil, _ => ⟨rfl, rfl⟩
  | _, _, @PairsRd.cons k' i t' kvs l r, h => by
    obtain ⟨h1, h2⟩ := pairs_map (k := k) (v := v) (t := t) r (fun p hp => h p (by simp [hp]))
    have hne : k' ≠ k := h (k', i) (by simp)
    refine ⟨by rw [List.map_cons, h1, if_neg hne], ?_⟩
    unfold putD
    rw [show (k == k') = false by simpa using fun q => hne q.symm]
    simp [h2]
theorem stored_pairs {k v : Int} {t : Tok} : ∀ {kvs : List (Int × Value)} {l : List (Int × Int)}, PairsRd kvs l → (kvs.map (·.1)).Nodup → PairsRd (stored kvs k (.int v t)) (putD l k v)
  | _, _, .nil, _ => by
    show PairsRd [(k, Value.int v t)] [(k, v)]
    exact .cons .nil
  | _, _, @PairsRd.cons k' i t' kvs l r, nd => by
    rw [List.map_cons, List.nodup_cons] at nd
    have ih := stored_pairs (k := k) (v := v) (t := t) r nd.2
    by_cases q : k' = k
    · subst q
      have hne : ∀ p ∈ l, p.1 ≠ k' := fun p hp e => nd.1 (by rw [r.keys]; exact List.mem_map.mpr ⟨p, hp, e⟩)
      obtain ⟨h1, h2⟩ := pairs_map (k := k') (v := v) (t := t) r hne
      unfold stored putD
      simp only [List.any_cons, decide_true, Bool.true_or, if_true, List.map_cons, beq_self_eq_true, h1]
      exact .cons r
    · have q' : (k == k') = false := by simpa using fun e => q e.symm
      have e1 : putD ((k', i) :: l) k v = (k', i) :: putD l k v := by rw [putD, q']; rfl
      have e2 : stored ((k', Value.int i t') :: kvs) k (.int v t) = (k', Value.int i t') :: stored kvs k (.int v t) := by
        unfold stored
        simp only [List.any_cons, q, decide_false, Bool.false_or, if_false, List.map_cons]
        split <;> rfl
      rw [e1, e2]
      exact .cons ih

/-- a name's value, as it is loaded -/
theorem load_sound {sc : Scope} {x : Str} {ρ : Store} {d : D} {env : Env} {s : Shared} (hd : ρ.get x = some d) (hk2 : kindOk sc x = true) (O : EnvOk sc env) (V : Vars prog w s.heap env ρ) :
    wpAny (model prog w) A (loadName env x) (fun v s' => s' = s ∧ ∃ fp, VarAt s.heap env x v ∧ Rd prog w s.heap d v fp) No s := by
  obtain ⟨hok, v, fp, hv, hr⟩ := V x d hd
  have hv0 := hv
  unfold kindOk at hk2
  have hdb : (x == ("__debug__" : Str)) = false ∧ (x == ("__classdict__" : Str)) = false := by
    split at hk2 <;> first | (simp only [Bool.and_eq_true, bne, Bool.not_eq_true'] at hk2; exact hk2) | cases hk2
  rcases hv with ⟨k, m, hm, e⟩ | ⟨k | k, c, hc, hcv⟩
  · exact wpAny_loadName_local O.kind k hm e ⟨rfl, fp, hv0, hr⟩
  · exact wpAny_loadName_cell O.kind k hc hcv ⟨rfl, fp, hv0, hr⟩
  · exact wpAny_loadName_free O.kind k hc hcv ⟨rfl, fp, hv0, hr⟩ hdb.2
end
end Mine
end
section
open PySem PySem.W PyProof.Rows PySem.Builtin PySem.Builtin.Str
set_option maxRecDepth 100000
namespace Mine
section
variable {prog : Program} {w : World} {A : Around} {h₀ hE : Heap} {mg mb : Str → Option Value}

theorem plain_keeps {h h' : Heap} {a : Addr} {l : Array Value} (p : h.PlainList a l) (hk : ∀ b o, h.get? b = some o → h'.get? b = some o) : h'.PlainList a l := let ⟨m, e⟩ := p; ⟨m, hk a _ e⟩
theorem bindOk_kind {sc : Scope} {x : Str} (h : kindOk sc x = true) : (x == ("__debug__" : Str)) = false := by
  unfold kindOk at h
  split at h <;> first | (simp only [Bool.and_eq_true, bne, Bool.not_eq_true'] at h; exact h.1) | cases h

/-- a name of the frame's, its place -/
theorem name_at {sc : Scope} {x : Str} {pos : Pos} {ρ : Store} {d : D} {env : Env} {s : Shared} (hd : ρ.get x = some d) (hk2 : kindOk sc x = true) (O : EnvOk sc env) (V : Vars prog w s.heap env ρ) :
    wpAny (model prog w) A (eval (.Name x pos) env) (fun v s' => s' = s ∧ ∃ fp, VarAt s.heap env x v ∧ Rd prog w s.heap d v fp) No s :=
  wpAny_Name (load_sound hd hk2 O V) (bindOk_kind hk2)

/-- x.append(value) -/
theorem ex_append {sc : Scope} {fz md : List Str} {x : Str} {np ap pp pos : Pos} {a : Expr} {ρ : Store} {l : List D} {d : D} {bs : List Str} (hf : methFine (.Name x np) ap pp = true) (hfz : x ∉ fz) (hk : kindOk sc x = true) (hm : x ∈ md)
    (hx : ρ.get x = some (.list l)) (h1 : EvS prog w A h₀ sc a ρ d bs) (him : d.im = true) (hl : l.length < lim) :
    ExN prog w A h₀ sc fz md (.Expr (.Call (.Attribute (.Name x np) "append" ap) [a] [] pp) pos) ρ (ρ.set x (.list (l ++ [d]))) := fun hE env s O K R => by
  refine wpAny_Expr_any ?_ (by unfold interactive; rw [O.kind]; rfl) rfl
  refine wpAny_meth hf (star1 h1.ns) (by simp) (wp_no (name_at hx hk O R.vars) fun v s₁ q pl => ?_)
  obtain ⟨rfl, fp, hv, b, vs, rfl, hpl, r, rfl⟩ := q
  obtain ⟨m, ho⟩ := id hpl
  refine Calls.getMethod_list_append ho rfl rfl ?_
  refine callWith_m1 h1.ns (wp_no (h1.run env _ O (R.kp0 K) R.vars) fun u s₂ q => ?_)
  obtain ⟨e, fq, rd, _, _⟩ := q
  have := Rd.im_fp him rd
  subst this
  have hsz : vs.toArray.size ≤ sizeLine := by
    rw [List.size_toArray, r.length]
    exact lim_line (Nat.le_of_lt hl)
  refine wpAny_list_append_plain (plain_keeps hpl e.keep) (fun h' hp' hs' => ?_) hsz
  refine ⟨rfl, ?_⟩
  have hnt : ∀ b' its, b' = b → ¬ PTup s₂.heap b' its := by rintro b' its rfl; exact list_not_tup (plain_keeps hpl e.keep)
  refine upd1 (d := .list l) (R.ext e) (Tr.ext R e) hx rfl (hv.keeps e.keep) hfz hm rfl (fun c o hc q => hs'.extBut c o hc q) rfl rfl ?_
  refine ⟨b, vs ++ [u], rfl, by simpa using hp', ?_, rfl⟩
  have r1 := Rds.keepBut (fp := []) (fun c o q hc => hs'.extBut c o hc q) hnt (fun _ q => nomatch q) (r.keeps e.keep)
  have r2 := Rd.keepBut (fp := []) (fun c o q hc => hs'.extBut c o hc q) hnt (fun _ q => nomatch q) rd
  have := Rds.append r1 (b := [d]) (ws := [u]) (g := []) ⟨u, [], [], [], rfl, rfl, r2, rfl, rfl⟩
  simpa using this

theorem swaps_sub {v : Expr} {o i : Expr} {p : Pos} {line : Nat} {env : Env} : swapsWith v (some (.Subscript o i p)) line env = pure false := by cases v <;> rfl

theorem fits_small {k : Int} (h : small k = true) : Builtin.List.listFitsIndex k = true := by
  have := small_iff h
  unfold Builtin.List.listFitsIndex
  simp only [Bool.and_eq_true, decide_eq_true_eq]
  exact ar230 this

/-- x[i] = value, a list -/
theorem ex_SetList {sc : Scope} {fz md : List Str} {x : Str} {np sp pos : Pos} {v i : Expr} {ρ : Store} {l : List D} {k : Int} {j : Nat} {d : D} {bs bi : List Str} (hfz : x ∉ fz) (hk : kindOk sc x = true) (hm : x ∈ md)
    (h1 : EvS prog w A h₀ sc v ρ d bs) (hx : ρ.get x = some (.list l)) (h2 : EvS prog w A h₀ sc i ρ (.int k) bi) (him : d.im = true) (hs : small k = true) (hj : j < l.length) (hkj : (0 ≤ k ∧ k = j) ∨ (k < 0 ∧ k + l.length = j)) :
    ExN prog w A h₀ sc fz md (.Assign [.Subscript (.Name x np) i sp] v pos) ρ (ρ.set x (.list (l.set j d))) := fun hE env s O K R => by
  refine wpAny_Assign_Subscript (wp_no (h1.run env s O (R.kp0 K) R.vars) fun u s₁ q => ?_) swaps_sub
  obtain ⟨e1, fq, rd, _, _⟩ := q
  have := Rd.im_fp him rd
  subst this
  have R1 := R.ext e1
  refine wp_no (name_at hx hk O R1.vars) fun v s₁' q => ?_
  obtain ⟨rfl, fp, hv, b, vs, rfl, hpl, r, rfl⟩ := q
  refine wp_no (h2.run env s₁' O (R1.kp0 K) R1.vars) fun iv s₂ q => ?_
  obtain ⟨e2, _, ⟨⟨t, rfl⟩, rfl⟩, _⟩ := q
  have hlen := r.length
  refine setItem_list (j := j) (plain_keeps hpl e2.keep) (fits_small hs) (by simp [hlen, hj]) (by simpa [hlen] using hkj) fun h' hp' hs' => ?_
  refine ⟨rfl, ?_⟩
  have e12 := e1.trans e2
  have hnt : ∀ b' its, b' = b → ¬ PTup s₂.heap b' its := by rintro b' its rfl; exact list_not_tup (plain_keeps hpl e2.keep)
  refine upd1 (d := .list l) (R1.ext e2) (Tr.ext R e12) hx rfl (hv.keeps e2.keep) hfz hm rfl (fun c o hc q => hs'.extBut c o hc q) rfl rfl ?_
  refine ⟨b, vs.set j u, rfl, by simpa using hp', ?_, rfl⟩
  have r1 := Rds.keepBut (fp := []) (fun c o q hc => hs'.extBut c o hc q) hnt (fun _ q => nomatch q) (r.keeps e2.keep)
  have r2 := Rd.keepBut (fp := []) (fun c o q hc => hs'.extBut c o hc q) hnt (fun _ q => nomatch q) (rd.keeps e2.keep)
  exact Rds.set r1 r2

/-- x[i] = value, a dict -/
theorem ex_SetDict {sc : Scope} {fz md : List Str} {x : Str} {np sp pos : Pos} {v i : Expr} {ρ : Store} {l : List (Int × Int)} {k j : Int} {bs bi : List Str} (hfz : x ∉ fz) (hk : kindOk sc x = true) (hm : x ∈ md)
    (h1 : EvS prog w A h₀ sc v ρ (.int j) bs) (hx : ρ.get x = some (.dict l)) (h2 : EvS prog w A h₀ sc i ρ (.int k) bi) (hl : l.length < lim) :
    ExN prog w A h₀ sc fz md (.Assign [.Subscript (.Name x np) i sp] v pos) ρ (ρ.set x (.dict (putD l k j))) := fun hE env s O K R => by
  refine wpAny_Assign_Subscript (wp_no (h1.run env s O (R.kp0 K) R.vars) fun u s₁ q => ?_) swaps_sub
  obtain ⟨e1, _, ⟨⟨t', rfl⟩, rfl⟩, _⟩ := q
  have R1 := R.ext e1
  refine wp_no (name_at hx hk O R1.vars) fun v s₁' q => ?_
  obtain ⟨rfl, fp, hv, b, kvs, rfl, hd, r, hsys, rfl⟩ := q
  refine wp_no (h2.run env s₁' O (R1.kp0 K) R1.vars) fun iv s₂ q => ?_
  obtain ⟨e2, _, ⟨⟨t, rfl⟩, rfl⟩, _⟩ := q
  have hnd : (kvs.map (·.1)).Nodup := by obtain ⟨o, es, ep, _, _, _, _, _, q⟩ := hd; exact q
  have hsz : kvs.length ≤ sizeLine := by
    rw [r.length]
    exact lim_line (Nat.le_of_lt hl)
  refine wpAny_setItem_pairs (knd := intKind prog w) (k := k) (kvs := kvs) (by simp [intKind, Value.isInt]) (hd.keep e2.keep) (fun h' hp' hs' => ?_) hsz
  refine ⟨rfl, ?_⟩
  have e12 := e1.trans e2
  have R3 := (R1.ext e2).ext (Ext.toks (tk := s₂.toks + 1))
  refine upd1 (d := .dict l) R3 (Tr.ext R (e12.trans (Ext.toks (tk := s₂.toks + 1)))) hx rfl (hv.keeps e2.keep) hfz hm rfl (fun c o hc q => hs'.extBut c o hc q) rfl rfl ?_
  exact ⟨b, _, rfl, hp', stored_pairs r hnd, hsys, rfl⟩
end
end Mine
end
section
open PySem PySem.W PyProof.Rows PySem.Builtin PySem.Builtin.Str
set_option maxRecDepth 100000
namespace Mine
section
variable {prog : Program} {w : World} {A : Around} {h₀ hE : Heap} {mg mb : Str → Option Value}

/-- x = y = value -/
theorem ex_Chain {sc : Scope} {fz md : List Str} {x y : Str} {px py pos : Pos} {v : Expr} {ρ : Store} {d : D} {bs : List Str} (hx : bindOk sc x = true) (hy : bindOk sc y = true) (hmx : x ∈ md) (hmy : y ∈ md)
    (h1 : EvS prog w A h₀ sc v ρ d bs) (him : d.im = true) : ExN prog w A h₀ sc fz md (.Assign [.Name x px, .Name y py] v pos) ρ ((ρ.set x d).set y d) := fun hE env s O K R => by
  rw [exec_Assign]
  refine wpAny_bind (wpAny_standAt ?_)
  show wpAny _ A (do
    if ← (pure false : Sem Bool) then do
      evalThenUse v env fun v => assignAll v ((assignEach [.Name x px, .Name y py] env).map (·.2))
      pure .next
    else do
      let v' ← eval v env
      assignStores env v' (← swappedStores [.Name x px, .Name y py] v env) ((assignEach [.Name x px, .Name y py] env).map (·.2))) _ _ s
  refine wpAny_bind (wpAny_pure ?_)
  rw [if_neg (by decide)]
  refine wpAny_bind (wp_no (h1.run env s O (R.kp0 K) R.vars) fun u s₁ q => ?_)
  obtain ⟨e1, fp, r, _, _⟩ := q
  have := Rd.im_fp him r
  subst this
  have hw : swappedStores [.Name x px, .Name y py] v env = pure none := by cases v <;> rfl
  rw [hw]
  refine wpAny_bind (wpAny_pure ?_)
  show wpAny _ A (do assignAll u [assign (.Name x px) env, assign (.Name y py) env]; pure Flow.next) _ _ s₁
  refine wpAny_bind ?_
  show wpAny _ A (do holding [u] (assign (.Name x px) env u); assign (.Name y py) env u) _ _ s₁
  have hok : d.ok = true := by simp [D.ok, him]
  refine wpAny_bind (wpAny_holding (wpAny_assign_Name (wp_no (set1 O (R.ext e1) (Tr.ext (md := md) R e1) hx hmx hok r (fun _ q => nomatch q) (fun _ q => nomatch q)) fun _ s₂ q => ?_)))
  obtain ⟨R2, T2, _, hr, _⟩ := q
  refine wpAny_assign_Name (wp_no (set1 O R2 T2 hy hmy hok (hr d u [] (fun _ q => nomatch q) r) (fun _ q => nomatch q) (fun _ q => nomatch q)) fun _ s₃ q => wpAny_pure ⟨rfl, q.1, q.2.1⟩)

theorem aug_fin {sc : Scope} {fz md : List Str} {x : Str} {ρ : Store} {env : Env} {s s₁ : Shared} (O : EnvOk sc env) (R : Rep prog w hE env fz s ρ) (hx : bindOk sc x = true) (hm : x ∈ md) (e1 : Ext s s₁) (k : Int) (t tk : Tok) :
    wpAny (model prog w) A (storeName env x (.int k t)) (fun _ s' => Flow.next = Flow.next ∧ Rep prog w hE env fz s' (ρ.set x (.int k)) ∧ Tr env md s ρ s' (ρ.set x (.int k))) No { s₁ with toks := tk } :=
  wp_no (set1 (d := .int k) (fp := []) O (R.ext (e1.trans Ext.toks)) (Tr.ext (md := md) R (e1.trans Ext.toks)) hx hm rfl ⟨⟨t, rfl⟩, rfl⟩ (fun _ q => nomatch q) (fun _ q => nomatch q)) fun _ _ q => ⟨rfl, q.1, q.2.1⟩
/-- x += value -/
theorem ex_Aug {sc : Scope} {fz md : List Str} {x : Str} {px pos : Pos} {v : Expr} {ρ : Store} {i j : Int} {bs : List Str} (hx : bindOk sc x = true) (hk : kindOk sc x = true) (hm : x ∈ md)
    (h0 : ρ.get x = some (.int i)) (h1 : EvS prog w A h₀ sc v ρ (.int j) bs) : ExN prog w A h₀ sc fz md (.AugAssign (.Name x px) .Add v pos) ρ (ρ.set x (.int (i + j))) := fun hE env s O K R => by
  refine wpAny_AugAssign_Name (wp_no (load_sound h0 hk O R.vars) fun u s₀ q => ?_)
  obtain ⟨rfl, fp, hv, ⟨t, rfl⟩, _⟩ := q
  refine h1.step O (R.kp0 K) R.vars fun u s₁ _ e1 _ _ r _ => ?_
  obtain ⟨⟨t', rfl⟩, _⟩ := r
  exact PySem.P.iadd_int (aug_fin O R hx hm e1 _ _ _)
theorem ex_AugS {sc : Scope} {fz md : List Str} {x : Str} {px pos : Pos} {v : Expr} {ρ : Store} {i j : Int} {bs : List Str} (hx : bindOk sc x = true) (hk : kindOk sc x = true) (hm : x ∈ md)
    (h0 : ρ.get x = some (.int i)) (h1 : EvS prog w A h₀ sc v ρ (.int j) bs) : ExN prog w A h₀ sc fz md (.AugAssign (.Name x px) .Sub v pos) ρ (ρ.set x (.int (i - j))) := fun hE env s O K R => by
  refine wpAny_AugAssign_Name (wp_no (load_sound h0 hk O R.vars) fun u s₀ q => ?_)
  obtain ⟨rfl, fp, hv, ⟨t, rfl⟩, _⟩ := q
  refine h1.step O (R.kp0 K) R.vars fun u s₁ _ e1 _ _ r _ => ?_
  obtain ⟨⟨t', rfl⟩, _⟩ := r
  exact PySem.P.isub_int (aug_fin O R hx hm e1 _ _ _)

theorem ok_of_im {d : D} (h : d.im = true) : d.ok = true := by simp [D.ok, h]
/-- a loop's target takes an item -/
theorem bind_frame {sc : Scope} {env : Env} {fz md : List Str} {s₀ s : Shared} {ρ₀ ρ ρ' : Store} {t : Expr} {d : D} {v : Value} (hh : A.handled = none) (O : EnvOk sc env) (hb : BindR sc t d ρ ρ') (hm : ∀ x ∈ tnames t, x ∈ md)
    (R : Rep prog w hE env fz s ρ) (T : Tr env md s₀ ρ₀ s ρ) (r : Rd prog w s.heap d v []) :
    wpAny (model prog w) A (assign t env v) (fun _ s' => Rep prog w hE env fz s' ρ' ∧ Tr env md s₀ ρ₀ s' ρ') No s := by
  cases hb with
  | @one x pos d ρ hx hc =>
    exact wpAny_assign_Name (wp_no (set1 O R T hx (hm x (List.mem_singleton_self _)) (ok_of_im hc) r (fun _ q => nomatch q) (fun _ q => nomatch q)) fun _ s' q => ⟨q.1, q.2.1⟩)
  | @two x y px py k pos d1 d2 ρ hx hy hc1 hc2 =>
    obtain ⟨a, vs, rfl, hp, r⟩ := r
    obtain ⟨v1, q1, f1, g1, rfl, e1, r1, r⟩ := r
    obtain ⟨v2, q2, f2, g2, rfl, e2, r2, r⟩ := r
    obtain ⟨rfl, rfl⟩ := r
    have hf1 : f1 = [] := Rd.im_fp hc1 r1
    have hf2 : f2 = [] := Rd.im_fp hc2 r2
    subst hf1 hf2
    refine wpAny_assign_Tuple hh hp.isTup rfl rfl fun h' hs => ?_
    have hk : ∀ b o, s.heap.get? b = some o → h'.get? b = some o := fun b o e => hs b o (Nat.ne_of_lt (Heap.lt_size e)) e
    have hE' : Ext s { s with heap := h' } := Ext.heap (tk := s.toks) hk
    show wpAny _ _ (assignInOrder [assign (.Name x px) env, assign (.Name y py) env] [v1, v2]) _ _ _
    refine wpAny_bind (wpAny_holding (wpAny_assign_Name (wp_no (set1 O (R.ext hE') (T.trans (Tr.ext R hE')) hx (hm x (by simp [tnames, namesOf])) (ok_of_im hc1) (r1.keeps hk) (fun _ q => nomatch q) (fun _ q => nomatch q)) fun _ s₁ q => ?_)))
    obtain ⟨R1, T1, _, hr, _⟩ := q
    refine wpAny_bind (wpAny_holding (wpAny_assign_Name (wp_no (set1 O R1 T1 hy (hm y (by simp [tnames, namesOf])) (ok_of_im hc2) (hr d2 v2 [] (fun _ q => nomatch q) (r2.keeps hk)) (fun _ q => nomatch q) (fun _ q => nomatch q)) fun _ s₂ q => ?_)))
    exact wpAny_pure ⟨q.1, q.2.1⟩

/-- a turn of a loop -/
theorem for_turn {t : Expr} {it : Value} {body : List Stmt} {env : Env} {R : Result → Shared → Prop} {s : Shared}
    (h : wpAny (model prog w) A (pyNext it) (fun r s₁ => match r with
      | none => R (.ok .next) s₁
      | some v => wpAny (model prog w) A (letOwnedTupleGo t it v) (fun _ s₁' => wpAny (model prog w) A (assign t env v) (fun _ s₂ =>
          wpAny (model prog w) A (execs body env) (fun f s₃ => match f with
            | .next | .cont => codeAny (model prog w) A (.forLoop t it body [] env) R s₃
            | .brk => R (.ok .next) s₃
            | .ret v => R (.ok (.ret v)) s₃) No s₂) No s₁') No s₁) No s) :
    codeAny (model prog w) A (.forLoop t it body [] env) R s := by
  refine codeAny_of_tree ?_
  show wpAny _ A ((forTurn t it body [] env).onRaise (fun x => do noteFrame x env; theTreesLotGoes x)) _ _ s
  refine wpAny_noted ?_
  simp only [forTurn]
  refine wpAny_bind (wpAny_standAt (wpAny_bind (wpAny_onRaise (wpAny_mono h (fun r s₁ h₁ => ?_) fun _ _ h' => h'.elim))))
  cases r with
  | none => exact wpAny_pure ⟨rfl, codeAny_block (wpAny_execs_nil h₁)⟩
  | some v =>
    refine wpAny_bind (wp_no h₁ fun _ s₁' h₁' => ?_)
    refine wpAny_bind (wp_no h₁' fun _ s₂ h₂ => wpAny_bind (wp_no h₂ fun f s₃ h₃ => ?_))
    cases f with
    | next => exact wpAny_pure ⟨rfl, h₃⟩
    | cont => exact wpAny_pure ⟨rfl, h₃⟩
    | brk => exact wpAny_pure h₃
    | ret v => exact wpAny_pure h₃

/-- objects of the iterator's own are changed -/
theorem Rep.offs {env : Env} {fz md : List Str} {s₀ s s' : Shared} {ρ₀ ρ : Store} {W : List Addr} {g : Option Nat} (R : Rep prog w hE env fz s ρ) (T : Tr env md s₀ ρ₀ s ρ) (k : Chd W g s s')
    (hW : ∀ b ∈ W, b ≠ env.locals ∧ (∀ y, env.cells.lookup y ≠ some b) ∧ (s₀.heap.get? b = none ∨ Own md ρ₀ env s₀.heap b) ∧ hE.get? b = none ∧ (∀ y, ¬ Hold ρ env s.heap y b) ∧ ∀ its, ¬ PTup s.heap b its) (hg : ∀ i, g = some i → s₀.gens[i]? = none) :
    Rep prog w hE env fz s' ρ ∧ Tr env md s₀ ρ₀ s' ρ ∧ ∀ y b, Hold ρ env s'.heap y b → Hold ρ env s.heap y b := by
  have hk' : ∀ b o, s.heap.get? b = some o → ¬ b ∈ W → s'.heap.get? b = some o := fun b o e q => k.keep b o q e
  have hX : ∀ b its, b ∈ W → ¬ PTup s.heap b its := fun b its q => (hW b q).2.2.2.2.2 its
  have hL : ¬ env.locals ∈ W := fun q => (hW _ q).1 rfl
  have hv : ∀ x v, VarAt s.heap env x v → VarAt s'.heap env x v := fun x v q => q.keepBut hk' hL (.inr fun c hc q => (hW c q).2.1 x hc)
  have back : ∀ {x a}, Hold ρ env s'.heap x a → Hold ρ env s.heap x a := fun {x a} H => H.back R.vars (hv x)
  refine ⟨⟨fun b o e => hk' b o (R.kp b o e) (fun q => by rw [(hW b q).2.2.2.1] at e; cases e), ns_kept hk' hL R.ns, R.lnew, fun x c hc => ?_, R.apart, fun x d e => ?_, fun x y a p q => R.dist x y a (back p) (back q), fun x a p => R.lsep x a (back p), fun x a p => R.fresh x a (back p)⟩,
    ⟨fun b o e q => hk' b o (T.keep b o e q) (fun q' => ?_), fun b q => T.own b (q.imp id fun q => q.imp id fun ⟨z, hz, q⟩ => ⟨z, hz, back q⟩), fun x hx => ⟨(T.same x hx).1, fun v q => hv x v ((T.same x hx).2 v q)⟩, k.os.trans T.os, fun i x e => k.gens i x (fun q => by rw [hg i q.symm] at e; cases e) (T.gens i x e), fun q => k.bare (T.bare q)⟩, fun y b q => back q⟩
  · obtain ⟨⟨v, o, ho, hd⟩, q⟩ := R.cell x c hc
    exact ⟨⟨v, o, hk' c o ho (fun q => (hW c q).2.1 x hc), hd⟩, q⟩
  · obtain ⟨a, v, fp, b, c⟩ := R.vars x d e
    refine ⟨a, v, fp, hv x v b, Rd.keepBut hk' hX (fun z hz q => ?_) c⟩
    rcases D.ok_cases a with hi | hm
    · rw [Rd.im_fp hi c] at hz; cases hz
    · obtain ⟨k', e1, rfl⟩ := Rd.mut_ref hm c
      simp at hz; subst hz; subst e1
      exact (hW z q).2.2.2.2.1 x ⟨⟨d, e, hm⟩, b⟩
  · rcases (hW b q').2.2.1 with r | r
    · rw [r] at e; cases e
    · exact q r
end
end Mine
end
section
open PySem PySem.W PyProof.Rows PySem.Builtin PySem.Builtin.Str
set_option maxRecDepth 100000
namespace Mine
section
variable {prog : Program} {w : World} {A : Around} {h₀ hE : Heap} {mg mb : Str → Option Value}

/-- a block's run: how it ends -/
noncomputable def ExsS (prog : Program) (w : World) (A : Around) (h₀ : Heap) (sc : Scope) (fz md : List Str) (b : List Stmt) (ρ : Store) (Q : Fl → Store → Prop) : Prop :=
  ∀ hE env s, EnvOk sc env → (∀ b o, h₀.get? b = some o → hE.get? b = some o) → Rep prog w hE env fz s ρ →
    wpAny (model prog w) A (execs b env) (fun f s' => ∃ fl ρ', Q fl ρ' ∧ FlIs prog w hE s' f fl ∧ Rep prog w hE env fz s' ρ' ∧ Tr env md s ρ s' ρ') No s
/-- a statement's -/
noncomputable def ExS (prog : Program) (w : World) (A : Around) (h₀ : Heap) (sc : Scope) (fz md : List Str) (st : Stmt) (ρ : Store) (Q : Fl → Store → Prop) : Prop :=
  ∀ hE env s, EnvOk sc env → (∀ b o, h₀.get? b = some o → hE.get? b = some o) → Rep prog w hE env fz s ρ →
    wpAny (model prog w) A (exec st env) (fun f s' => ∃ fl ρ', Q fl ρ' ∧ FlIs prog w hE s' f fl ∧ Rep prog w hE env fz s' ρ' ∧ Tr env md s ρ s' ρ') No s
noncomputable def Then (prog : Program) (w : World) (A : Around) (h₀ : Heap) (sc : Scope) (fz md : List Str) (r : List Stmt) (Q : Fl → Store → Prop) (f : Fl) (ρ : Store) : Prop := match f with
  | .next => ExsS prog w A h₀ sc fz md r ρ Q
  | f => Q f ρ
theorem exs_nil {sc : Scope} {fz md : List Str} {ρ : Store} {Q : Fl → Store → Prop} (h : Q .next ρ) : ExsS prog w A h₀ sc fz md [] ρ Q :=
  fun _ _ _ _ _ R => wpAny_execs_nil ⟨_, _, h, .next, R, Tr.refl _ _ _ _⟩
theorem ExN.ex {sc : Scope} {fz md : List Str} {st : Stmt} {ρ ρ' : Store} {Q : Fl → Store → Prop} (h : ExN prog w A h₀ sc fz md st ρ ρ') (hq : Q .next ρ') : ExS prog w A h₀ sc fz md st ρ Q :=
  fun hE env s O K R => wp_no (h hE env s O K R) fun f s' q => ⟨_, _, hq, by rw [q.1]; exact .next, q.2⟩
theorem exs_cons {sc : Scope} {fz md : List Str} {st : Stmt} {r : List Stmt} {ρ : Store} {Q : Fl → Store → Prop} (h : ExS prog w A h₀ sc fz md st ρ (Then prog w A h₀ sc fz md r Q)) : ExsS prog w A h₀ sc fz md (st :: r) ρ Q :=
  fun hE env s O K R => by
    refine wpAny_execs_cons (wp_no (h hE env s O K R) fun f s₁ q => ?_)
    obtain ⟨fl, ρ₁, hq, hf, R1, T1⟩ := q
    cases hf with
    | next => exact wp_no (hq hE env s₁ O K R1) fun f s₂ q => let ⟨fl, ρ', a, b, c, d⟩ := q; ⟨fl, ρ', a, b, c, T1.trans d⟩
    | cont => exact ⟨_, _, hq, .cont, R1, T1⟩
    | brk => exact ⟨_, _, hq, .brk, R1, T1⟩
    | ret r1 r2 r3 => exact ⟨_, _, hq, .ret r1 r2 r3, R1, T1⟩
theorem ExS.mono {sc : Scope} {fz md : List Str} {st : Stmt} {ρ : Store} {Q Q' : Fl → Store → Prop} (h : ExS prog w A h₀ sc fz md st ρ Q) (hq : ∀ f ρ, Q f ρ → Q' f ρ) : ExS prog w A h₀ sc fz md st ρ Q' :=
  fun hE env s O K R => wp_no (h hE env s O K R) fun f s₂ q => let ⟨fl, ρ', a, b⟩ := q; ⟨fl, ρ', hq _ _ a, b⟩

/-- a loop from an item on -/
noncomputable def LoopS (prog : Program) (w : World) (A : Around) (h₀ : Heap) (sc : Scope) (fz md : List Str) (t : Expr) (b : List Stmt) (items : List D) (ρ : Store) (Q : Fl → Store → Prop) : Prop :=
  ∀ hE env, EnvOk sc env → (∀ b o, h₀.get? b = some o → hE.get? b = some o) → (∀ x ∈ tnames t, x ∈ md) → (∀ x ∈ md, x ∉ fz) →
    ∀ it all St R W g s s₀ ρ₀ i, Itr prog w A h₀ (isTupleT t) it all St R g → St i W s → all.drop i = items → i ≤ all.length → Rep prog w hE env fz s ρ → Tr env md s₀ ρ₀ s ρ →
    (∀ b ∈ W, b ≠ env.locals ∧ (∀ y, env.cells.lookup y ≠ some b) ∧ (s₀.heap.get? b = none ∨ Own md ρ₀ env s₀.heap b) ∧ hE.get? b = none ∧ ∀ y, ¬ Hold ρ env s.heap y b) → (∀ b ∈ R, ¬ Own md ρ env s.heap b) → (∀ i, g = some i → s₀.gens[i]? = none) →
    codeAny (model prog w) A (.forLoop t it b [] env) (fun r s' => ∃ f fl ρ', r = .ok f ∧ Q fl ρ' ∧ FlIs prog w hE s' f fl ∧ Rep prog w hE env fz s' ρ' ∧ Tr env md s₀ ρ₀ s' ρ') s
noncomputable def LoopQ (prog : Program) (w : World) (A : Around) (h₀ : Heap) (sc : Scope) (fz md : List Str) (t : Expr) (b : List Stmt) (items : List D) (Q : Fl → Store → Prop) (f : Fl) (ρ : Store) : Prop := match f with
  | .next => LoopS prog w A h₀ sc fz md t b items ρ Q
  | .cont => LoopS prog w A h₀ sc fz md t b items ρ Q
  | .brk => Q .next ρ
  | .ret v => Q (.ret v) ρ
theorem loop_nil {sc : Scope} {fz md : List Str} {t : Expr} {b : List Stmt} {ρ : Store} {Q : Fl → Store → Prop} (h : Q .next ρ) : LoopS prog w A h₀ sc fz md t b [] ρ Q := by
  intro hE env O K hmt hmf it all St R W g s s₀ ρ₀ i It st hi hle Rp T hW hR hg
  refine for_turn ?_
  have hWp : ∀ b ∈ W, b ≠ env.locals ∧ (∀ y, env.cells.lookup y ≠ some b) ∧ (s₀.heap.get? b = none ∨ Own md ρ₀ env s₀.heap b) ∧ hE.get? b = none ∧ (∀ y, ¬ Hold ρ env s.heap y b) ∧ ∀ its, ¬ PTup s.heap b its := fun b q =>
    let ⟨a1, a2, a3, a4, a5⟩ := hW b q; ⟨a1, a2, a3, a4, a5, (It.wr i W s st b q).2⟩
  have hlen : i ≥ all.length := by simpa using hi
  obtain rfl : i = all.length := Nat.le_antisymm hle hlen
  refine wp_no (It.done W s st) fun r s₁ q => ?_
  obtain ⟨rfl, k⟩ := q
  obtain ⟨R1, T1, _⟩ := Rep.offs Rp T k hWp hg
  exact ⟨_, _, _, rfl, h, .next, R1, T1⟩
theorem loop_cons (hh : A.handled = none) {sc : Scope} {fz md : List Str} {t : Expr} {b : List Stmt} {d : D} {r : List D} {ρ ρ₁ : Store} {Q : Fl → Store → Prop} (hb : BindR sc t d ρ ρ₁) (h1 : ExsS prog w A h₀ sc fz md b ρ₁ (LoopQ prog w A h₀ sc fz md t b r Q)) :
    LoopS prog w A h₀ sc fz md t b (d :: r) ρ Q := by
  intro hE env O K hmt hmf it all St R W g s s₀ ρ₀ i It st hi hle Rp T hW hR hg
  refine for_turn ?_
  have hWp : ∀ b ∈ W, b ≠ env.locals ∧ (∀ y, env.cells.lookup y ≠ some b) ∧ (s₀.heap.get? b = none ∨ Own md ρ₀ env s₀.heap b) ∧ hE.get? b = none ∧ (∀ y, ¬ Hold ρ env s.heap y b) ∧ ∀ its, ¬ PTup s.heap b its := fun b q =>
    let ⟨a1, a2, a3, a4, a5⟩ := hW b q; ⟨a1, a2, a3, a4, a5, (It.wr i W s st b q).2⟩
  have hT : TgtOk (isTupleT t) t := by
    cases hb
    · exact ⟨_, _, rfl⟩
    · exact ⟨_, _, _, rfl⟩
  refine wp_no (It.item i W s d t st (drop_get hi).1 hT) fun r' s₁ q => ?_
  obtain ⟨v, rfl, q⟩ := q
  refine wp_no q fun _ s₁ q => ?_
  obtain ⟨k, rd, W', st', hW'⟩ := q
  obtain ⟨R1, T1, hback⟩ := Rep.offs Rp T k hWp hg
  have ownback : ∀ b, Own md ρ env s₁.heap b → Own md ρ env s.heap b := fun b q => q.imp id fun q => q.imp id fun ⟨z, hz, q⟩ => ⟨z, hz, hback z b q⟩
  have hW1 : ∀ b ∈ W', b ≠ env.locals ∧ (∀ y, env.cells.lookup y ≠ some b) ∧ (s₀.heap.get? b = none ∨ Own md ρ₀ env s₀.heap b) ∧ hE.get? b = none ∧ ∀ y, ¬ Hold ρ env s₁.heap y b := fun b q => by
    rcases hW' b q with q | q
    · obtain ⟨a1, a2, a3, a4, a5⟩ := hW b q
      exact ⟨a1, a2, a3, a4, fun y hy => a5 y (hback y b hy)⟩
    · refine ⟨?_, fun y hy => ?_, ?_, ?_, fun y hy => ?_⟩
      · rintro rfl
        obtain ⟨o, ho⟩ := Own.there (md := []) Rp (.inl rfl)
        rw [q] at ho; cases ho
      · obtain ⟨o, ho⟩ := Own.there (md := []) Rp (.inr (.inl ⟨y, hy⟩))
        rw [q] at ho; cases ho
      · by_cases q' : Own md ρ₀ env s₀.heap b
        · exact .inr q'
        · refine .inl ?_
          cases e : s₀.heap.get? b with
          | none => rfl
          | some o => rw [T.keep b o e q'] at q; cases q
      · cases e : hE.get? b with
        | none => rfl
        | some o => rw [Rp.kp b o e] at q; cases q
      · obtain ⟨o, ho⟩ := ((hback y b hy).there Rp.vars).1
        rw [q] at ho; cases ho
  refine wp_no (bind_frame hh O hb hmt R1 (Tr.refl env md s₁ ρ) rd) fun _ s₂ q => ?_
  obtain ⟨R2, T2⟩ := q
  refine wp_no (h1 hE env s₂ O K R2) fun f s₃ q => ?_
  obtain ⟨fl, ρ₂, hq, hf, R3, T3⟩ := q
  have T23 := T2.trans T3
  have T13 := T1.trans T23
  -- the iterator stands
  have hX : ∀ c its, Own md ρ env s₁.heap c → ¬ PTup s₁.heap c its := by
    rintro c its (rfl | ⟨y, hy⟩ | ⟨y, _, hy⟩)
    · exact ns_not_tup R1.ns
    · obtain ⟨⟨u, o, ho, hd⟩, _⟩ := R1.cell y c hy
      rintro ⟨m, e⟩
      rw [ho] at e; cases e; cases hd
    · exact (hy.there R1.vars).2.2 its
  have st3 : St (i + 1) W' s₃ := It.frame _ _ s₁ s₃ (Own md ρ env s₁.heap) st' (fun c o e q => T23.keep c o e q) hX (fun c q q2 => by
    obtain ⟨a1, a2, _, _, a5⟩ := hW1 c q
    rcases q2 with q2 | ⟨y, q2⟩ | ⟨y, _, q2⟩
    · exact a1 q2
    · exact a2 y q2
    · exact a5 y q2) (fun c q q2 => hR c q (ownback c q2)) (fun i x _ e => T23.gens i x e) (fun c o e q => by
    have e := K c o e
    rcases q with q | ⟨y, q⟩ | ⟨y, hy, q⟩
    · rw [q, R1.lnew] at e; cases e
    · rw [(R1.cell y c q).2] at e; cases e
    · rw [R1.fresh y c q (hmf y hy)] at e; cases e)
  have hR3 : ∀ c ∈ R, ¬ Own md ρ₂ env s₃.heap c := fun c q q2 => by
    rcases T23.own c q2 with q3 | q3
    · exact hR c q (ownback c q3)
    · obtain ⟨o, ho⟩ := It.rr _ _ _ st' c q
      rw [q3] at ho; cases ho
  have hW3 : ∀ c ∈ W', c ≠ env.locals ∧ (∀ y, env.cells.lookup y ≠ some c) ∧ (s₀.heap.get? c = none ∨ Own md ρ₀ env s₀.heap c) ∧ hE.get? c = none ∧ ∀ y, ¬ Hold ρ₂ env s₃.heap y c := fun c q => by
    obtain ⟨a1, a2, a3, a4, a5⟩ := hW1 c q
    refine ⟨a1, a2, a3, a4, fun y hy => ?_⟩
    by_cases hm : y ∈ md
    · rcases T23.own c (.inr (.inr ⟨y, hm, hy⟩)) with q3 | q3
      · rcases q3 with q3 | ⟨z, q3⟩ | ⟨z, _, q3⟩
        · exact a1 q3
        · exact a2 z q3
        · exact a5 z q3
      · obtain ⟨o, ho⟩ := (It.wr _ _ _ st' c q).1
        rw [q3] at ho; cases ho
    · obtain ⟨s1, s2⟩ := T23.same y hm
      refine a5 y (Hold.back R1.vars s2 ?_)
      obtain ⟨⟨e, he, hmm⟩, hv⟩ := hy
      exact ⟨⟨e, s1 ▸ he, hmm⟩, hv⟩
  cases hf with
  | next => exact hq hE env O K hmt hmf it all St R W' g s₃ s₀ ρ₀ (i + 1) It st3 (drop_get hi).2 (drop_lt hi) R3 T13 hW3 hR3 hg
  | cont => exact hq hE env O K hmt hmf it all St R W' g s₃ s₀ ρ₀ (i + 1) It st3 (drop_get hi).2 (drop_lt hi) R3 T13 hW3 hR3 hg
  | brk => exact ⟨_, _, _, rfl, hq, .next, R3, T13⟩
  | ret r1 r2 r3 => exact ⟨_, _, _, rfl, hq, .ret r1 r2 r3, R3, T13⟩
end
end Mine
end
section
open PySem PySem.W PyProof.Rows PySem.Builtin PySem.Builtin.Str
set_option maxRecDepth 100000
namespace Mine
section
variable {prog : Program} {w : World} {A : Around} {h₀ hE : Heap} {mg mb : Str → Option Value}

theorem ex_For {sc : Scope} {fz md md' : List Str} {t it : Expr} {b : List Stmt} {pos : Pos} {ρ : Store} {Q : Fl → Store → Prop} {items : List D} {bs : List Str}
    (h1 : EvItS prog w A h₀ sc (isTupleT t) it ρ items bs) (h2 : LoopS prog w A h₀ sc fz md' t b items ρ Q) (hbs : ∀ x ∈ bs, x ∉ md') (ht : ∀ x ∈ tnames t, x ∈ md') (hm : ∀ x ∈ md', x ∈ md) (hmf : ∀ x ∈ md', x ∉ fz) :
    ExS prog w A h₀ sc fz md (.For t it b [] pos) ρ Q := fun hE env s O K R => by
  refine wpAny_For (wp_no (h1.run env s O (R.kp0 K) R.vars) fun x s₁ q => ?_) (h1.noSet env)
  obtain ⟨e1, q⟩ := q
  refine wp_no q fun i s₂ q => ?_
  obtain ⟨e2, St, RR, W, g, It, st, hW, hR, hg⟩ := q
  have e12 := e1.trans e2
  have R2 := R.ext e12
  have back : ∀ {y a}, Hold ρ env s₂.heap y a → Hold ρ env s.heap y a := fun H => H.back R.vars fun v q => q.keeps e12.keep
  have hex : ∀ a, s.heap.get? a = none → a ≠ env.locals ∧ (∀ y, env.cells.lookup y ≠ some a) ∧ hE.get? a = none ∧ ∀ y, ¬ Hold ρ env s.heap y a := fun a q => by
    refine ⟨?_, fun y hy => ?_, ?_, fun y hy => ?_⟩
    · rintro rfl
      obtain ⟨m, o, _, _, ho, _⟩ := R.ns
      rw [q] at ho; cases ho
    · obtain ⟨⟨v, o, ho, _⟩, _⟩ := R.cell y a hy
      rw [q] at ho; cases ho
    · cases q' : hE.get? a with
      | none => rfl
      | some o => rw [R.kp a o q'] at q; cases q
    · obtain ⟨o, ho⟩ := (hy.there R.vars).1
      rw [q] at ho; cases ho
  refine codeAny_mono (A := A) (h2 hE env O K ht hmf i items St RR W g s₂ s ρ 0 It st rfl (Nat.zero_le _) R2 (Tr.ext R e12) (fun a q => ?_) (fun a q q2 => ?_) hg) fun r s' q => ?_
  · obtain ⟨a1, a2, a3, a4⟩ := hex a (hW a q)
    exact ⟨a1, a2, .inl (hW a q), a3, fun y hy => a4 y (back hy)⟩
  · rcases hR a q with q3 | ⟨x, hx, q3⟩
    · obtain ⟨a1, a2, a3, a4⟩ := hex a q3
      rcases q2 with q2 | ⟨y, q2⟩ | ⟨y, _, q2⟩
      · exact a1 q2
      · exact a2 y q2
      · exact a4 y (back q2)
    · have q3 : Hold ρ env s.heap x a := q3
      rcases q2 with q2 | ⟨y, q2⟩ | ⟨y, hy, q2⟩
      · exact R.lsep x a q3 q2
      · obtain ⟨⟨u, hu⟩, _⟩ := R.cell y a q2
        exact (q3.there R.vars).2.1 u hu
      · have := R.dist x y a q3 (back q2)
        subst this
        exact hbs x hx hy
  · obtain ⟨f, fl, ρ', rfl, hq, hf, R', T'⟩ := q
    exact ⟨fl, ρ', hq, hf, R', T'.mono R.vars hm⟩

theorem ex_If {sc : Scope} {fz md : List Str} {t : Expr} {b o : List Stmt} {pos : Pos} {ρ : Store} {Q : Fl → Store → Prop} {c : Bool} (h : EvBS prog w A h₀ sc t ρ c) (h1 : c = true → ExsS prog w A h₀ sc fz md b ρ Q) (h2 : c = false → ExsS prog w A h₀ sc fz md o ρ Q) :
    ExS prog w A h₀ sc fz md (.If t b o pos) ρ Q := fun hE env s O K R => by
  refine wpAny_If (wp_no (h env s O (R.kp0 K) R.vars) fun c' s₁ q => ?_)
  obtain ⟨e1, rfl⟩ := q
  have T1 : Tr env md s ρ s₁ ρ := Tr.ext R e1
  cases c'
  · rw [if_neg (by decide)]
    exact wp_no (h2 rfl hE env s₁ O K (R.ext e1)) fun f s₂ q => let ⟨fl, ρ', a, b, c, d⟩ := q; ⟨fl, ρ', a, b, c, T1.trans d⟩
  · rw [if_pos rfl]
    exact wp_no (h1 rfl hE env s₁ O K (R.ext e1)) fun f s₂ q => let ⟨fl, ρ', a, b, c, d⟩ := q; ⟨fl, ρ', a, b, c, T1.trans d⟩
/-- x = f(..), which tells one of some values -/
theorem ex_NameFn {sc : Scope} {fz md : List Str} {x : Str} {px pos cp : Pos} {f : Expr} {as : List Expr} {ρ : Store} {Y : D → Prop} {Q : Fl → Store → Prop} (hx : bindOk sc x = true) (hm : x ∈ md)
    (h1 : EvQ prog w A h₀ sc (.Call f as [] cp) ρ Y) (h2 : ∀ d, Y d → d.ok = true ∧ Q .next (ρ.set x d)) : ExS prog w A h₀ sc fz md (.Assign [.Name x px] (.Call f as [] cp) pos) ρ Q := fun hE env s O K R => by
  refine wpAny_Assign_Name (wp_no (h1 env s O (R.kp0 K) R.vars) fun u s₁ q => ?_) rfl
  obtain ⟨d, hy, q⟩ := q
  obtain ⟨hd, hq⟩ := h2 d hy
  obtain ⟨fp, r, nd, R1, T1, F1, W1⟩ := moved (md := md) R q.1 q.2 (fun _ q => nomatch q)
  exact wp_no (set1 O R1 T1 hx hm hd r F1 W1) fun _ s' q => ⟨_, _, hq, .next, q.1, q.2.1⟩
theorem ex_Cont {sc : Scope} {fz md : List Str} {pos : Pos} {ρ : Store} {Q : Fl → Store → Prop} (h : Q .cont ρ) : ExS prog w A h₀ sc fz md (.Continue pos) ρ Q :=
  fun _ _ _ _ _ R => wpAny_Continue ⟨_, _, h, .cont, R, Tr.refl _ _ _ _⟩
theorem ex_Brk {sc : Scope} {fz md : List Str} {pos : Pos} {ρ : Store} {Q : Fl → Store → Prop} (h : Q .brk ρ) : ExS prog w A h₀ sc fz md (.Break pos) ρ Q :=
  fun _ _ _ _ _ R => wpAny_Break ⟨_, _, h, .brk, R, Tr.refl _ _ _ _⟩
theorem ex_Ret {sc : Scope} {fz md : List Str} {e : Expr} {pos : Pos} {ρ : Store} {Q : Fl → Store → Prop} {d : D} {bs : List Str} (h : EvS prog w A h₀ sc e ρ d bs) (hb : ∀ x ∈ bs, x ∉ fz) (hq : Q (.ret d) ρ) :
    ExS prog w A h₀ sc fz md (.Return (some e) pos) ρ Q := fun hE env s O K R => by
  refine wpAny_Return_some (wp_no (h.run env s O (R.kp0 K) R.vars) fun v s₁ q => ?_)
  obtain ⟨e1, fp, r, nd, hf⟩ := q
  refine ⟨_, _, hq, .ret r nd fun a ha => ?_, R.ext e1, Tr.ext R e1⟩
  rcases hf a ha with q | ⟨x, hx, q⟩
  · cases q' : hE.get? a with
    | none => rfl
    | some o => rw [R.kp a o q'] at q; cases q
  · exact R.fresh x a q (hb x hx)
end
end Mine
end
section
open PySem PySem.W PyProof.Rows PySem.Builtin PySem.Builtin.Str
set_option maxRecDepth 100000
namespace Mine

theorem cellsFrom_some : ∀ (names : List (Str × NameKind)) (n : Nat) (acc : List (Str × Addr)), (∀ x, (acc.lookup x).isSome = true → ((cellsFrom n names acc).lookup x).isSome = true) ∧ ∀ x, names.lookup x = some .cell → ((cellsFrom n names acc).lookup x).isSome = true
  | [], n, acc => ⟨fun _ q => q, fun x q => by simp at q⟩
  | (y, k) :: r, n, acc => by
    unfold cellsFrom
    split
    · rename_i hk
      obtain ⟨h1, h2⟩ := cellsFrom_some r (n + 1) ((y, n) :: acc)
      refine ⟨fun x q => h1 x ?_, fun x q => ?_⟩
      · rw [List.lookup_cons]; split <;> simp_all
      · by_cases e : x = y
        · subst e; exact h1 x (by simp)
        · rw [List.lookup_cons, show (x == y) = false by simpa using e] at q
          exact h2 x q
    · rename_i hk
      obtain ⟨h1, h2⟩ := cellsFrom_some r n acc
      refine ⟨h1, fun x q => ?_⟩
      by_cases e : x = y
      · subst e
        rw [List.lookup_cons] at q
        simp at q
        subst q
        simp at hk
      · rw [List.lookup_cons, show (x == y) = false by simpa using e] at q
        exact h2 x q

theorem bindL_off {k : Str → Option NameKind} : ∀ (bs : List (Str × Value)) (init : Str → Option Value) (x : Str), x ∉ bs.map (·.1) → bindL k bs init x = init x ∧ bindC k bs init x = init x
  | [], init, x, _ => ⟨rfl, rfl⟩
  | (y, v) :: r, init, x, h => by
    rw [List.map_cons, List.mem_cons, not_or] at h
    unfold bindL bindC
    rw [(bindL_off r _ x h.2).1, (bindL_off r _ x h.2).2]
    refine ⟨?_, ?_⟩ <;> split <;> simp [h.1]
theorem bindL_get {k : Str → Option NameKind} : ∀ (bs : List (Str × Value)) (init : Str → Option Value) (x : Str) (v : Value), (bs.map (·.1)).Nodup → bs.lookup x = some v → (k x = some .local → bindL k bs init x = some v) ∧ (k x ≠ some .local → bindC k bs init x = some v)
  | [], init, x, v, _, h => by simp at h
  | (y, u) :: r, init, x, v, nd, h => by
    rw [List.map_cons, List.nodup_cons] at nd
    unfold bindL bindC
    by_cases e : x = y
    · subst e
      simp at h
      subst h
      rw [(bindL_off r _ x nd.1).1, (bindL_off r _ x nd.1).2]
      refine ⟨fun q => by rw [if_pos q]; simp, fun q => by rw [if_neg q]; simp⟩
    · rw [List.lookup_cons, show (x == y) = false by simpa using e] at h
      exact ⟨fun q => (bindL_get r _ x v nd.2 h).1 q, fun q => (bindL_get r _ x v nd.2 h).2 q⟩

section
variable {prog : Program} {w : World} {A : Around} {h₀ hE : Heap} {mg mb : Str → Option Value}

theorem start_get {h : Heap} : ∀ {xs : List Str} {ds : List D} {vs : List Value} {fp : List Addr} {x : Str} {d : D}, xs.length = ds.length → Rds prog w h ds vs fp → (startOf xs ds).get x = some d → ∃ (v : Value) (f : List Addr) (i : Nat), (xs.zip vs).lookup x = some v ∧ Rd prog w h d v f ∧ (∀ a ∈ f, a ∈ fp) ∧ d ∈ ds ∧ xs[i]? = some x ∧ ds[i]? = some d
  | [], ds, vs, fp, x, d, _, _, h => by simp [startOf, Store.get] at h
  | y :: xs, [], vs, fp, x, d, hl, _, _ => by simp at hl
  | y :: xs, e :: ds, vs, fp, x, d, hl, r, h => by
    obtain ⟨v, q, f, g, rfl, rfl, r1, r2⟩ := r
    have h' : Store.get ((y, e) :: startOf xs ds) x = some d := h
    rw [Store.get_cons] at h'
    by_cases q' : x = y
    · subst q'
      rw [if_pos rfl] at h'; cases h'
      exact ⟨v, f, 0, by simp, r1, fun a ha => by simp [ha], by simp, rfl, rfl⟩
    · rw [if_neg q'] at h'
      obtain ⟨u, f', i, e1, e2, e3, e4, e5, e6⟩ := start_get (by simpa using hl) r2 h'
      exact ⟨u, f', i + 1, by rw [List.zip_cons_cons, List.lookup_cons, show (x == y) = false by simpa using q']; exact e1, e2, fun a ha => by simp [e3 a ha], by simp [e4], by simpa using e5, by simpa using e6⟩

theorem one_mut : ∀ {ds : List D} {i j : Nat} {d e : D}, (ds.filter D.mut).length ≤ 1 → ds[i]? = some d → ds[j]? = some e → d.mut = true → e.mut = true → i = j
  | [], i, j, d, e, _, h, _, _, _ => by simp at h
  | c :: ds, 0, 0, d, e, _, _, _, _, _ => rfl
  | c :: ds, 0, j + 1, d, e, hl, h1, h2, m1, m2 => by
    simp at h1 h2
    subst h1
    rw [List.filter_cons_of_pos m1] at hl
    have : e ∈ ds.filter D.mut := List.mem_filter.mpr ⟨List.mem_of_getElem? h2, m2⟩
    have := List.length_pos_of_mem this
    rw [List.length_cons] at hl
    exact ar234 hl this
  | c :: ds, i + 1, 0, d, e, hl, h1, h2, m1, m2 => by
    simp at h1 h2
    subst h2
    rw [List.filter_cons_of_pos m2] at hl
    have : d ∈ ds.filter D.mut := List.mem_filter.mpr ⟨List.mem_of_getElem? h1, m1⟩
    have := List.length_pos_of_mem this
    rw [List.length_cons] at hl
    exact ar235 hl this
  | c :: ds, i + 1, j + 1, d, e, hl, h1, h2, m1, m2 => by
    have hl' : (ds.filter D.mut).length ≤ 1 := by
      rw [List.filter_cons] at hl
      split at hl
      · rw [List.length_cons] at hl; exact ar236 hl
      · exact hl
    rw [one_mut (i := i) (j := j) hl' (by simpa using h1) (by simpa using h2) m1 m2]

/-- a call of a function of the text -/
theorem call_user {name : Str} {params : Arguments} {body : List Stmt} {scope : Scope} {pm cd doc : Value} {a : Addr} {o : Obj} {ds : List D} {Y : D → Prop} {vs : List Value} {fp : List Addr} {s : Shared}
    (hroom : A.depth < recursionLimit) (ho : h₀.get? a = some o) (hdata : o.data = .func (Calls.docDef name params body scope pm cd doc)) (hlim : h₀.NoLimit) (hcd : h₀.CodeRec cd name)
    (hbind : ∀ vs : List Value, vs.length = (params.args.map (·.arg)).length → bindArgs (Calls.docDef name params body scope pm cd doc) ⟨vs, []⟩ = pure ((params.args.map (·.arg)).zip vs))
    (hco : scope.isCoroutine = false) (hgen : scope.isGenerator = false) (hk : scope.kind = .function)
    (c1 : ds.length = (params.args.map (·.arg)).length) (c2 : (params.args.map (·.arg)).all (bindOk scope) = true) (c3 : noDup (params.args.map (·.arg)) = true) (c4 : ds.all D.ok = true) (c5 : (ds.filter D.mut).length ≤ 1)
    {md : List Str} (hc : ∀ env, ExsS prog w (A.deeper env) h₀ scope (fzOf (params.args.map (·.arg)) ds) md body (startOf (params.args.map (·.arg)) ds) fun f _ => ∃ r, f = .ret r ∧ Y r) (K : Kp h₀ s) (rd : Rds prog w s.heap ds vs fp) :
    wpAny (model prog w) A (call (.ref a) vs) (fun v s' => ∃ r, Y r ∧ New prog w s s' r v) No s := by
  have hlen : vs.length = (params.args.map (·.arg)).length := rd.length.trans c1
  have hnd := noDup_nodup c3
  refine wpAny_call ?_
  have hfst : ((params.args.map (·.arg)).zip vs).map (·.1) = params.args.map (·.arg) := List.map_fst_zip (by exact ar237 hlen)
  refine call_cells_ret (name := name) hroom (K a o ho) hdata (hlim.keeps K) (hcd.keeps K) (hbind vs hlen) (fun x hx => ?_) (fun h₁ tk F X => ?_) hco hgen hk
  · have hm : x.1 ∈ params.args.map (·.arg) := hfst ▸ List.mem_map_of_mem hx
    have := List.all_eq_true.mp c2 _ hm
    unfold bindOk at this
    split at this
    · rename_i q; exact .inl q
    · rename_i q; exact .inr ⟨q, (cellsFrom_some _ _ _).2 _ q⟩
    · cases this
  · have O : EnvOk scope (envOfC name scope s.heap.objs.size a cd) := ⟨rfl, hk, hk, rfl, rfl, fun x hx => Option.isSome_iff_exists.mp ((cellsFrom_some _ _ _).2 _ hx)⟩
    have hnew : ∀ b, s.heap.objs.size ≤ b → s.heap.get? b = none := fun b hb => by
      cases e : s.heap.get? b with
      | none => rfl
      | some o => exact absurd (Heap.lt_size e) (Nat.not_lt.mpr hb)
    have vat : ∀ x d, (startOf (params.args.map (·.arg)) ds).get x = some d → ∃ (v : Value) (f : List Addr) (i : Nat), VarAt h₁ (envOfC name scope s.heap.objs.size a cd) x v ∧ Rd prog w s.heap d v f ∧ d ∈ ds ∧ (params.args.map (·.arg))[i]? = some x ∧ ds[i]? = some d := fun x d hx => by
      obtain ⟨v, f, i, e1, e2, e3, e4, e5, e6⟩ := start_get c1.symm rd hx
      refine ⟨v, f, i, ?_, e2, e4, e5, e6⟩
      have hb := List.all_eq_true.mp c2 x (List.mem_of_getElem? e5)
      unfold bindOk at hb
      obtain ⟨g1, g2⟩ := bindL_get (k := (envOfC name scope s.heap.objs.size a cd).kindOf) ((params.args.map (·.arg)).zip vs) (fun _ => none) x v (by rw [hfst]; exact hnd) e1
      split at hb
      · rename_i q
        exact .inl ⟨q, _, F.ns, g1 q⟩
      · rename_i q
        obtain ⟨c, hc⟩ := O.cells x q
        have q' : (envOfC name scope s.heap.objs.size a cd).kindOf x = some .cell := q
        exact .inr ⟨.inl q', c, hc, (g2 (by rw [q']; simp)) ▸ X.cell x c hc⟩
      · cases hb
    have hold : ∀ {x b}, Hold (startOf (params.args.map (·.arg)) ds) (envOfC name scope s.heap.objs.size a cd) h₁ x b → ∃ d i, d.mut = true ∧ (params.args.map (·.arg))[i]? = some x ∧ ds[i]? = some d ∧ (∃ o, s.heap.get? b = some o) ∧ (startOf (params.args.map (·.arg)) ds).get x = some d := fun {x b} H => by
      obtain ⟨⟨d, hd, hm⟩, hv⟩ := H
      obtain ⟨v, f, i, q, r', _, e5, e6⟩ := vat x d hd
      have := q.unique hv
      subst this
      obtain ⟨b', e, rfl⟩ := Rd.mut_ref hm r'
      cases e
      exact ⟨d, i, hm, e5, e6, Option.isSome_iff_exists.mp (r'.there b (by simp)), hd⟩
    have R : Rep prog w s.heap (envOfC name scope s.heap.objs.size a cd) (fzOf (params.args.map (·.arg)) ds) { s with heap := h₁, toks := tk } (startOf (params.args.map (·.arg)) ds) := by
      refine ⟨F.keep, ⟨_, F.ns⟩, hnew _ (Nat.le_refl _), fun x c hc => ⟨⟨_, X.cell x c hc⟩, hnew _ (Nat.le_of_lt (X.above x c (mem_of_lookup hc)))⟩, fun x y c h1 h2 => name_of_addr X.apart (mem_of_lookup h1) (mem_of_lookup h2), fun x d hx => ?_, fun x y b p q => ?_, fun x b p => ?_, fun x b p hz => ?_⟩
      · obtain ⟨v, f, i, e1, e2, e3, _⟩ := vat x d hx
        exact ⟨List.all_eq_true.mp c4 d e3, v, f, e1, e2.keeps F.keep⟩
      · obtain ⟨d, i, m1, x1, d1, _⟩ := hold p
        obtain ⟨e, j, m2, x2, d2, _⟩ := hold q
        have := one_mut c5 d1 d2 m1 m2
        subst this
        rw [x1] at x2; cases x2; rfl
      · obtain ⟨_, _, _, _, _, ⟨o, ho⟩, _⟩ := hold p
        exact Nat.ne_of_lt (Heap.lt_size ho)
      · obtain ⟨d, i, m1, x1, d1, _⟩ := hold p
        exfalso
        refine hz ?_
        unfold fzOf
        refine List.mem_map.mpr ⟨(x, d), List.mem_filter.mpr ⟨?_, m1⟩, rfl⟩
        refine List.mem_of_getElem? (i := i) ?_
        rw [List.getElem?_zip_eq_some]
        exact ⟨x1, d1⟩
    refine wp_no (hc _ s.heap _ _ O K R) fun f s' q => ?_
    obtain ⟨fl, ρ', ⟨r, rfl, hy⟩, hf, R', T'⟩ := q
    cases hf with
    | ret r1 r2 r3 => exact ⟨r, hy, ⟨R'.kp, T'.os, T'.gens, T'.bare⟩, _, r1, r2, r3⟩
end
end Mine
end
section
open PySem PySem.W PyProof.Rows PySem.Builtin PySem.Builtin.Str
set_option maxRecDepth 100000
namespace Mine

/-- a stretch of a generator's run: to its end or to its next yield -/
noncomputable def EndsIn (Rt : Result → Shared → Prop) (Sy : Value → Shared → GenState → Prop) (e : End) (s' : Shared) : Prop :=
  e.quiet = true ∧ match e with
    | .ret r => Rt r s'
    | .susp v g l k c p fs => Sy v s' (End.susp v g l k c p fs).genState
noncomputable def Seg1 (M : Model) (A : Around) (Rt : Result → Shared → Prop) (Sy : Value → Shared → GenState → Prop) (c : Code) (t : Sem Fin) (fs : List Frame) (s : Shared) : Prop :=
  ∀ Γ p, Γ.code = c → Γ.Woken A → ∃ e s', Runs M Γ p t fs s e s' ∧ EndsIn Rt Sy e s'

section
variable {M : Model} {A : Around} {Rt : Result → Shared → Prop} {Sy : Value → Shared → GenState → Prop} {c : Code} {fs : List Frame} {s : Shared} {env : Env}
  {K : Flow → Sem Fin} {H : Value → Sem Fin} {gd : Bool → Bool} {lv : List Value → List Value}

theorem seg1_wrap {α : Type} {m : Sem α} {K : α → Sem Fin} {H : Value → Sem Fin} {gd lv}
    (h : wpAny M (A.over c fs) m (fun a s' => Seg1 M A Rt Sy c (K a) fs s') No s) : Seg1 M A Rt Sy c (m.wrap K H gd lv) fs s := by
  rintro Γ p rfl hΓ
  exact runs_wrap_of_wp K H gd lv m (h (Γ.over fs) p (hΓ.over fs)) (fun a p' s' h' => h' Γ p' rfl hΓ) (fun x p' s' h' => h'.elim)
theorem seg1_at {p' : Pos} {k : Unit → Sem Fin} (h : Seg1 M A Rt Sy c (k ()) fs s) : Seg1 M A Rt Sy c (.at p' k) fs s :=
  seg1_wrap (m := standAt p') (K := k) (H := .raise) (gd := id) (lv := id) (wpAny_standAt h)
theorem seg1_point {l : List Value} {k : Unit → Sem Fin} (h : Seg1 M A Rt Sy c (k ()) fs s) : Seg1 M A Rt Sy c (.point l k) fs s :=
  seg1_wrap (m := point) (K := k) (H := .raise) (gd := id) (lv := fun _ => l) (wpAny_point h)
theorem seg1_call {c' : Code} {h g l} {k : Result → Sem Fin} (hc : ∀ p, Seg1 M A Rt Sy c' (M.den c') (.ret k h g l c p [] :: fs) s) : Seg1 M A Rt Sy c (.call c' h g l k) fs s := by
  rintro Γ p rfl hΓ
  obtain ⟨e, s', hr, he⟩ := hc p (Γ.goto c') p rfl (hΓ.goto c')
  exact ⟨e, s', runs_call_seg hr, he⟩
theorem seg1_leaf {k h g l c₁ p₁ kp} (r : Result) (hk : Seg1 M A Rt Sy c₁ (k r) fs s) : Seg1 M A Rt Sy c (leafOf r) (.ret k h g l c₁ p₁ kp :: fs) s := by
  rintro Γ p rfl hΓ
  obtain ⟨e, s', hr, he⟩ := hk (Γ.goto c₁) p₁ rfl (hΓ.goto c₁)
  exact ⟨e, s', Runs.pop r hr, he⟩
theorem seg1_again {c' : Code} (hq : c'.quiet = true) (hc : Seg1 M A Rt Sy c' (M.den c') fs s) : Seg1 M A Rt Sy c (.pure (.again c')) fs s := by
  rintro Γ p rfl hΓ
  obtain ⟨e, s', hr, he⟩ := hc (Γ.goto c') p rfl (hΓ.goto c')
  exact ⟨e, s', Runs.head (c₁ := c') (fun _ _ x => .again hq x) hr, he⟩
theorem seg1_end (r : Result) (h : Rt r s) : Seg1 M A Rt Sy c (leafOf r) [] s := by
  rintro Γ p rfl _
  exact ⟨.ret r, s, Runs.leaf r, rfl, h⟩
theorem seg1_yield {v g l} {k : Resume → Sem Fin} (hfs : splitAtGen fs = none) (hg : g = false) (hfg : fs.any Frame.guarded = false)
    (h : ∀ p, Sy v s (End.susp v g l k c p fs).genState) : Seg1 M A Rt Sy c (.yield v g l k) fs s := by
  rintro Γ p rfl _
  exact ⟨_, s, Runs.yield' fs hfs, by simp [End.quiet, hg, hfg], h p⟩

noncomputable def Goes1 (M : Model) (A : Around) (Rt : Result → Shared → Prop) (Sy : Value → Shared → GenState → Prop) (gs : GenState) (s : Shared) : Prop :=
  match gs with
  | .fresh c => Seg1 M A Rt Sy c (M.den c) [] s
  | .suspended k _ c _ fs _ => Seg1 M A Rt Sy c (k (.send .none)) fs s
  | _ => False

theorem resume1 {E : Value → Shared → Prop} {g : Nat} {gs : GenState} {l : List Value} {α : Type} {k : GenResult → Sem α} {Q : α → Shared → Prop} (hg : s.gens[g]? = some gs)
    (hgo : Goes1 M A Rt Sy gs (s.setGen g .running))
    (hR : ∀ x s₁, Rt x s₁ → wpAny M A (k (End.ret x).result) Q E (s₁.setGen g .finished))
    (hY : ∀ v s₁ gs', Sy v s₁ gs' → wpAny M A (k (.yielded v)) Q E (s₁.setGen g gs')) :
    wpAny M A (.resume g (.send .none) l k) Q E s := by
  intro Γ p hΓ
  rw [Sem.wp_resume]
  have hB : ∀ c, (Γ.wake c p).Woken A := fun c => hΓ.wake c p
  have fin : ∀ e₁ s₁, EndsIn Rt Sy e₁ s₁ → Sem.wp M Γ (k e₁.result) (fun a _ s' => Q a s') (fun e _ s' => E e s') p (s₁.setGen g e₁.genState) := by
    intro e₁ s₁ he
    cases e₁ with
    | ret x => exact hR x s₁ he.2 Γ p hΓ
    | susp v g₀ l₀ k₀ c₀ p₀ fs₀ => exact hY v s₁ _ he.2 Γ p hΓ
  cases gs with
  | fresh c =>
    obtain ⟨e₁, s₁, hr, he⟩ := hgo (Γ.wake c p) p rfl (hB c)
    exact ⟨_, _, by unfold Wakes; rw [hg]; exact ⟨e₁, s₁, hr, he.1, rfl, rfl⟩, fin e₁ s₁ he⟩
  | suspended k₀ l₀ c₀ p₀ fs₀ cl =>
    obtain ⟨e₁, s₁, hr, he⟩ := hgo (Γ.wake c₀ p) p₀ rfl (hB c₀)
    exact ⟨_, _, by unfold Wakes; rw [hg]; exact ⟨e₁, s₁, hr, he.1, rfl, rfl⟩, fin e₁ s₁ he⟩
  | running => exact hgo.elim
  | finished => exact hgo.elim

theorem seg1_execs_nil (h : Seg1 M A Rt Sy c (K .next) fs s) : Seg1 M A Rt Sy c ((execs [] env).wrap K H gd lv) fs s := h
theorem seg1_execs_cons {st : Stmt} {rest : List Stmt}
    (h : Seg1 M A Rt Sy c ((exec st env).wrap (fun f => match f with | .next => (execs rest env).wrap K H gd lv | f => K f) H gd lv) fs s) :
    Seg1 M A Rt Sy c ((execs (st :: rest) env).wrap K H gd lv) fs s := by rw [execs_cons_wrap]; exact h

theorem seg1_Yield {e : Expr} {ypos pos : Pos} (hfs : splitAtGen fs = none) (hgd : gd false = false) (hfg : fs.any Frame.guarded = false)
    (h : wpAny M (A.over c fs) (eval e env) (fun v s' => ∀ gs', gs'.bare = true → (∀ Rt' Sy' s'', Seg1 M A Rt' Sy' c (K .next) fs s'' → Goes1 M A Rt' Sy' gs' s'') → Sy v s' gs') No s) (hco : env.scope.isCoroutine = false) (hi : interactive env = false) :
    Seg1 M A Rt Sy c ((exec (.Expr (.Yield (some e) ypos) pos) env).wrap K H gd lv) fs s := by
  rw [exec_Expr env _ pos hi rfl]
  show Seg1 M A Rt Sy c (.at pos fun _ => ((eval e env >>= fun v => (standAt ypos >>= fun _ => yieldOut env v)) >>= fun x =>
    dropValue (.Yield (some e) ypos) pos x).wrap K H gd lv) fs s
  have hy : ∀ v, yieldOut env v = yieldValue v := fun v => by simp only [yieldOut, hco, Bool.false_eq_true, if_false]
  simp only [hy]
  refine seg1_at ?_
  rw [Sem.bind_eq_wrap', Sem.bind_eq_wrap', Sem.wrap_wrap, Sem.wrap_wrap]
  refine seg1_wrap (wp_no h fun v s' h' => ?_)
  refine seg1_at (seg1_yield hfs hgd hfg fun p => ?_)
  refine h' _ (by simp [End.genState, GenState.bare, hgd, hfg]) fun Rt' Sy' s'' hx => ?_
  exact hx

theorem seg1_If {test : Expr} {body orelse : List Stmt} {pos : Pos}
    (h : wpAny M (A.over c fs) (isTrue test env (eval test env)) (fun b s' => if b then Seg1 M A Rt Sy c ((execs body env).wrap K H gd lv) fs s' else Seg1 M A Rt Sy c ((execs orelse env).wrap K H gd lv) fs s') No s) :
    Seg1 M A Rt Sy c ((exec (.If test body orelse pos) env).wrap K H gd lv) fs s := by
  rw [exec_If]
  refine seg1_at ?_
  show Seg1 M A Rt Sy c ((isTrue test env (eval test env) >>= fun b => if b = true then execs body env else execs orelse env).wrap K H gd lv) fs s
  rw [Sem.bind_eq_wrap', Sem.wrap_wrap]
  refine seg1_wrap (wp_no h fun b s' hb => ?_)
  cases b with
  | true => rw [if_pos rfl] at hb ⊢; exact hb
  | false => rw [if_neg Bool.false_ne_true] at hb ⊢; exact hb

/-- a statement that yields nothing -/
theorem seg1_stmt {st : Stmt} (h : wpAny M (A.over c fs) (exec st env) (fun f s' => Seg1 M A Rt Sy c (K f) fs s') No s) : Seg1 M A Rt Sy c ((exec st env).wrap K H gd lv) fs s := seg1_wrap h

noncomputable def forCont (env : Env) (K : Flow → Sem Fin) (H : Value → Sem Fin) (gd : Bool → Bool) (lv : List Value → List Value) : Result → Sem Fin :=
  fun r => ((match r with | .ok f => (.pure f : Sem Flow) | .error e => .raise e).onRaise fun (x : Value) => do
        if (← field x 1) == Value.none then unsupported "frame.own-activation:exception-without-traceback"
        setFlight x env.frame).wrap K H gd lv

theorem seg1_For {t it : Expr} {body : List Stmt} {pos : Pos} (hs : ∀ x, foldedSetIterable it env x = pure x)
    (h : wpAny M (A.over c fs) (eval it env) (fun x s₁ => wpAny M (A.over c fs) (pyIter x) (fun i s₂ => ∀ p, Seg1 M A Rt Sy (.forLoop t i body [] env) (M.den (.forLoop t i body [] env))
      (.ret (forCont env K H gd lv) none (gd false) (lv []) c p [] :: fs) s₂) No s₁) No s) :
    Seg1 M A Rt Sy c ((exec (.For t it body [] pos) env).wrap K H gd lv) fs s := by
  have e : exec (.For t it body [] pos) env = (do
    standAt pos
    let x ← eval it env
    standAt it.pos
    let i ← holding [x] (pyIter x)
    runOwn (.forLoop t i body [] env) env) := by
    rw [exec_For]
    simp only [hs, pure_bind]
  rw [e]
  refine seg1_at ?_
  show Seg1 M A Rt Sy c ((eval it env >>= fun x => (do standAt it.pos; let i ← holding [x] (pyIter x); runOwn (.forLoop t i body [] env) env)).wrap K H gd lv) fs s
  rw [Sem.bind_eq_wrap', Sem.wrap_wrap]
  refine seg1_wrap (wp_no h fun x s₁ h₁ => ?_)
  refine seg1_at ?_
  show Seg1 M A Rt Sy c ((holding [x] (pyIter x) >>= fun i => runOwn (.forLoop t i body [] env) env).wrap K H gd lv) fs s₁
  rw [Sem.bind_eq_wrap', Sem.wrap_wrap]
  refine seg1_wrap (wpAny_holding (wp_no h₁ fun i s₂ h₂ => ?_))
  exact seg1_call h₂
end

section
variable {prog : Program} {w : World} {A : Around} {Rt : Result → Shared → Prop} {Sy : Value → Shared → GenState → Prop} {fs : List Frame} {s : Shared} {env : Env}

noncomputable def forK (t : Expr) (it : Value) (body : List Stmt) (env : Env) : Flow → Sem Fin
  | .next | .cont => .pure (.again (.forLoop t it body [] env))
  | .brk => .pure (.done .next)
  | .ret v => .pure (.done (.ret v))
noncomputable def forH (env : Env) : Value → Sem Fin := fun e => (do noteFrame e env; theTreesLotGoes e : Sem Unit).wrap (fun _ => .raise e) .raise id id

theorem seg1_forLoop {t : Expr} {it : Value} {body : List Stmt}
    (h : wpAny (model prog w) (A.over (.forLoop t it body [] env) fs) (pyNext it) (fun r s₁ => match r with
      | none => Seg1 (model prog w) A Rt Sy (.block [] env) ((model prog w).den (.block [] env)) fs s₁
      | some v => wpAny (model prog w) (A.over (.forLoop t it body [] env) fs) (letOwnedTupleGo t it v) (fun _ s₂ => wpAny (model prog w) (A.over (.forLoop t it body [] env) fs) (assign t env v) (fun _ s₃ =>
          Seg1 (model prog w) A Rt Sy (.forLoop t it body [] env) ((execs body env).wrap (forK t it body env) (forH env) id id) fs s₃) No s₂) No s₁) No s) :
    Seg1 (model prog w) A Rt Sy (.forLoop t it body [] env) ((model prog w).den (.forLoop t it body [] env)) fs s := by
  show Seg1 _ A Rt Sy _ ((forTurn t it body [] env).onRaise (fun x => do noteFrame x env; theTreesLotGoes x)) fs s
  have e : forTurn t it body [] env = (do
    standAt t.pos
    let r ← (pyNext it).onRaise (fun _ => standAt { t.pos with line := 0 })
    match r with
    | none => again (.block [] env)
    | some v =>
      letOwnedTupleGo t it v
      assign t env v
      let f ← execs body env
      forK t it body env f) := by
    unfold forTurn
    congr 1
  rw [e, Sem.onRaise_eq_wrap]
  refine seg1_at ?_
  show Seg1 _ A Rt Sy _ ((((pyNext it).onRaise (fun _ => standAt { t.pos with line := 0 })) >>= _).wrap _ _ _ _) fs s
  rw [Sem.bind_eq_wrap', Sem.wrap_wrap]
  refine seg1_wrap (wpAny_onRaise (wpAny_mono h (fun r s₁ h₁ => ?_) fun _ _ q => q.elim))
  cases r with
  | none => exact seg1_again rfl h₁
  | some v =>
    show Seg1 _ A Rt Sy _ ((letOwnedTupleGo t it v >>= _).wrap _ _ _ _) fs s₁
    rw [Sem.bind_eq_wrap', Sem.wrap_wrap]
    refine seg1_wrap (wp_no h₁ fun _ s₂ h₂ => ?_)
    show Seg1 _ A Rt Sy _ ((assign t env v >>= _).wrap _ _ _ _) fs s₂
    rw [Sem.bind_eq_wrap', Sem.wrap_wrap]
    refine seg1_wrap (wp_no h₂ fun _ s₃ h₃ => ?_)
    show Seg1 _ A Rt Sy _ ((execs body env >>= _).wrap _ _ _ _) fs s₃
    rw [Sem.bind_eq_wrap', Sem.wrap_wrap]
    rw [Sem.wrap_congr (execs body env) _ _ (K' := forK t it body env) (H' := forH env) (fun f => by cases f <;> rfl)
      (fun e => by first | exact Sem.bind_eq_wrap _ _ | (show (do noteFrame e env; theTreesLotGoes e : Sem Unit).bind (fun _ => .raise e) = _; rw [Sem.bind_eq_wrap]; rfl))]
    exact h₃

theorem seg1_block {stmts : List Stmt} (h : Seg1 (model prog w) A Rt Sy (.block stmts env) ((execs stmts env).wrap (fun f => .pure (.done f)) (forH env) id id) fs s) :
    Seg1 (model prog w) A Rt Sy (.block stmts env) ((model prog w).den (.block stmts env)) fs s := by
  show Seg1 _ A Rt Sy _ (((execs stmts env).onRaise (fun x => do noteFrame x env; theTreesLotGoes x)) >>= fun f => .pure (.done f)) fs s
  rw [Sem.onRaise_eq_wrap, Sem.bind_eq_wrap', Sem.wrap_wrap]
  rw [Sem.wrap_congr (execs stmts env) _ _ (K' := fun f => .pure (.done f)) (H' := forH env) (fun f => by rfl)
      (fun e => by
        show Sem.wrap _ _ _ _ ((do noteFrame e env; theTreesLotGoes e : Sem Unit).bind fun _ => .raise e) = _
        rw [Sem.bind_eq_wrap, Sem.wrap_wrap]; rfl)]
  exact h

theorem seg1_func {body : List Stmt}
    (h : Seg1 (model prog w) A Rt Sy (.func body env) ((execs body env).wrap (fun f => .pure (.done (.ret (match f with | .ret v => v | _ => .none))))
      (fun e => (leaving env e).wrap (fun _ => .raise e) .raise id id) id id) fs s) :
    Seg1 (model prog w) A Rt Sy (.func body env) ((model prog w).den (.func body env)) fs s := by
  show Seg1 _ A Rt Sy _ (.point [] fun _ => ((execs body env).onRaise (leaving env)) >>= _) fs s
  refine seg1_point ?_
  rw [Sem.onRaise_eq_wrap, Sem.bind_eq_wrap', Sem.wrap_wrap]
  rw [Sem.wrap_congr (execs body env) _ _ (K' := fun f => .pure (.done (.ret (match f with | .ret v => v | _ => .none))))
    (H' := fun e => (leaving env e).wrap (fun _ => .raise e) .raise id id) (fun f => by cases f <;> rfl)
    (fun e => by rw [Sem.bind_eq_wrap, Sem.wrap_wrap]; rfl)]
  exact h

/-- the generator is asked for its next item -/
theorem pyNext_gen1 {a : Addr} {g : Nat} {gs : GenState} {Q : Option Value → Shared → Prop} {E : Value → Shared → Prop} (hh : A.handled = none) (hl : s.heap.NoLimit) (hroom : A.depth < recursionLimit)
    (hg : s.heap.IsGen a g) (hgs : s.gens[g]? = some gs)
    (hgo : Goes1 (model prog w) A.in1 (fun r s₁ => r = .ok (.ret .none) ∧ Rt r s₁) Sy gs (s.setGen g .running))
    (hY : ∀ v s₁ gs', Sy v s₁ gs' → Q (some v) (s₁.setGen g gs'))
    (hP : ∀ s₁, Rt (.ok (.ret .none)) s₁ → ∀ h', (∀ b o, s₁.heap.get? b = some o → h'.get? b = some o) → Q none { s₁.setGen g .finished with heap := h' }) :
    wpAny (model prog w) A (pyNext (.ref a)) Q E s := by
  unfold pyNext
  refine wpAny_bind (wpAny_attempt (wpAny_callSpecial?_slot (name := Str.ofString "__next__") hg.typeIs slot_gen_next
    (wpAny_call_entry slot_gen_next hg.typeIs entry_gen_next ?_ (args_gen_next _))))
  show wpAny _ _ (Builtin.Generator.genWake (.ref a) (.send .none)) _ _ s
  unfold Builtin.Generator.genWake
  refine wpAny_bind (wpAny_holding (wpAny_genNumber hg (wpAny_bind (wpAny_genState hgs ?_))))
  cases gs with
  | running => exact hgo.elim
  | finished => exact hgo.elim
  | _ =>
    refine wpAny_bind (wpAny_roomToWake hl hroom ?_)
    show wpAny _ _ (.resume g (.send .none) [] _) _ _ s
    refine resume1 hgs hgo (fun x s₁ hx => ?_) (fun v s₁ gs' hv => ?_)
    · obtain ⟨rfl, hp⟩ := hx
      show wpAny _ _ (newExc (.type "StopIteration") [] >>= _) _ _ _
      refine wpAny_bind ?_
      simp only [newExc, newTuple]
      refine wpAny_bind (wpAny_newObj_type ?_ (by size_fits))
      refine wpAny_bind (m := firstArgMember _ _) (wpAny_of_eq (a := Value.none) (by first | rfl | (simp only [firstArgMember]; rfl)) ?_)
      refine wpAny_newObj_type ?_ (by size_fits)
      simp only [raiseNew]
      refine wpAny_bind (wpAny_bind (wpAny_handled ?_))
      rw [show A.in1.handled = none from hh]
      refine wpAny_throw ?_
      refine wpAny_bind (wpAny_isInstance (T := "StopIteration") (b := true) ⟨_, Heap.get?_push_size _ rfl, rfl⟩ isSubtype_stop ?_)
      exact wpAny_pure (hP s₁ hp _ fun b o hb => Heap.get?_push_of_some _ (Heap.get?_push_of_some _ hb))
    · exact wpAny_pure ⟨v, rfl, wpAny_pure (hY v s₁ gs' hv)⟩
end
end Mine
end
section
open PySem PySem.W PyProof.Rows PySem.Builtin PySem.Builtin.Str
set_option maxRecDepth 100000
namespace Mine
section
variable {prog : Program} {w : World} {A : Around} {h₀ hE : Heap} {mg mb : Str → Option Value}

/-- what others may do between two items -/
noncomputable def FrK (h₀ : Heap) (W : List Addr) (s s' : Shared) : Prop := ∃ X : Addr → Prop, (∀ b o, s.heap.get? b = some o → ¬ X b → s'.heap.get? b = some o) ∧ (∀ b its, X b → ¬ PTup s.heap b its) ∧ (∀ b ∈ W, ¬ X b) ∧ ∀ b o, h₀.get? b = some o → ¬ X b
theorem FrK.heap {W : List Addr} {s s' : Shared} (h : s'.heap = s.heap) : FrK h₀ W s s' := ⟨fun _ => False, fun b o e _ => by rw [h]; exact e, fun _ _ q => q.elim, fun _ _ q => q, fun _ _ _ q => q⟩
theorem FrK.trans {W : List Addr} {s s' s'' : Shared} (x : FrK h₀ W s s') (y : FrK h₀ W s' s'') : FrK h₀ W s s'' := by
  obtain ⟨X, x1, x2, x3, x4⟩ := x
  obtain ⟨Y, y1, y2, y3, y4⟩ := y
  refine ⟨fun b => X b ∨ Y b, fun b o e q => y1 b o (x1 b o e fun q' => q (.inl q')) fun q' => q (.inr q'), fun b its q t => ?_, fun b hb q => q.elim (x3 b hb) (y3 b hb), fun b o e q => q.elim (x4 b o e) (y4 b o e)⟩
  by_cases hx : X b
  · exact x2 b its hx t
  · obtain ⟨m, e⟩ := t
    exact y2 b its (q.resolve_left hx) ⟨m, x1 b _ e hx⟩

/-- a generator that has these items left -/
noncomputable def GnGood (prog : Program) (w : World) (A : Around) (h₀ : Heap) : List D → List Addr → Shared → GenState → Prop
  | [], W, s, gs => gs.bare = true ∧ ∀ s', FrK h₀ W s s' → Goes1 (model prog w) A.in1 (fun r s₁ => r = .ok (.ret .none) ∧ Chd W none s' s₁) (fun _ _ _ => False) gs s'
  | d :: r, W, s, gs => gs.bare = true ∧ ∀ s', FrK h₀ W s s' → Goes1 (model prog w) A.in1 (fun r _ => r = .ok (.ret .none) ∧ False) (fun v s₁ gs' => Rd prog w s₁.heap d v [] ∧ Chd W none s' s₁ ∧
      ∃ W', (∀ b ∈ W', (b ∈ W ∨ s'.heap.get? b = none) ∧ (∃ o, s₁.heap.get? b = some o) ∧ ∀ its, ¬ PTup s₁.heap b its) ∧ GnGood prog w A h₀ r W' s₁ gs') gs s'
theorem GnGood.bare {r : List D} {W : List Addr} {s : Shared} {gs : GenState} (h : GnGood prog w A h₀ r W s gs) : gs.bare = true := by
  cases r <;> exact h.1
theorem GnGood.fr {r : List D} {W : List Addr} {s s' : Shared} {gs : GenState} (h : GnGood prog w A h₀ r W s gs) (f : FrK h₀ W s s') : GnGood prog w A h₀ r W s' gs := by
  cases r <;> exact ⟨h.1, fun s'' f' => h.2 s'' (f.trans f')⟩

theorem gens_set {s : Shared} {g i : Nat} {x : GenState} {y : GenState} (hi : i ≠ g) (h : s.gens[i]? = some y) : (s.setGen g x).gens[i]? = some y := by
  show (s.gens.setIfInBounds g x)[i]? = some y
  rw [Array.getElem?_setIfInBounds_ne (Ne.symm hi)]; exact h
theorem bare_set {s : Shared} {g : Nat} {x : GenState} (h : AllBare s.gens) (hx : x.bare = true) : AllBare (s.setGen g x).gens := by
  intro y hy
  obtain ⟨i, hi⟩ := Array.mem_iff_getElem?.mp hy
  have hi : (s.gens.setIfInBounds g x)[i]? = some y := hi
  by_cases e : i = g
  · subst e
    rw [Array.getElem?_setIfInBounds] at hi
    split at hi
    · split at hi
      · cases hi; exact hx
      · cases hi
    · exact h y (Array.mem_iff_getElem?.mpr ⟨i, hi⟩)
  · rw [Array.getElem?_setIfInBounds_ne (Ne.symm e)] at hi
    exact h y (Array.mem_iff_getElem?.mpr ⟨i, hi⟩)

theorem Itr.ofGen (hh : A.handled = none) (hroom : A.depth < recursionLimit) (hlim : h₀.NoLimit) {a : Addr} {g : Nat} {its : List D} {t : Bool} :
    Itr prog w A h₀ t (.ref a) its (fun i W s => ∃ Wg, W = a :: Wg ∧ a ∉ Wg ∧ s.heap.IsGen a g ∧ Kp h₀ s ∧ (∀ b ∈ Wg, (∃ o, s.heap.get? b = some o) ∧ ∀ its, ¬ PTup s.heap b its) ∧ (∀ b ∈ W, h₀.get? b = none) ∧
      ∃ gs, s.gens[g]? = some gs ∧ GnGood prog w A h₀ (its.drop i) Wg s gs) [] (some g) where
  item := fun i W s d target st hd ht => by
    obtain ⟨Wg, rfl, ha, hg, K, hW, h0, gs, hgs, hgo⟩ := st
    have hdrop : its.drop i = d :: its.drop (i + 1) := by
      obtain ⟨hlt, e⟩ := List.getElem?_eq_some_iff.mp hd
      rw [List.drop_eq_getElem_cons hlt, e]
    rw [hdrop] at hgo
    refine pyNext_gen1 hh (hlim.keeps K) hroom hg hgs (hgo.2 _ (FrK.heap rfl)) (fun v s₁ gs' q => ?_) (fun _ q => q.elim)
    obtain ⟨rd, k, W', hW', hg'⟩ := q
    obtain ⟨o, nm, qn, ho, hc, hd', hs'⟩ := id hg
    have ho₁ : s₁.heap.get? a = some o := k.keep a o ha ho
    refine ⟨v, rfl, letGo_other (nm := "generator") (o := o) ho₁ hc (by decide) ?_⟩
    have hglt : g < s.gens.size := (Array.getElem?_eq_some_iff.mp hgs).1
    have hrun : (s.setGen g .running).gens[g]? = some .running := setGen_self hgs
    have hg1 : s₁.gens[g]? = some .running := k.gens g .running (by simp) hrun
    refine ⟨⟨fun b o hb e => k.keep b o (fun q => hb (List.mem_cons_of_mem _ q)) e, k.os, fun j x hj e => ?_, fun q => bare_set (k.bare (bare_set q rfl)) hg'.bare⟩, rd, a :: W', ⟨W', rfl, fun q => ?_, ⟨o, nm, qn, ho₁, hc, hd', hs'⟩, fun b o e => k.keep b o (fun q => ?_) (K b o e), fun b q => (hW' b q).2, fun b q => ?_, gs', setGen_self hg1, hg'.fr (FrK.heap rfl)⟩, fun b q => ?_⟩
    · have hj : j ≠ g := fun q => hj (by rw [q])
      exact gens_set hj (k.gens j x (by simp) (gens_set hj e))
    · rcases (hW' a q).1 with q | q
      · exact ha q
      · rw [show (s.setGen g .running).heap.get? a = some o from ho] at q; cases q
    · rw [h0 b (List.mem_cons_of_mem _ q)] at e; cases e
    · rcases List.mem_cons.mp q with rfl | q
      · exact h0 b (by simp)
      · rcases (hW' b q).1 with q | q
        · exact h0 b (List.mem_cons_of_mem _ q)
        · cases e : h₀.get? b with
          | none => rfl
          | some o => rw [show (s.setGen g .running).heap.get? b = some o from K b o e] at q; cases q
    · rcases List.mem_cons.mp q with rfl | q
      · exact .inl (by simp)
      · rcases (hW' b q).1 with q | q
        · exact .inl (List.mem_cons_of_mem _ q)
        · exact .inr q
  done := fun W s st => by
    obtain ⟨Wg, rfl, ha, hg, K, hW, h0, gs, hgs, hgo⟩ := st
    rw [List.drop_length] at hgo
    refine pyNext_gen1 (Rt := fun _ s₁ => Chd Wg none (s.setGen g .running) s₁) hh (hlim.keeps K) hroom hg hgs (hgo.2 _ (FrK.heap rfl)) (fun v s₁ gs' q => q.elim) (fun s₁ k h' hk => ?_)
    refine ⟨rfl, fun b o hb e => hk b o (k.keep b o (fun q => hb (List.mem_cons_of_mem _ q)) e), k.os, fun j x hj e => ?_, fun q => bare_set (k.bare (bare_set q rfl)) rfl⟩
    have hj : j ≠ g := fun q => hj (by rw [q])
    exact gens_set hj (k.gens j x (by simp) (gens_set hj e))
  frame := fun i W s s' X st hk hX hW hR hg h0X => by
    obtain ⟨Wg, rfl, ha, hgn, K, hWg, h0, gs, hgs, hgo⟩ := st
    obtain ⟨o, nm, qn, ho, r⟩ := hgn
    refine ⟨Wg, rfl, ha, ⟨o, nm, qn, hk a o ho (hW a (by simp)), r⟩, fun b o e => hk b o (K b o e) (h0X b o e), fun b q => ?_, h0, gs, hg g gs rfl hgs, hgo.fr ⟨X, hk, hX, fun b q => hW b (List.mem_cons_of_mem _ q), h0X⟩⟩
    obtain ⟨⟨ob, hob⟩, q2⟩ := hWg b q
    have := hk b ob hob (hW b (List.mem_cons_of_mem _ q))
    refine ⟨⟨ob, this⟩, fun its ⟨m, e⟩ => q2 its ⟨m, ?_⟩⟩
    rw [this] at e; cases e; exact hob
  wr := fun i W s st b hb => by
    obtain ⟨Wg, rfl, ha, hgn, K, hWg, h0, gs, hgs, hgo⟩ := st
    rcases List.mem_cons.mp hb with rfl | hb
    · obtain ⟨o, nm, qn, ho, hc, _⟩ := hgn
      refine ⟨⟨o, ho⟩, fun its ⟨m, e⟩ => ?_⟩
      rw [ho] at e; cases e; exact absurd hc (by simp)
    · exact hWg b hb
  rr := fun i W s st b hb => nomatch hb
  self := fun i W s st => by
    obtain ⟨Wg, rfl, ha, hgn, _⟩ := st
    exact wpAny_pyIter_gen hgn ⟨rfl, rfl⟩
end
end Mine
end
section
open PySem PySem.W PyProof.Rows PySem.Builtin PySem.Builtin.Str
set_option maxRecDepth 100000
namespace Mine
section
variable {prog : Program} {w : World} {A : Around} {h₀ hE : Heap} {mg mb : Str → Option Value}
variable {I : Addr} {all : List D} {St : Nat → List Addr → Shared → Prop} {R : List Addr} {g : Option Nat} {Rr : Result → Shared → Prop}

noncomputable def LObj (acc : List Value) (c : Nat) : Obj := { cls := .type "list", dict := none, data := .seq acc.toArray c, slots := #[] }
theorem LObj.plain {h : Heap} {S : Addr} {acc : List Value} {c : Nat} (e : h.get? S = some (LObj acc c)) : h.PlainList S acc.toArray := ⟨c, e⟩

theorem wp_skip {M : Model} {α : Type} {m : Sem Unit} (hm : m = pure ()) {t : Sem α} {Q : α → Shared → Prop} {E : Value → Shared → Prop} {s : Shared} (h : wpAny M A m (fun _ s' => wpAny M A t Q E s') E s) : wpAny M A t Q E s := by
  have e : t = m >>= fun _ => t := by rw [hm]; rfl
  rw [e]; exact wpAny_bind h

theorem list_loop (It : Itr prog w A.in1 h₀ false (.ref I) all St R g) (hlen : all.length ≤ lim) (S : Addr) (hR : ∀ b ∈ R, b ≠ S) (hS0 : h₀.get? S = none) (res : Value) :
    ∀ (k i : Nat) (W : List Addr) (s : Shared) (acc : List Value) (c : Nat), all.length - i = k → i ≤ all.length → St i W s → S ∉ W → s.heap.get? S = some (LObj acc c) → Rds prog w s.heap (all.take i) acc [] →
    (∀ s' acc' c', Chd (S :: W) g s s' → s'.heap.get? S = some (LObj acc' c') → Rds prog w s'.heap all acc' [] → Rr (.ok (.ret res)) s') →
    codeAny (model prog w) A (.builtin "list.extend.loop" ⟨[.ref S, .ref I, res], []⟩) Rr s := by
  intro k
  induction k with
  | zero =>
    intro i W s acc c hk hi st hSW hS hacc hRr
    have hin : i = all.length := by exact ar238 hk hi
    subst hin
    rw [List.take_length] at hacc
    refine codeAny_builtin F.entry_extend_loop ?_
    rw [Around.under_plainId F.plain_extend_loop _]
    show wpAny _ A.in1 (pyNext (.ref I) >>= _) _ _ s
    refine wpAny_bind (wp_no (It.done W s st) fun r s' q => ?_)
    obtain ⟨rfl, hm⟩ := q
    refine wpAny_pure (hRr s' acc c ⟨fun b o hb e => hm.keep b o (fun q => hb (List.mem_cons_of_mem _ q)) e, hm.os, hm.gens, hm.bare⟩ (hm.keep S _ hSW hS) ?_)
    exact Rds.keepBut (fp := []) (X := (· ∈ W)) (fun b o e hb => hm.keep b o hb e) (fun b its hb => (It.wr _ W s st b hb).2 its) (fun _ q => nomatch q) hacc
  | succ k ih =>
    intro i W s acc c hk hi st hSW hS hacc hRr
    have hlt : i < all.length := by exact ar205 hk
    obtain ⟨d, hd⟩ : ∃ d, all[i]? = some d := ⟨_, List.getElem?_eq_getElem hlt⟩
    refine codeAny_builtin F.entry_extend_loop ?_
    rw [Around.under_plainId F.plain_extend_loop _]
    show wpAny _ A.in1 (pyNext (.ref I) >>= _) _ _ s
    refine wpAny_bind (wp_no (It.item i W s d (.Name "x" ⟨0, 0, 0, 0⟩) st hd ⟨_, _, rfl⟩) fun r s₁ q => ?_)
    obtain ⟨v, rfl, q⟩ := q
    refine wp_skip (m := letOwnedTupleGo (.Name "x" ⟨0, 0, 0, 0⟩) (.ref I) v) rfl (wp_no q fun _ s' q => ?_)
    obtain ⟨hm, rd, W', st', hW'⟩ := q
    have hS' : s'.heap.get? S = some (LObj acc c) := hm.keep S _ hSW hS
    have hacc' := Rds.keepBut (fp := []) (X := (· ∈ W)) (fun b o e hb => hm.keep b o hb e) (fun b its hb => (It.wr _ W s st b hb).2 its) (fun _ q => nomatch q) hacc
    show wpAny _ A.in1 (updateSeq S (·.push v) >>= _) _ _ _
    have hSW' : S ∉ W' := fun q => by
      rcases hW' S q with q | q
      · exact hSW q
      · rw [q] at hS; cases hS
    have hsz : acc.length = i := by rw [hacc.length, List.length_take]; exact ar239 hlt
    have hsz2 : acc.toArray.size ≤ sizeLine := by rw [List.size_toArray, hsz]; exact lim_line (by exact ar240 hlen hlt)
    refine wpAny_bind ?_
    have hX : ∀ b its, b = S → ¬ PTup s'.heap b its := by rintro b its rfl; exact list_not_tup (LObj.plain hS')
    refine wpAny_updateSeq hS' rfl (wpAny_pure ⟨plainId_quiet F.plain_extend_loop _, ?_⟩) hsz2 (by show (acc.toArray.push v).size ≤ sizeLine + 1; rw [Array.size_push]; exact ar135 hsz2)
    have hoth : ∀ b o, s'.heap.get? b = some o → ¬ b = S → (s'.heap.update S (Obj.mapSeq (·.push v))).get? b = some o := fun b o e hb => (Heap.get?_update_other _ _ (Ne.symm hb)).trans e
    have hself : (s'.heap.update S (Obj.mapSeq (·.push v))).get? S = some (LObj (acc ++ [v]) (c + 1)) := by
      rw [Heap.get?_update_self _ hS' rfl]
      simp [LObj, Obj.mapSeq]
    refine ih (i + 1) W' _ (acc ++ [v]) (c + 1) (by exact ar206 hk) hlt (It.frame _ _ s' _ (· = S) st' hoth hX (fun b q q2 => hSW' (q2 ▸ q)) hR (fun _ _ _ e => e) (fun b o e q => by rw [q, hS0] at e; cases e)) hSW' hself ?_ fun s'' acc' c' hm2 hS2 hacc2 => ?_
    · have ht : all.take (i + 1) = all.take i ++ [d] := by rw [List.take_add_one, hd]; rfl
      rw [ht]
      have r1 := Rds.keepBut (fp := []) hoth hX (fun _ q => nomatch q) hacc'
      have r2 := Rd.keepBut (fp := []) hoth hX (fun _ q => nomatch q) rd
      exact Rds.append r1 (b := [d]) (ws := [v]) (g := []) ⟨v, [], [], [], rfl, rfl, r2, rfl, rfl⟩
    · refine hRr s'' acc' c' ⟨fun b o hb e => ?_, hm2.os.trans hm.os, fun j x hj e => hm2.gens j x hj (hm.gens j x hj e), fun q => hm2.bare (hm.bare q)⟩ hS2 hacc2
      simp only [List.mem_cons, not_or] at hb
      have e1 := hm.keep b o hb.2 e
      refine hm2.keep b o ?_ (hoth b o e1 hb.1)
      simp only [List.mem_cons, not_or]
      refine ⟨hb.1, fun q => ?_⟩
      rcases hW' b q with q | q
      · exact hb.2 q
      · rw [q] at e; cases e

theorem list_extend (It : Itr prog w A.in1 h₀ false (.ref I) all St R g) (hlen : all.length ≤ lim) (hT : ∀ i W s, St i W s → s.TypeIs (.ref I) "generator") (S : Addr) (hR : ∀ b ∈ R, b ≠ S) (hS0 : h₀.get? S = none) (res : Value) (c₀ : Nat)
    {W : List Addr} {s : Shared} (hst : St 0 W s) (hSW : S ∉ W) (hSI : S ≠ I) (hS : s.heap.get? S = some (LObj [] c₀))
    (hRr : ∀ s' acc' c', Chd (S :: W) g s s' → s'.heap.get? S = some (LObj acc' c') → Rds prog w s'.heap all acc' [] → Rr (.ok (.ret res)) s') :
    wpAny (model prog w) A.in1 (Builtin.List.listExtendWith (.ref S) (.ref I) res)
      (fun fin s' => match fin with | .done f => Rr (.ok f) s' | .again c' => c'.quiet = true ∧ codeAny (model prog w) A c' Rr s') (fun e s' => Rr (.error e) s') s := by
  unfold Builtin.List.listExtendWith
  refine wpAny_bind (wpAny_typeOf (hT 0 W _ hst) ?_)
  have h1 : Builtin.List.listSameRef (.ref S) (.ref I) = false := by simp [Builtin.List.listSameRef, hSI]
  have h2 : (Value.type "generator" == Value.type "list") = false := by decide
  have h3 : (Value.type "generator" == Value.type "tuple") = false := by decide
  simp only [h1, h2, h3, Bool.or_false, Bool.false_eq_true, if_false]
  refine wpAny_bind (wp_no (It.self 0 W s hst) fun it' s' q => ?_)
  obtain ⟨rfl, rfl⟩ := q
  refine wpAny_bind (wpAny_holding ?_)
  unfold Builtin.List.listLengthHint
  refine wpAny_bind (wpAny_specialOf (hT 0 W _ hst) F.gen_no_len ?_)
  show wpAny _ A.in1 (specialOf (Value.ref I) (Str.ofString "__length_hint__") >>= _) _ _ _
  refine wpAny_bind (wpAny_specialOf (hT 0 W _ hst) F.gen_no_hint ?_)
  refine wpAny_pure ?_
  show wpAny _ A.in1 (rule "list.extend.makes-room" >>= fun _ => Builtin.List.listTouch (.ref S) >>= fun _ =>
    again (.builtin "list.extend.loop" ⟨[.ref S, .ref I, res], []⟩)) _ _ _
  refine wpAny_bind (wpAny_rule ?_)
  refine wpAny_bind ?_
  show wpAny _ A.in1 (updateSeq S (·.push .none) >>= fun _ => updateSeq S (·.pop)) _ _ _
  refine wpAny_bind (wpAny_updateSeq hS rfl ?_)
  have hS₂ := Heap.get?_update_self (Obj.mapSeq (·.push Value.none)) hS rfl
  refine wpAny_updateSeq (hz := by seq_fits) hS₂ rfl ?_
  have hS₃ := Heap.get?_update_self (Obj.mapSeq (·.pop)) hS₂ rfl
  have oth : ∀ b o, b ≠ S → s'.heap.get? b = some o → ((s'.heap.update S (Obj.mapSeq (·.push Value.none))).update S (Obj.mapSeq (·.pop))).get? b = some o :=
    fun b o hb e => (Heap.get?_update_other _ _ (Ne.symm hb)).trans ((Heap.get?_update_other _ _ (Ne.symm hb)).trans e)
  have hX : ∀ b its, b = S → ¬ PTup s'.heap b its := by rintro b its rfl; exact list_not_tup (LObj.plain hS)
  refine wpAny_pure ⟨plainId_quiet F.plain_extend_loop _, list_loop It hlen S hR hS0 res _ 0 W _ [] _ rfl (Nat.zero_le _)
    (It.frame 0 W s' _ (· = S) hst (fun b o e q => oth b o q e) hX (fun b q q2 => hSW (q2 ▸ q)) hR (fun _ _ _ e => e) (fun b o e q => by rw [q, hS0] at e; cases e)) hSW hS₃ ⟨rfl, rfl⟩ fun s'' acc' c' hm hS' hacc => ?_⟩
  refine hRr s'' acc' c' ⟨fun b o hb e => hm.keep b o hb (oth b o (fun q => hb (by simp [q])) e), hm.os, hm.gens, hm.bare⟩ hS' hacc

theorem list_init (It : Itr prog w A.in1 h₀ false (.ref I) all St R g) (hlen : all.length ≤ lim) (hT : ∀ i W s, St i W s → s.TypeIs (.ref I) "generator") (S : Addr) (hR : ∀ b ∈ R, b ≠ S) (hS0 : h₀.get? S = none)
    {W : List Addr} {s : Shared} (hst : St 0 W s) (hSW : S ∉ W) (hSI : S ≠ I) (hS : s.heap.get? S = some (LObj [] 0))
    (hRr : ∀ s' acc' c', Chd (S :: W) g s s' → s'.heap.get? S = some (LObj acc' c') → Rds prog w s'.heap all acc' [] → Rr (.ok (.ret .none)) s') :
    wpAny (model prog w) A.in1 (Builtin.«list.__init__» ⟨[.ref S, .ref I], []⟩)
      (fun fin s' => match fin with | .done f => Rr (.ok f) s' | .again c' => c'.quiet = true ∧ codeAny (model prog w) A c' Rr s') (fun e s' => Rr (.error e) s') s := by
  show wpAny _ A.in1 (do let old ← Builtin.List.listItems (.ref S); Builtin.List.listUpdate (.ref S) (fun _ => #[]); letGo old.toList.reverse; Builtin.List.listExtendWith (.ref S) (.ref I) .none) _ _ s
  refine wpAny_bind ?_
  unfold Builtin.List.listItems
  refine wpAny_bind (wpAny_seqItems hS rfl (wpAny_pure ?_))
  show wpAny _ A.in1 (updateSeq S (fun _ => #[]) >>= fun _ => letGo (#[] : Array Value).toList.reverse >>= fun _ => Builtin.List.listExtendWith (.ref S) (.ref I) .none) _ _ s
  refine wpAny_bind (wpAny_updateSeq hS rfl ?_)
  have hS₂ := Heap.get?_update_self (Obj.mapSeq (fun _ => (#[] : Array Value))) hS rfl
  have oth : ∀ b o, b ≠ S → s.heap.get? b = some o → (s.heap.update S (Obj.mapSeq (fun _ => (#[] : Array Value)))).get? b = some o :=
    fun b o hb e => (Heap.get?_update_other _ _ (Ne.symm hb)).trans e
  have hX : ∀ b its, b = S → ¬ PTup s.heap b its := by rintro b its rfl; exact list_not_tup (LObj.plain hS)
  refine wpAny_bind (wpAny_letGo ?_)
  refine list_extend It hlen hT S hR hS0 .none _ (It.frame 0 W s _ (· = S) hst (fun b o e q => oth b o q e) hX (fun b q q2 => hSW (q2 ▸ q)) hR (fun _ _ _ e => e) (fun b o e q => by rw [q, hS0] at e; cases e)) hSW hSI hS₂ fun s' acc' c' hm hS' hacc => ?_
  refine hRr s' acc' c' ⟨fun b o hb e => hm.keep b o hb (oth b o (fun q => hb (by simp [q])) e), hm.os, hm.gens, hm.bare⟩ hS' hacc

/-- list(generator) -/
theorem list_itr {E : Value → Shared → Prop} (It : Itr prog w A.in1.in1 h₀ false (.ref I) all St [] g) (hlen : all.length ≤ lim) (hT : ∀ i W s, St i W s → s.TypeIs (.ref I) "generator") {W : List Addr} {s : Shared} (K : Kp h₀ s) (hst : St 0 W s) (hIW : I ∈ W) {Q : Value → Shared → Prop}
    (hQ : ∀ s' S acc, (∀ b o, b ∉ W → s.heap.get? b = some o → s'.heap.get? b = some o) → s'.os = s.os → (∀ (i : Nat) (x : GenState), some i ≠ g → s.gens[i]? = some x → s'.gens[i]? = some x) → (AllBare s.gens → AllBare s'.gens) → s.heap.get? S = none → s'.heap.PlainList S (List.toArray acc) → Rds prog w s'.heap all acc [] → Q (.ref S) s') :
    wpAny (model prog w) A (call (.type "list") [.ref I]) Q E s := by
  have hSW : s.heap.objs.size ∉ W := fun q => by
    obtain ⟨o, ho⟩ := (It.wr 0 W s hst _ q).1
    rw [fresh_size] at ho; cases ho
  have hS0 : h₀.get? s.heap.objs.size = none := by
    cases e : h₀.get? s.heap.objs.size with
    | none => rfl
    | some o => have := K _ o e; rw [fresh_size] at this; cases this
  refine callType_codes (Q₁ := fun obj s₁ => obj = .ref s.heap.objs.size ∧ s₁ = { s with heap := s.heap.push { cls := .type "list", data := .seq #[] } }) F.called_list (F.typeCall_list_1 _) F.entry_list_init
    (code_list_new _ ⟨rfl, rfl⟩) fun obj s₁ h₁ => ?_
  obtain ⟨rfl, rfl⟩ := h₁
  have hS : (s.heap.push { cls := .type "list", data := .seq #[] }).get? s.heap.objs.size = some { cls := .type "list", data := .seq #[] } := Heap.get?_push_size _ rfl
  refine ⟨⟨_, hS, rfl⟩, F.args_list_init_2 _ _, list_init It hlen hT _ (fun _ q => nomatch q) hS0 (It.frame 0 W s _ (fun _ => False) hst (fun b o e _ => Heap.get?_push_of_some _ e) (fun _ _ q => q.elim) (fun _ _ q => q) (fun _ q => nomatch q) (fun _ _ _ e => e) (fun _ _ _ q => q)) hSW (fun q => hSW (q ▸ hIW)) hS fun s' acc' c' hm hS' hacc => ?_⟩
  refine ⟨rfl, hQ s' _ acc' (fun b o hb e => hm.keep b o ?_ (Heap.get?_push_of_some _ e)) hm.os hm.gens hm.bare (fresh_size _) (LObj.plain hS') hacc⟩
  simp only [List.mem_cons, not_or]
  exact ⟨Nat.ne_of_lt (Heap.lt_size e), hb⟩
end
end Mine
end
section
open PySem PySem.W PyProof.Rows PySem.Builtin PySem.Builtin.Str
set_option maxRecDepth 100000
namespace Mine

noncomputable def gst (a : List Nat) (p : Int) (e : Bool) (c : Option Nat) : Store :=
  ([("addr", D.str a), ("pos", D.int p), ("escape", D.bool e)] : Store) ++ (match c with | some c => ([("ch", D.str [c])] : Store) | none => [])

noncomputable def gmd : List Str := ["pos", "escape", "ch"]
/-- what the generator's lines do -/
structure GFacts (prog : Program) (w : World) (h₀ : Heap) (mg mb : Str → Option Value) (sc : Scope) (st1 st2 : Stmt) (t e1 y1 : Expr) (st3 : Stmt) (e2 : Expr) (st4 : Stmt) (y2 e3 y3 : Expr) : Prop where
  s1 : ∀ A, GlOk prog w A h₀ mg mb → ∀ a, ExN prog w A h₀ sc [] gmd st1 ([("addr", D.str a)] : Store) ([("addr", D.str a), ("pos", D.int 0)] : Store)
  s2 : ∀ A, GlOk prog w A h₀ mg mb → ∀ a, ExN prog w A h₀ sc [] gmd st2 ([("addr", D.str a), ("pos", D.int 0)] : Store) (gst a 0 false none)
  tt : isTupleT t = true
  tm : ∀ x ∈ tnames t, x ∈ gmd
  bt : ∀ a p e c j d, BindR sc t (.tuple [.int j, .str [d]]) (gst a p e c) (gst a j e (some d))
  e1 : ∀ A, GlOk prog w A h₀ mg mb → ∀ a p e c, EvBS prog w A h₀ sc e1 (gst a p e (some c)) e
  y1 : ∀ A, GlOk prog w A h₀ mg mb → ∀ a p e c, EvS prog w A h₀ sc y1 (gst a p e (some c)) (.tuple [.int p, .str [92, c]]) []
  s3 : ∀ A, GlOk prog w A h₀ mg mb → ∀ a p e c, ExN prog w A h₀ sc [] gmd st3 (gst a p e (some c)) (gst a p false (some c))
  e2 : ∀ A, GlOk prog w A h₀ mg mb → ∀ a p e c, EvBS prog w A h₀ sc e2 (gst a p e (some c)) (c == 92)
  s4 : ∀ A, GlOk prog w A h₀ mg mb → ∀ a p e c, ExN prog w A h₀ sc [] gmd st4 (gst a p e (some c)) (gst a p true (some c))
  y2 : ∀ A, GlOk prog w A h₀ mg mb → ∀ a p e c, EvS prog w A h₀ sc y2 (gst a p e (some c)) (.tuple [.int p, .str [c]]) []
  e3 : ∀ A, GlOk prog w A h₀ mg mb → ∀ a p e c, EvBS prog w A h₀ sc e3 (gst a p e c) e
  y3 : ∀ A, GlOk prog w A h₀ mg mb → ∀ a p e c, EvS prog w A h₀ sc y3 (gst a p e c) (.tuple [.int p, .str [92]]) []

section
variable {prog : Program} {w : World} {A : Around} {h₀ hE : Heap} {mg mb : Str → Option Value}

noncomputable def RtOf (its : List D) (W₀ : List Addr) (s₀ : Shared) (r : Result) (s₁ : Shared) : Prop := match its with
  | [] => r = .ok (.ret .none) ∧ Chd W₀ none s₀ s₁
  | _ :: _ => r = .ok (.ret .none) ∧ False
noncomputable def SyOf (prog : Program) (w : World) (A : Around) (h₀ : Heap) (its : List D) (W₀ : List Addr) (s₀ : Shared) (v : Value) (s₁ : Shared) (gs' : GenState) : Prop := match its with
  | [] => False
  | d :: r => Rd prog w s₁.heap d v [] ∧ Chd W₀ none s₀ s₁ ∧ ∃ W', (∀ b ∈ W', (b ∈ W₀ ∨ s₀.heap.get? b = none) ∧ (∃ o, s₁.heap.get? b = some o) ∧ ∀ its, ¬ PTup s₁.heap b its) ∧ GnGood prog w A h₀ r W' s₁ gs'
theorem gnGood_of {its : List D} {W : List Addr} {s : Shared} {gs : GenState} (hb : gs.bare = true) (h : ∀ s', FrK h₀ W s s' → Goes1 (model prog w) A.in1 (RtOf its W s') (SyOf prog w A h₀ its W s') gs s') : GnGood prog w A h₀ its W s gs := by
  cases its <;> exact ⟨hb, h⟩

structure CkW (W₀ : List Addr) (s₀ : Shared) (W : List Addr) (s : Shared) : Prop where
  chd : Chd W₀ none s₀ s
  sub : ∀ b ∈ W, b ∈ W₀ ∨ s₀.heap.get? b = none
theorem CkW.refl (W : List Addr) (s : Shared) : CkW W s W s := ⟨Chd.refl _ _ _, fun _ q => .inl q⟩
theorem CkW.step {W₀ W W' X : List Addr} {s₀ s s' : Shared} (c : CkW W₀ s₀ W s) (k : Chd X none s s') (hX : ∀ b ∈ X, b ∈ W) (hW : ∀ b ∈ W', b ∈ W ∨ s.heap.get? b = none) : CkW W₀ s₀ W' s' := by
  refine ⟨⟨fun b o hb e => k.keep b o (fun q => ?_) (c.chd.keep b o hb e), k.os.trans c.chd.os, fun i x hi e => k.gens i x hi (c.chd.gens i x hi e), fun q => k.bare (c.chd.bare q)⟩, fun b q => ?_⟩
  · rcases c.sub b (hX b q) with q | q
    · exact hb q
    · rw [q] at e; cases e
  · rcases hW b q with q | q
    · exact c.sub b q
    · by_cases q' : b ∈ W₀
      · exact .inl q'
      · refine .inr ?_
        cases e : s₀.heap.get? b with
        | none => rfl
        | some o => rw [c.chd.keep b o q' e] at q; cases q

theorem gst_im {a : List Nat} {p : Int} {e : Bool} {c : Option Nat} {x : Str} {d : D} (h : (gst a p e c).get x = some d) : d.im = true := by
  unfold gst at h
  cases c <;> simp only [List.cons_append, List.nil_append, List.append_nil, Store.get_cons] at h
  all_goals
    by_cases h1 : x = Str.ofString "addr"
    · rw [if_pos h1] at h; cases h; rfl
    rw [if_neg h1] at h
    by_cases h2 : x = Str.ofString "pos"
    · rw [if_pos h2] at h; cases h; rfl
    rw [if_neg h2] at h
    by_cases h3 : x = Str.ofString "escape"
    · rw [if_pos h3] at h; cases h; rfl
    rw [if_neg h3] at h
  · cases h
  · by_cases h4 : x = Str.ofString "ch"
    · rw [if_pos h4] at h; cases h; rfl
    rw [if_neg h4] at h
    cases h

/-- a frame of plain values -/
theorem Rep.frame_im {env : Env} {s s' : Shared} {ρ : Store} {X : Addr → Prop} (R : Rep prog w h₀ env [] s ρ) (him : ∀ x d, ρ.get x = some d → d.im = true) (hcl : env.cells = []) (hk : ∀ b o, s.heap.get? b = some o → ¬ X b → s'.heap.get? b = some o)
    (hX : ∀ b its, X b → ¬ PTup s.heap b its) (hL : ¬ X env.locals) (h0 : ∀ b o, h₀.get? b = some o → ¬ X b) : Rep prog w h₀ env [] s' ρ := by
  have nomut : ∀ {x a h}, ¬ Hold ρ env h x a := fun {x a h} ⟨⟨d, hd, hm⟩, _⟩ => by
    have := him x d hd
    cases d <;> simp [D.mut, D.im] at *
  refine ⟨fun b o e => hk b o (R.kp b o e) (h0 b o e), ns_kept hk hL R.ns, R.lnew, fun x c hc => (by rw [hcl] at hc; cases hc), R.apart, fun x d e => ?_, fun x y a p => absurd p nomut, fun x a p => absurd p nomut, fun x a p => absurd p nomut⟩
  obtain ⟨a, v, fp, b, c⟩ := R.vars x d e
  have hfp := Rd.im_fp (him x d e) c
  subst hfp
  exact ⟨a, v, [], b.keepBut hk hL (.inr fun c hc => by rw [hcl] at hc; cases hc), Rd.keepBut hk hX (fun _ q => nomatch q) c⟩

variable {sc : Scope} {st1 st2 st3 st4 : Stmt} {t e1 y1 e2 y2 e3 y3 : Expr} {env : Env} {a : List Nat} {Sti : Nat → List Addr → Shared → Prop} {Wi : List Addr} {it : Value}

structure GI (prog : Program) (w : World) (h₀ : Heap) (env : Env) (a : List Nat) (Sti : Nat → List Addr → Shared → Prop) (Wi : List Addr) (p : Int) (e : Bool) (c : Option Nat) (j : Nat) (s : Shared) : Prop where
  rep : Rep prog w h₀ env [] s (gst a p e c)
  st : Sti j Wi s

structure GStat (prog : Program) (w : World) (h₀ : Heap) (env : Env) (a : List Nat) (Sti : Nat → List Addr → Shared → Prop) (Wi : List Addr) (it : Value) : Prop where
  itr : ∀ A : Around, A.handled = none → Itr prog w A h₀ true it (Mine.numbered 0 (a.map fun c => .str [c])) Sti [] none
  wi : ∀ b ∈ Wi, b ≠ env.locals ∧ h₀.get? b = none
  same : ∀ i W s, Sti i W s → W = Wi
  cl : env.cells = []

theorem GI.frame (G : GStat prog w h₀ env a Sti Wi it) {p : Int} {e : Bool} {c : Option Nat} {j : Nat} {s s' : Shared} (I : GI prog w h₀ env a Sti Wi p e c j s) (f : FrK h₀ (env.locals :: Wi) s s') : GI prog w h₀ env a Sti Wi p e c j s' := by
  obtain ⟨X, x1, x2, x3, x4⟩ := f
  exact ⟨I.rep.frame_im (fun x d => gst_im) G.cl x1 x2 (x3 _ (by simp)) x4, (G.itr ({} : Around) rfl).frame j Wi s s' X I.st x1 x2 (fun b q => x3 b (by simp [q])) (fun _ q => nomatch q) (fun _ _ q => by cases q) x4⟩

theorem GI.ext (G : GStat prog w h₀ env a Sti Wi it) {p : Int} {e : Bool} {c : Option Nat} {j : Nat} {s s' : Shared} (I : GI prog w h₀ env a Sti Wi p e c j s) (f : Ext s s') : GI prog w h₀ env a Sti Wi p e c j s' :=
  I.frame G ⟨fun _ => False, fun b o e _ => f.keep b o e, fun _ _ q => q.elim, fun _ _ q => q, fun _ _ _ q => q⟩

/-- a line without a yield -/
theorem GI.line (G : GStat prog w h₀ env a Sti Wi it) {p p' : Int} {e e' : Bool} {c c' : Option Nat} {j : Nat} {s s' : Shared} {md : List Str} (I : GI prog w h₀ env a Sti Wi p e c j s) (R : Rep prog w h₀ env [] s' (gst a p' e' c')) (T : Tr env md s (gst a p e c) s' (gst a p' e' c')) :
    GI prog w h₀ env a Sti Wi p' e' c' j s' ∧ Chd [env.locals] none s s' := by
  have hown : ∀ b, Own md (gst a p e c) env s.heap b → b = env.locals := fun b q => by
    rcases q with q | ⟨x, q⟩ | ⟨x, _, ⟨d, hd, hm⟩, _⟩
    · exact q
    · rw [G.cl] at q; cases q
    · have := gst_im hd
      cases d <;> simp [D.mut, D.im] at *
  have hk : ∀ b o, s.heap.get? b = some o → ¬ b = env.locals → s'.heap.get? b = some o := fun b o e q => T.keep b o e fun q' => q (hown b q')
  refine ⟨⟨R, (G.itr ({} : Around) rfl).frame j Wi s s' (· = env.locals) I.st hk (fun b its q => by subst q; exact ns_not_tup I.rep.ns) (fun b q q2 => (G.wi b q).1 q2) (fun _ q => nomatch q) (fun _ _ q => by cases q) (fun b o e q => by rw [q, I.rep.lnew] at e; cases e)⟩, ⟨fun b o hb e => hk b o e (by simpa using hb), T.os, fun i x _ e => T.gens i x e, T.bare⟩⟩

theorem GI.there (G : GStat prog w h₀ env a Sti Wi it) {p : Int} {e : Bool} {c : Option Nat} {j : Nat} {s : Shared} (I : GI prog w h₀ env a Sti Wi p e c j s) : ∀ b ∈ env.locals :: Wi, (∃ o, s.heap.get? b = some o) ∧ ∀ its, ¬ PTup s.heap b its := fun b q => by
  rcases List.mem_cons.mp q with rfl | q
  · refine ⟨?_, fun its => ns_not_tup I.rep.ns⟩
    obtain ⟨m, o, _, _, ho, _⟩ := I.rep.ns
    exact ⟨o, ho⟩
  · exact (G.itr ({} : Around) rfl).wr j Wi s I.st b q
end
end Mine
end
section
open PySem PySem.W PyProof.Rows PySem.Builtin PySem.Builtin.Str
set_option maxRecDepth 100000
namespace Mine
section
variable {prog : Program} {w : World} {A : Around} {h₀ hE : Heap} {mg mb : Str → Option Value}
variable {sc : Scope} {st1 st2 st3 st4 : Stmt} {t e1 y1 e2 y2 e3 y3 : Expr} {env : Env} {a : List Nat} {Sti : Nat → List Addr → Shared → Prop} {Wi : List Addr} {it : Value}

noncomputable def K0 : Flow → Sem Fin := fun f => .pure (.done (.ret (match f with | .ret v => v | _ => .none)))
noncomputable def H0 (env : Env) : Value → Sem Fin := fun e => (leaving env e).wrap (fun _ => .raise e) .raise id id
noncomputable def frm (env : Env) (K : Flow → Sem Fin) (gb : List Stmt) (p : Pos) : Frame := .ret (forCont env K (H0 env) id id) none false [] (.func gb env) p []

theorem gen_line (S : GStat prog w h₀ env a Sti Wi it) (O : EnvOk sc env) {st : Stmt} {p p' : Int} {b b' : Bool} {c c' : Option Nat} {j : Nat} {s : Shared} (h : ExN prog w A h₀ sc [] gmd st (gst a p b c) (gst a p' b' c')) (I : GI prog w h₀ env a Sti Wi p b c j s) :
    wpAny (model prog w) A (exec st env) (fun f s' => f = .next ∧ GI prog w h₀ env a Sti Wi p' b' c' j s' ∧ Chd [env.locals] none s s') No s :=
  wp_no (h h₀ env s O (fun _ _ e => e) I.rep) fun f s' q => ⟨q.1, I.line S q.2.1 q.2.2⟩

structure GInv (prog : Program) (w : World) (h₀ : Heap) (env : Env) (ρ : Store) (W1 : List Addr) (Inv : Shared → Prop) : Prop where
  frame : ∀ s s', Inv s → FrK h₀ W1 s s' → Inv s'
  rep : ∀ s, Inv s → Rep prog w h₀ env [] s ρ
  there : ∀ s, Inv s → ∀ b ∈ W1, (∃ o, s.heap.get? b = some o) ∧ ∀ its, ¬ PTup s.heap b its
theorem GInv.of (S : GStat prog w h₀ env a Sti Wi it) (p : Int) (e : Bool) (c : Option Nat) (j : Nat) : GInv prog w h₀ env (gst a p e c) (env.locals :: Wi) (GI prog w h₀ env a Sti Wi p e c j) :=
  ⟨fun _ _ I f => I.frame S f, fun _ I => I.rep, fun _ I => I.there S⟩
theorem GInv.bare (S : GStat prog w h₀ env a Sti Wi it) (p : Int) (e : Bool) (c : Option Nat) : GInv prog w h₀ env (gst a p e c) [env.locals] (fun s => Rep prog w h₀ env [] s (gst a p e c)) := by
  refine ⟨fun s s' I f => ?_, fun _ I => I, fun s I b q => ?_⟩
  · obtain ⟨X, x1, x2, x3, x4⟩ := f
    exact I.frame_im (fun x d => gst_im) S.cl x1 x2 (x3 _ (by simp)) x4
  · simp at q; subst q
    refine ⟨?_, fun its => ns_not_tup I.ns⟩
    obtain ⟨m, o, _, _, ho, _⟩ := I.ns
    exact ⟨o, ho⟩
theorem FrK.ext {W : List Addr} {s s' : Shared} (f : Ext s s') : FrK h₀ W s s' := ⟨fun _ => False, fun b o e _ => f.keep b o e, fun _ _ q => q.elim, fun _ _ q => q, fun _ _ _ q => q⟩

theorem gen_yield {B : Around} {d : D} {its : List D} {W₀ W1 : List Addr} {s₀ : Shared} {e : Expr} {ypos pos : Pos} {c : Code} {fs : List Frame} {K : Flow → Sem Fin} {H : Value → Sem Fin} {gd : Bool → Bool} {lv : List Value → List Value} {s : Shared} {ρ : Store} {Inv : Shared → Prop}
    (hB : B = A.in1) (O : EnvOk sc env) (hfs : splitAtGen fs = none) (hgd : gd false = false) (hfg : fs.any Frame.guarded = false) (hco : env.scope.isCoroutine = false)
    (him : d.im = true) (h : EvS prog w (B.over c fs) h₀ sc e ρ d []) (V : GInv prog w h₀ env ρ W1 Inv) (I : Inv s) (C : CkW W₀ s₀ W1 s)
    (hnext : ∀ s', Inv s' → Seg1 (model prog w) B (RtOf its W1 s') (SyOf prog w A h₀ its W1 s') c (K .next) fs s') :
    Seg1 (model prog w) B (RtOf (d :: its) W₀ s₀) (SyOf prog w A h₀ (d :: its) W₀ s₀) c ((exec (.Expr (.Yield (some e) ypos) pos) env).wrap K H gd lv) fs s := by
  subst hB
  refine seg1_Yield hfs hgd hfg (wp_no (h.run env s O (V.rep s I).kp (V.rep s I).vars) fun v s' q gs' hb hgo => ?_) hco (by unfold interactive; rw [O.kind]; rfl)
  obtain ⟨e1, fp, r, _, _⟩ := q
  have := Rd.im_fp him r
  subst this
  have I' := V.frame s s' I (FrK.ext e1)
  have C' := C.step e1.chd (X := []) (fun _ q => nomatch q) (fun b q => .inl q)
  refine ⟨r, C'.chd, W1, fun b q => ⟨C'.sub b q, V.there s' I' b q⟩, gnGood_of hb fun s'' f => hgo _ _ s'' (hnext s'' (V.frame s' s'' I' f))⟩

theorem gen_loop (F : GFacts prog w h₀ mg mb sc st1 st2 t e1 y1 st3 e2 st4 y2 e3 y3) (S : GStat prog w h₀ env a Sti Wi it) (O : EnvOk sc env) (hco : env.scope.isCoroutine = false) {gb : List Stmt} {p1 p2 p3 p4 p5 p6 p7 p8 p9 : Pos} {hh : A.handled = none}
    (G1 : GlOk prog w (A.in1.over (.func gb env) []) h₀ mg mb) (pf : Pos)
    {bd : List Stmt} (hbd : bd = [.If e1 [.Expr (.Yield (some y1) p1) p2, st3] [.If e2 [st4] [.Expr (.Yield (some y2) p3) p4] p5] p6])
    {K : Flow → Sem Fin} (hK : K .next = (execs [.If e3 [.Expr (.Yield (some y3) p7) p8] [] p9] env).wrap K0 (H0 env) id id)
    (G2 : GlOk prog w (A.in1.over (.forLoop t it bd [] env) [frm env K gb pf]) h₀ mg mb) :
    ∀ (r : List Nat) (j : Nat) (p : Int) (e : Bool) (c : Option Nat) (s₀ : Shared) (W₀ : List Addr) (s : Shared), a.drop j = r → j ≤ a.length → (0 < j → p = (j : Int) - 1) → (e = true → 0 < j) → GI prog w h₀ env a Sti Wi p e c j s → CkW W₀ s₀ (env.locals :: Wi) s →
      Seg1 (model prog w) A.in1 (RtOf (escF j e r) W₀ s₀) (SyOf prog w A h₀ (escF j e r) W₀ s₀) (.forLoop t it bd [] env) ((model prog w).den (.forLoop t it bd [] env)) [frm env K gb pf] s := by
  have hIt := S.itr (A.in1.over (.forLoop t it bd [] env) [frm env K gb pf]) G2.hnd
  intro r
  induction r with
  | nil =>
    intro j p e c s₀ W₀ s hdr hj hp he I C
    refine seg1_forLoop (wp_no (hIt.done Wi s ?_) fun r s₁ q => ?_)
    · have hjl : a.length = j := by have := List.drop_eq_nil_iff.mp hdr; exact ar242 hj this
      rw [numbered_length, List.length_map, hjl]
      exact I.st
    obtain ⟨rfl, k⟩ := q
    have I1 : Rep prog w h₀ env [] s₁ (gst a p e c) := I.rep.frame_im (X := (· ∈ Wi)) (fun x d => gst_im) S.cl (fun b o e q => k.keep b o q e) (fun b its q => (hIt.wr j Wi s I.st b q).2 its) (fun q => (S.wi _ q).1 rfl) (fun b o e q => by rw [(S.wi b q).2] at e; cases e)
    have C1 : CkW W₀ s₀ [env.locals] s₁ := C.step k (fun b q => List.mem_cons_of_mem _ q) (fun b q => .inl (by simp at q; simp [q]))
    refine seg1_block (seg1_execs_nil ?_)
    show Seg1 _ _ _ _ _ (leafOf (.ok .next)) (_ :: []) s₁
    refine seg1_leaf (.ok .next) ?_
    show Seg1 _ _ _ _ _ (K .next) [] s₁
    rw [hK]
    refine seg1_execs_cons (seg1_If ?_)
    refine wp_no (F.e3 _ G1 a p e c env s₁ O I1.kp I1.vars) fun b s₂ q => ?_
    obtain ⟨e2', rfl⟩ := q
    have I2 := (GInv.bare S p b c).frame s₁ s₂ I1 (FrK.ext e2')
    have C2 := C1.step e2'.chd (X := []) (W' := [env.locals]) (fun _ q => nomatch q) (fun b q => .inl q)
    cases b with
    | false =>
      refine seg1_execs_nil (seg1_execs_nil ?_)
      show Seg1 _ _ _ _ _ (leafOf (.ok (.ret .none))) [] s₂
      refine seg1_end _ ?_
      simp only [escF, Bool.false_eq_true, if_false]
      exact ⟨rfl, C2.chd⟩
    | true =>
      have hpj := hp (he rfl)
      have hes : escF j true [] = [.tuple [.int p, .str [92]]] := by simp [escF, hpj]
      rw [hes]
      rw [if_pos rfl]
      refine seg1_execs_cons ?_
      refine gen_yield (sc := sc) rfl O rfl rfl rfl hco rfl (F.y3 _ G1 a p true c) (GInv.bare S p true c) I2 C2 fun s₃ I3 => ?_
      refine seg1_execs_nil (seg1_execs_nil ?_)
      show Seg1 _ _ _ _ _ (leafOf (.ok (.ret .none))) [] s₃
      exact seg1_end _ ⟨rfl, Chd.refl _ _ _⟩
  | cons ch r ih =>
    intro j p e c s₀ W₀ s hdr hj hp he I C
    have hget := (drop_get hdr).1
    have hnum : (Mine.numbered 0 (a.map fun c => .str [c]))[j]? = some (.tuple [.int (j : Int), .str [ch]]) := by
      have : ∀ (ds : List D) (k i : Nat) (d : D), ds[i]? = some d → (Mine.numbered k ds)[i]? = some (.tuple [.int ((k + i : Nat) : Int), d]) := by
        intro ds
        induction ds with
        | nil => intro k i d h; simp at h
        | cons x ds ih =>
          intro k i d h
          cases i with
          | zero => simp at h; subst h; simp [Mine.numbered]
          | succ i =>
            have := ih (k + 1) i d (by simpa using h)
            simp only [Mine.numbered, List.getElem?_cons_succ, this]
            congr 3; congr 1; congr 1; exact ar8
      have := this (a.map fun c => .str [c]) 0 j (.str [ch]) (by rw [List.getElem?_map, hget]; rfl)
      simpa using this
    have hT : TgtOk true t := by
      have := F.tt
      cases t <;> simp [isTupleT] at this
      exact ⟨_, _, _, rfl⟩
    refine seg1_forLoop (wp_no (hIt.item j Wi s _ t I.st hnum hT) fun r' s₁ q => ?_)
    obtain ⟨v, rfl, q⟩ := q
    refine wp_no q fun _ s₁ q => ?_
    obtain ⟨k, rd, W', st', hW'⟩ := q
    have := S.same _ _ _ st'
    subst this
    have I1 : GI prog w h₀ env a Sti W' p e c (j + 1) s₁ := ⟨I.rep.frame_im (X := (· ∈ W')) (fun x d => gst_im) S.cl (fun b o e q => k.keep b o q e) (fun b its q => (hIt.wr j W' s I.st b q).2 its) (fun q => (S.wi _ q).1 rfl) (fun b o e q => by rw [(S.wi b q).2] at e; cases e), st'⟩
    have C1 : CkW W₀ s₀ (env.locals :: W') s₁ := C.step k (fun b q => List.mem_cons_of_mem _ q) (fun b q => .inl q)
    refine wp_no (bind_frame (md := gmd) G2.hnd O (F.bt a p e c j ch) F.tm I1.rep (Tr.refl env _ s₁ _) rd) fun _ s₂ q => ?_
    obtain ⟨I2, k2⟩ := I1.line S q.1 q.2
    have C2 : CkW W₀ s₀ (env.locals :: W') s₂ := C1.step k2 (fun b q => by simp at q; simp [q]) (fun b q => .inl q)
    have again : ∀ (e' : Bool) (s₀ : Shared) (W₀ : List Addr) (s' : Shared) (its : List D), its = escF (j + 1) e' r → GI prog w h₀ env a Sti W' j e' (some ch) (j + 1) s' → CkW W₀ s₀ (env.locals :: W') s' →
        Seg1 (model prog w) A.in1 (RtOf its W₀ s₀) (SyOf prog w A h₀ its W₀ s₀) (.forLoop t it bd [] env) (.pure (.again (.forLoop t it bd [] env))) [frm env K gb pf] s' := by
      rintro e' s₀ W₀ s' its rfl I' C'
      exact seg1_again rfl (ih (j + 1) j e' (some ch) s₀ W₀ s' (drop_get hdr).2 (drop_lt hdr) (fun _ => by simp) (fun _ => Nat.succ_pos _) I' C')
    subst hbd
    refine seg1_execs_cons (seg1_If ?_)
    refine wp_no (F.e1 _ G2 a j e ch env s₂ O I2.rep.kp I2.rep.vars) fun b s₃ q => ?_
    obtain ⟨e3', rfl⟩ := q
    have I3 := I2.ext S e3'
    have C3 := C2.step e3'.chd (X := []) (W' := env.locals :: W') (fun _ q => nomatch q) (fun b q => .inl q)
    cases b with
    | true =>
      rw [if_pos rfl]
      show Seg1 _ _ (RtOf (.tuple [.int (j : Int), .str [92, ch]] :: escF (j + 1) false r) W₀ s₀) (SyOf prog w A h₀ (.tuple [.int (j : Int), .str [92, ch]] :: escF (j + 1) false r) W₀ s₀) _ _ _ _
      refine seg1_execs_cons ?_
      refine gen_yield (sc := sc) rfl O rfl rfl rfl hco rfl (F.y1 _ G2 a j true ch) (GInv.of S j true (some ch) (j + 1)) I3 C3 fun s₄ I4 => ?_
      refine seg1_execs_cons (seg1_stmt (wp_no (gen_line S O (F.s3 _ G2 a j true ch) I4) fun f s₅ q => ?_))
      obtain ⟨rfl, I5, k5⟩ := q
      refine seg1_execs_nil (seg1_execs_nil ?_)
      exact again false _ _ _ _ rfl I5 ((CkW.refl _ _).step k5 (fun b q => by simp at q; simp [q]) (fun b q => .inl q))
    | false =>
      rw [if_neg (by decide)]
      refine seg1_execs_cons (seg1_If ?_)
      refine wp_no (F.e2 _ G2 a j false ch env s₃ O I3.rep.kp I3.rep.vars) fun b s₄ q => ?_
      obtain ⟨e4', rfl⟩ := q
      have I4 := I3.ext S e4'
      have C4 := C3.step e4'.chd (X := []) (W' := env.locals :: W') (fun _ q => nomatch q) (fun b q => .inl q)
      cases hc : ch == 92 with
      | true =>
        rw [if_pos rfl]
        have hes : escF j false (ch :: r) = escF (j + 1) true r := by simp [escF, hc]
        rw [hes]
        refine seg1_execs_cons (seg1_stmt (wp_no (gen_line S O (F.s4 _ G2 a j false ch) I4) fun f s₅ q => ?_))
        obtain ⟨rfl, I5, k5⟩ := q
        refine seg1_execs_nil (seg1_execs_nil (seg1_execs_nil ?_))
        exact again true _ _ _ _ rfl I5 (C4.step k5 (fun b q => by simp at q; simp [q]) (fun b q => .inl q))
      | false =>
        rw [if_neg (by decide)]
        have hes : escF j false (ch :: r) = .tuple [.int (j : Int), .str [ch]] :: escF (j + 1) false r := by simp [escF, hc]
        rw [hes]
        refine seg1_execs_cons ?_
        refine gen_yield (sc := sc) rfl O rfl rfl rfl hco rfl (F.y2 _ G2 a j false ch) (GInv.of S j false (some ch) (j + 1)) I4 C4 fun s₅ I5 => ?_
        refine seg1_execs_nil (seg1_execs_nil (seg1_execs_nil ?_))
        exact again false _ _ _ _ rfl I5 (CkW.refl _ _)
end
end Mine
end
section
open PySem PySem.W PyProof.Rows PySem.Builtin PySem.Builtin.Str
set_option maxRecDepth 100000
namespace Mine
section
variable {prog : Program} {w : World} {A : Around} {h₀ hE : Heap} {mg mb : Str → Option Value}

theorem iter_enum_any {E : Value → Shared → Prop} {s s₁ : Shared} {cs : List Nat} {tk : Tok} (e1 : Ext s s₁) :
    wpAny (model prog w) A (call (.type "enumerate") [.str ⟨cs.toArray⟩ tk]) (fun v s₂ => Ext s₁ s₂ ∧ wpAny (model prog w) A (pyIter v) (fun it s₃ => Ext s₂ s₃ ∧ ∃ St W, (∀ A : Around, A.handled = none → Itr prog w A h₀ true it (Mine.numbered 0 (cs.map fun c => .str [c])) St [] none) ∧ St 0 W s₃ ∧
      (∀ b ∈ W, s.heap.get? b = none) ∧ ∀ i W' s, St i W' s → W' = W) E s₂) E s₁ := by
  refine call_enumerate_str fun h' he hit hsz hk => ?_
  refine ⟨Ext.heap (tk := s₁.toks) hk, wpAny_pyIter_enum (s := { s₁ with heap := h' }) he ?_⟩
  have main : ∀ (T : String), T ≠ "tuple" → h'.IsStrIter s₁.heap.objs.size T ⟨cs.toArray⟩ tk 0 → (∀ A : Around, A.handled = none → Draws prog w A.in1 s₁.heap.objs.size [s₁.heap.objs.size] (Str.mk cs.toArray).cps.size (fun i v => ∃ c u, (Str.mk cs.toArray).cps[i]? = some c ∧ v = .str ⟨#[c]⟩ u) (fun i h => h.IsStrIter s₁.heap.objs.size T ⟨cs.toArray⟩ tk i)) →
      Ext { s₁ with heap := h' } { s₁ with heap := h' } ∧ ∃ St W, (∀ A : Around, A.handled = none → Itr prog w A h₀ true (.ref (s₁.heap.objs.size + 1)) (Mine.numbered 0 (cs.map fun c => .str [c])) St [] none) ∧ St 0 W { s₁ with heap := h' } ∧ (∀ b ∈ W, s.heap.get? b = none) ∧ ∀ i W' s, St i W' s → W' = W := fun T hT hit Dr => by
    refine ⟨Ext.refl _, _, [s₁.heap.objs.size + 1, s₁.heap.objs.size],
      fun A hA => Itr.ofDraws (Dr A hA) (Ex := fun _ => True) (by simp) (Nat.succ_ne_self _) (by simp) (by simp) (fun b hb => .inl (by simpa using hb)) (fun _ _ _ _ hb => (nomatch hb))
      (fun i h st => by obtain ⟨o, ho, hc, _⟩ := st; exact ⟨o, _, ho, hc, hT⟩) (fun _ _ _ _ _ _ => trivial)
      (fun i v h d hP ex hd => ?_), ⟨rfl, ⟨_, he⟩, hit, trivial⟩, fun b hb => ?_, fun i W' s st => st.1⟩
    · obtain ⟨c, u, hc, rfl⟩ := hP
      have hc' : cs[i]? = some c := by simpa using hc
      rw [List.getElem?_map, hc'] at hd
      cases hd
      exact ⟨⟨u, rfl⟩, rfl⟩
    · have : ∀ b, s₁.heap.objs.size ≤ b → s₁.heap.get? b = none := fun b hb' => by
        cases q : s₁.heap.get? b with
        | none => rfl
        | some o => exact absurd (Heap.lt_size q) (Nat.not_lt.mpr hb')
      simp at hb
      rcases hb with rfl | rfl
      · exact e1.fresh (this _ (Nat.le_succ _))
      · exact e1.fresh (this _ (Nat.le_refl _))
  cases ha : (Str.mk cs.toArray).cps.all (· < 128)
  · exact main "str_iterator" (by decide) (by unfold strIterType at hit; rw [ha] at hit; exact hit) (fun A hh => Draws.strWide (A := A.in1) hh _ _ _)
  · exact main "str_ascii_iterator" (by decide) (by unfold strIterType at hit; rw [ha] at hit; exact hit) (fun A hh => Draws.strAscii (A := A.in1) hh _ _ _)

variable {sc : Scope} {st1 st2 st3 st4 : Stmt} {t e1 y1 e2 y2 e3 y3 : Expr} {env : Env} {a : List Nat}

theorem rep_line (O : EnvOk sc env) (hcl : env.cells = []) {st : Stmt} {ρ ρ' : Store} {s : Shared} {md : List Str} (him : ∀ x d, ρ.get x = some d → d.im = true) (h : ExN prog w A h₀ sc [] md st ρ ρ') (R : Rep prog w h₀ env [] s ρ) :
    wpAny (model prog w) A (exec st env) (fun f s' => f = .next ∧ Rep prog w h₀ env [] s' ρ' ∧ Chd [env.locals] none s s') No s :=
  wp_no (h h₀ env s O (fun _ _ e => e) R) fun f s' q => by
    obtain ⟨q1, q2, T⟩ := q
    have hown : ∀ b, Own md ρ env s.heap b → b = env.locals := fun b q => by
      rcases q with q | ⟨x, q⟩ | ⟨x, _, ⟨d, hd, hm⟩, _⟩
      · exact q
      · rw [hcl] at q; cases q
      · have := him x d hd
        cases d <;> simp [D.mut, D.im] at *
    exact ⟨q1, q2, fun b o hb e => T.keep b o e fun q' => hb (by simp [hown b q']), T.os, fun i x _ e => T.gens i x e, T.bare⟩

theorem gl0_func (hg : h₀.Ns mainGlobals mg) (hb : h₀.Ns builtinsNs mb) (hblt : ∀ x ∈ builtins1, mg x = none ∧ mb x = bootBuiltins x) (hh : A.handled = none) (hr : A.units + 210 < cLine) (gb : List Stmt) : GlOk prog w (A.in1.over (.func gb env) []) h₀ mg mb :=
  ⟨hg, hb, hh, by show A.units + 1 + 0 + 3 + 200 < cLine; exact ar243 hr, hblt⟩
theorem gl0_loop (hg : h₀.Ns mainGlobals mg) (hb : h₀.Ns builtinsNs mb) (hblt : ∀ x ∈ builtins1, mg x = none ∧ mb x = bootBuiltins x) (hh : A.handled = none) (hr : A.units + 210 < cLine) (gb bd : List Stmt) (it : Value) (K : Flow → Sem Fin) (p : Pos) :
    GlOk prog w (A.in1.over (.forLoop t it bd [] env) [frm env K gb p]) h₀ mg mb :=
  ⟨hg, hb, hh, by show A.units + 1 + (3 + 0) + 0 + 200 < cLine; exact ar244 hr, hblt⟩

theorem gen_start (F : GFacts prog w h₀ mg mb sc st1 st2 t e1 y1 st3 e2 st4 y2 e3 y3) (hg : h₀.Ns mainGlobals mg) (hb : h₀.Ns builtinsNs mb) (hblt : ∀ x ∈ builtins1, mg x = none ∧ mb x = bootBuiltins x) (hh : A.handled = none) (hr : A.units + 210 < cLine)
    (O : EnvOk sc env) (hcl : env.cells = []) (hco : env.scope.isCoroutine = false) {gb : List Stmt} {p1 p2 p3 p4 p5 p6 p7 p8 p9 q1 q2 q3 q4 : Pos} (hen : globOk sc "enumerate" = true) (had : ∀ A, GlOk prog w A h₀ mg mb → EvS prog w A h₀ sc (.Name "addr" q2) (gst a 0 false none) (.str a) [])
    (hgb : gb = [st1, st2, .For t (.Call (.Name "enumerate" q1) [.Name "addr" q2] [] q3) [.If e1 [.Expr (.Yield (some y1) p1) p2, st3] [.If e2 [st4] [.Expr (.Yield (some y2) p3) p4] p5] p6] [] q4, .If e3 [.Expr (.Yield (some y3) p7) p8] [] p9])
    {s : Shared} (R : Rep prog w h₀ env [] s [("addr", D.str a)]) : GnGood prog w A h₀ (escF 0 false a) [env.locals] s (.fresh (.func gb env)) := by
  have him0 : ∀ x d, Store.get [("addr", D.str a)] x = some d → d.im = true := fun x d h => by
    rw [Store.get_cons] at h
    split at h
    · cases h; rfl
    · cases h
  have him1 : ∀ x d, Store.get [("addr", D.str a), ("pos", D.int 0)] x = some d → d.im = true := fun x d h => by
    rw [Store.get_cons, Store.get_cons] at h
    split at h
    · cases h; rfl
    · split at h
      · cases h; rfl
      · cases h
  refine gnGood_of rfl fun s' f => ?_
  obtain ⟨X, x1, x2, x3, x4⟩ := f
  have R0 := R.frame_im him0 hcl x1 x2 (x3 _ (by simp)) x4
  have G1 := gl0_func (prog := prog) (w := w) (A := A) (env := env) hg hb hblt hh hr gb
  show Seg1 _ _ _ _ (.func gb env) ((model prog w).den (.func gb env)) [] s'
  refine seg1_func ?_
  rw [hgb]
  refine seg1_execs_cons (seg1_stmt (wp_no (rep_line O hcl him0 (F.s1 _ (hgb ▸ G1) a) R0) fun f s₁ q => ?_))
  obtain ⟨rfl, R1, k1⟩ := q
  refine seg1_execs_cons (seg1_stmt (wp_no (rep_line O hcl him1 (F.s2 _ (hgb ▸ G1) a) R1) fun f s₂ q => ?_))
  obtain ⟨rfl, R2, k2⟩ := q
  have k12 := k1.trans k2
  refine seg1_execs_cons (seg1_For (fun x => rfl) ?_)
  rw [← hgb]
  refine Call_ (blt_name G1 hen O R2.kp (by simp [builtins1]) boot_enumerate ?_)
  refine callWith_t1 (fun _ _ q => by cases q) (wp_no ((had _ G1).run env s₂ O R2.kp R2.vars) fun v s₃ q => ?_)
  obtain ⟨e3', _, ⟨⟨tk, rfl⟩, rfl⟩, _⟩ := q
  refine wp_no (iter_enum_any (h₀ := h₀) e3') fun v s₄ q => ?_
  refine wp_no q.2 fun it s₅ q2 p => ?_
  obtain ⟨e5, Sti, Wi, hIt, hst, hW, hsame⟩ := q2
  have e25 := (e3'.trans q.1).trans e5
  have S : GStat prog w h₀ env a Sti Wi it := ⟨hIt, fun b hb => ⟨fun q => ?_, ?_⟩, hsame, hcl⟩
  · have I : GI prog w h₀ env a Sti Wi 0 false none 0 s₅ := ⟨R2.ext e25, hst⟩
    have C : CkW [env.locals] s' (env.locals :: Wi) s₅ := by
      have c0 : CkW [env.locals] s' [env.locals] s₂ := (CkW.refl _ _).step k12 (fun b q => q) (fun b q => .inl q)
      exact c0.step e25.chd (X := []) (fun _ q => nomatch q) (fun b q => by
        rcases List.mem_cons.mp q with rfl | q
        · exact .inl (by simp)
        · exact .inr (hW b q))
    exact gen_loop F S O hco (hh := hh) G1 p rfl rfl (gl0_loop hg hb hblt hh hr gb _ it _ p) a 0 0 false none s' [env.locals] s₅ rfl (Nat.zero_le _) (fun q => absurd q (Nat.lt_irrefl _)) (fun q => by cases q) I C
  · obtain ⟨m, o, _, _, ho, _⟩ := R2.ns
    rw [← q, hW b hb] at ho; cases ho
  · cases e : h₀.get? b with
    | none => rfl
    | some o => have := R2.kp b o e; rw [hW b hb] at this; cases this
end
end Mine
end
section
open PySem PySem.W PyProof.Rows PySem.Builtin PySem.Builtin.Str
set_option maxRecDepth 100000
namespace Mine
section
variable {prog : Program} {w : World} {A : Around} {h₀ hE : Heap} {mg mb : Str → Option Value}
variable {sc : Scope} {st1 st2 st3 st4 : Stmt} {t e1 y1 e2 y2 e3 y3 : Expr}

theorem gen_call (F : GFacts prog w h₀ mg mb sc st1 st2 t e1 y1 st3 e2 st4 y2 e3 y3) (hg : h₀.Ns mainGlobals mg) (hb : h₀.Ns builtinsNs mb) (hblt : ∀ x ∈ builtins1, mg x = none ∧ mb x = bootBuiltins x) (hlim : h₀.NoLimit) (hh : A.handled = none) (hr : A.units + 220 < cLine) (hroom : A.depth < recursionLimit)
    {gb : List Stmt} {p1 p2 p3 p4 p5 p6 p7 p8 p9 q1 q2 q3 q4 : Pos} (hen : globOk sc "enumerate" = true) (had : ∀ A, GlOk prog w A h₀ mg mb → ∀ a, EvS prog w A h₀ sc (.Name "addr" q2) (gst a 0 false none) (.str a) [])
    (hgb : gb = [st1, st2, .For t (.Call (.Name "enumerate" q1) [.Name "addr" q2] [] q3) [.If e1 [.Expr (.Yield (some y1) p1) p2, st3] [.If e2 [st4] [.Expr (.Yield (some y2) p3) p4] p5] p6] [] q4, .If e3 [.Expr (.Yield (some y3) p7) p8] [] p9])
    {name : Str} {params : Arguments} {pm cd doc : Value} {f : Addr} {o : Obj} (ho : h₀.get? f = some o) (hdata : o.data = .func (Calls.docDef name params gb sc pm cd doc)) (hcd : h₀.CodeRec cd name)
    (hbind : ∀ v : Value, bindArgs (Calls.docDef name params gb sc pm cd doc) ⟨[v], []⟩ = pure [(("addr" : Str), v)]) (hco : sc.isCoroutine = false) (hgen : sc.isGenerator = true) (hk : sc.kind = .function) (hnc : ∀ x ∈ sc.names, x.2 ≠ .cell) (hloc : sc.names.lookup ("addr" : Str) = some .local)
    {a : List Nat} {tk : Tok} {s : Shared} (K : Kp h₀ s) (hlen : (escF 0 false a).length ≤ lim) :
    wpAny (model prog w) A (call (.ref f) [.str ⟨a.toArray⟩ tk]) (fun v s' => Ext s s' ∧
      wpAny (model prog w) A (pyIter v) (fun it s'' => Ext s' s'' ∧ ∀ t ρ env bs, ItrAt prog w A h₀ t ρ env bs s (escF 0 false a) it s'') No s' ∧
      wpAny (model prog w) A (call (.type "list") [v]) (fun r s'' => New prog w s s'' (.list (escF 0 false a)) r) No s') No s := by
  refine wpAny_call (codeAny_call_generator (fd := Calls.docDef name params gb sc pm cd doc) hroom (K f o ho) hdata hco hgen rfl (hcd.keeps K) ?_)
  rw [hbind]
  refine wpAny_pure ?_
  refine wpAny_newFunctionEnv hnc (fun x hx => by simp at hx; subst hx; exact hloc) (fun h₁ hns hsb => ?_) hk
  have hnew : ∀ b, s.heap.objs.size ≤ b → s.heap.get? b = none := fun b hb => by
    cases e : s.heap.get? b with
    | none => rfl
    | some o => exact absurd (Heap.lt_size e) (Nat.not_lt.mpr hb)
  have hkeep : ∀ b o, s.heap.get? b = some o → h₁.get? b = some o := fun b o e => hsb.extBut b o (Nat.ne_of_lt (Heap.lt_size e)) (Heap.get?_push_of_some _ e)
  have hlim₁ : h₁.NoLimit := (hlim.keeps K).keeps hkeep
  refine ⟨hlim₁, ?_⟩
  have hsz : h₁.objs.size = s.heap.objs.size + 1 := by rw [hsb.1, Heap.size_push]
  generalize henv : newEnv (Calls.docDef name params gb sc pm cd doc).scope s.heap.objs.size (Calls.docDef name params gb sc pm cd doc).globals (Calls.docDef name params gb sc pm cd doc).closure ((Calls.docDef name params gb sc pm cd doc).qualname ++ ".<locals>.") (some f) (Calls.docDef name params gb sc pm cd doc).code none (Calls.docDef name params gb sc pm cd doc).builtins = env
  have hcl : env.cells = [] := by rw [← henv]; rfl
  have hL : env.locals = s.heap.objs.size := by rw [← henv]; rfl
  have hcoe : env.scope.isCoroutine = false := by rw [← henv]; exact hco
  have O : EnvOk sc env := by
    refine ⟨by rw [← henv]; rfl, by rw [← henv]; exact hk, hk, by rw [← henv]; rfl, by rw [← henv]; rfl, fun x hx => absurd rfl (hnc _ (mem_of_lookup hx))⟩
  have hk0 : ∀ b, s.heap.get? b = none → h₀.get? b = none := fun b q => by
    cases e : h₀.get? b with
    | none => rfl
    | some o => rw [K b o e] at q; cases q
  -- the new state
  have hR : ∀ (s' : Shared), (∀ b o, h₁.get? b = some o → s'.heap.get? b = some o) → Rep prog w h₀ env [] s' [("addr", D.str a)] := fun s' hk' => by
    have him0 : ∀ x d, Store.get [("addr", D.str a)] x = some d → x = ("addr" : Str) ∧ d = .str a := fun x d h => by
      rw [Store.get_cons] at h
      split at h
      · rename_i q; cases h; exact ⟨q, rfl⟩
      · cases h
    have nomut : ∀ {x b h}, ¬ Hold [("addr", D.str a)] env h x b := fun {x b h} ⟨⟨d, hd, hm⟩, _⟩ => by
      obtain ⟨_, rfl⟩ := him0 x d hd
      simp [D.mut] at hm
    have hns' : s'.heap.Ns env.locals (fun x => ([(("addr" : Str), Value.str ⟨a.toArray⟩ tk)] : List (Str × Value)).reverse.lookup x) := by rw [hL]; exact hns.keeps hk'
    refine ⟨fun b o e => hk' b o (hkeep b o (K b o e)), ⟨_, hns'⟩, by rw [hL]; exact hk0 _ (hnew _ (Nat.le_refl _)), fun x c hc => (by rw [hcl] at hc; cases hc), fun x y c hc => (by rw [hcl] at hc; cases hc), fun x d hx => ?_, fun x y b p => absurd p nomut, fun x b p => absurd p nomut, fun x b p => absurd p nomut⟩
    obtain ⟨rfl, rfl⟩ := him0 x d hx
    exact ⟨rfl, .str ⟨a.toArray⟩ tk, [], .inl ⟨by rw [O.kindOf]; exact hloc, _, hns', by simp⟩, ⟨tk, rfl⟩, rfl⟩
  have main : ∀ (nm qn : Value) (tk' : Nat), ∀ s' : Shared, s' = { s with heap := h₁.push { cls := .type "generator", data := .fields #[.int (s.gens.size : Nat) 0, nm, qn] }, gens := s.gens.push (.fresh (.func gb env)), toks := tk' } →
      Ext s s' ∧ wpAny (model prog w) A (pyIter (.ref h₁.objs.size)) (fun it s'' => Ext s' s'' ∧ ∀ t ρ env bs, ItrAt prog w A h₀ t ρ env bs s (escF 0 false a) it s'') No s' ∧
      wpAny (model prog w) A (call (.type "list") [.ref h₁.objs.size]) (fun r s'' => New prog w s s'' (.list (escF 0 false a)) r) No s' := by
    rintro nm qn tk' s' hs'
    have hheap : s'.heap = h₁.push { cls := .type "generator", data := .fields #[.int (s.gens.size : Nat) 0, nm, qn] } := by rw [hs']
    have hgens : s'.gens = s.gens.push (.fresh (.func gb env)) := by rw [hs']
    have hk1 : ∀ b o, h₁.get? b = some o → s'.heap.get? b = some o := fun b o e => by rw [hheap]; exact Heap.get?_push_of_some _ e
    have hE : Ext s s' := by
      refine ⟨fun b o e => hk1 b o (hkeep b o e), by rw [hs'], fun i x e => ?_, fun q => by rw [hgens]; exact q.push rfl⟩
      obtain ⟨hlt, e2⟩ := Array.getElem?_eq_some_iff.mp e
      rw [hgens, Array.getElem?_push_lt hlt, e2]
    have hIG : s'.heap.IsGen h₁.objs.size s.gens.size := ⟨_, nm, qn, by rw [hheap]; exact Heap.get?_push_size _ rfl, rfl, rfl, rfl⟩
    have hgs : s'.gens[s.gens.size]? = some (.fresh (.func gb env)) := by rw [hgens]; exact Array.getElem?_push_size ..
    have hR' := hR s' hk1
    have hK' : Kp h₀ s' := hR'.kp
    have hLthere : ∃ o, s'.heap.get? env.locals = some o := by obtain ⟨m, o, _, _, ho, _⟩ := hR'.ns; exact ⟨o, ho⟩
    have hne : h₁.objs.size ≠ env.locals := by rw [hL, hsz]; exact Nat.succ_ne_self _
    have hW : ∀ b ∈ [h₁.objs.size, env.locals], s.heap.get? b = none := fun b q => by
      simp only [List.mem_cons, List.not_mem_nil, or_false] at q
      rcases q with rfl | rfl
      · exact hnew _ (by rw [hsz]; exact Nat.le_succ _)
      · rw [hL]; exact hnew _ (Nat.le_refl _)
    have hStA : ∀ B : Around, B.handled = none → B.units + 210 < cLine → ∃ Wg, [h₁.objs.size, env.locals] = h₁.objs.size :: Wg ∧ h₁.objs.size ∉ Wg ∧ s'.heap.IsGen h₁.objs.size s.gens.size ∧ Kp h₀ s' ∧ (∀ b ∈ Wg, (∃ o, s'.heap.get? b = some o) ∧ ∀ its, ¬ PTup s'.heap b its) ∧ (∀ b ∈ [h₁.objs.size, env.locals], h₀.get? b = none) ∧
        ∃ gs, s'.gens[s.gens.size]? = some gs ∧ GnGood prog w B h₀ ((escF 0 false a).drop 0) Wg s' gs := fun B hB hBu =>
      ⟨[env.locals], rfl, by simpa using hne, hIG, hK', fun b q => by simp at q; subst q; exact ⟨hLthere, fun its => ns_not_tup hR'.ns⟩, fun b q => hk0 b (hW b q), _, hgs,
        gen_start F hg hb hblt hB hBu O hcl hcoe hen (fun A G => had A G a) hgb hR'⟩
    refine ⟨hE, wpAny_pyIter_gen hIG ⟨Ext.refl _, fun t ρ env' bs => ⟨_, [], [h₁.objs.size, env.locals], some s.gens.size, Itr.ofGen hh hroom hlim, hStA A hh (by exact ar245 hr), hW, fun _ q => (nomatch q), fun i q => ?_⟩⟩, ?_⟩
    · cases q
      exact Array.getElem?_eq_none (Nat.le_refl _)
    · have It := Itr.ofGen (prog := prog) (w := w) (A := A.in1.in1) (h₀ := h₀) (a := h₁.objs.size) (g := s.gens.size) (its := escF 0 false a) (t := false) hh hroom hlim
      refine list_itr It hlen (fun i W s st => by obtain ⟨_, _, _, q, _⟩ := st; exact q.typeIs) hK' (hStA A.in1.in1 hh (by show A.units + 1 + 1 + 210 < cLine; exact ar246 hr)) (by simp) fun s'' S acc k1 k2 k3 k4 hS hl hr' => ?_
      refine ⟨⟨fun b o e => k1 b o (fun q => by rw [hW b q] at e; cases e) (hE.keep b o e), k2.trans hE.os, fun i x e => k3 i x (fun q => ?_) (hE.gens i x e), fun q => k4 (hE.bare q)⟩, [S], ⟨S, acc, rfl, hl, hr', rfl⟩, by simp, fun b q => ?_⟩
      · cases q
        rw [Array.getElem?_eq_none (Nat.le_refl _)] at e; cases e
      · simp at q; subst q
        exact hE.fresh hS
  exact main _ _ _ _ rfl
end
end Mine
end
section
open PySem PySem.W PyProof.Rows PySem.Builtin PySem.Builtin.Str
set_option maxRecDepth 100000
namespace Mine
section
variable {prog : Program} {w : World} {A : Around} {h₀ hE : Heap} {mg mb : Str → Option Value}

/-- a call of a function of one text, its body by hand -/
theorem call_one {name x : Str} {params : Arguments} {body : List Stmt} {scope : Scope} {pm cd doc : Value} {a : Addr} {o : Obj} {cs : List Nat} {tk : Tok} {s : Shared} {Q : Value → Shared → Prop}
    (hroom : A.depth < recursionLimit) (ho : h₀.get? a = some o) (hdata : o.data = .func (Calls.docDef name params body scope pm cd doc)) (hlim : h₀.NoLimit) (hcd : h₀.CodeRec cd name)
    (hbind : ∀ v : Value, bindArgs (Calls.docDef name params body scope pm cd doc) ⟨[v], []⟩ = pure [(x, v)])
    (hco : scope.isCoroutine = false) (hgen : scope.isGenerator = false) (hk : scope.kind = .function) (hloc : scope.names.lookup x = some .local) (K : Kp h₀ s)
    (h : ∀ env s', EnvOk scope env → Rep prog w s.heap env [] s' ([(x, D.str cs)] : Store) → Ext s s' → wpAny (model prog w) (A.deeper env) (execs body env) (fun f s'' => ∃ v, f = .ret v ∧ Q v s'') No s') :
    wpAny (model prog w) A (call (.ref a) [.str ⟨cs.toArray⟩ tk]) Q No s := by
  refine wpAny_call ?_
  refine call_cells_ret (name := name) hroom (K a o ho) hdata (hlim.keeps K) (hcd.keeps K) (hbind _) (fun y hy => ?_) (fun h₁ t1 F X => ?_) hco hgen hk
  · simp at hy; subst hy; exact .inl hloc
  · have O : EnvOk scope (envOfC name scope s.heap.objs.size a cd) := ⟨rfl, hk, hk, rfl, rfl, fun y hy => Option.isSome_iff_exists.mp ((cellsFrom_some _ _ _).2 _ hy)⟩
    have hnew : ∀ b, s.heap.objs.size ≤ b → s.heap.get? b = none := fun b hb => by
      cases e : s.heap.get? b with
      | none => rfl
      | some o => exact absurd (Heap.lt_size e) (Nat.not_lt.mpr hb)
    have him0 : ∀ y d, Store.get ([(x, D.str cs)] : Store) y = some d → y = x ∧ d = .str cs := fun y d h => by
      rw [Store.get_cons] at h
      split at h
      · rename_i q; cases h; exact ⟨q, rfl⟩
      · cases h
    have nomut : ∀ {y b h}, ¬ Hold ([(x, D.str cs)] : Store) (envOfC name scope s.heap.objs.size a cd) h y b := fun {y b h} ⟨⟨d, hd, hm⟩, _⟩ => by
      obtain ⟨_, rfl⟩ := him0 y d hd
      simp [D.mut] at hm
    have hkx : (envOfC name scope s.heap.objs.size a cd).kindOf x = some .local := hloc
    have R : Rep prog w s.heap (envOfC name scope s.heap.objs.size a cd) [] { s with heap := h₁, toks := t1 } ([(x, D.str cs)] : Store) := by
      refine ⟨F.keep, ⟨_, F.ns⟩, hnew _ (Nat.le_refl _), fun y c hc => ⟨⟨_, X.cell y c hc⟩, hnew _ (Nat.le_of_lt (X.above y c (mem_of_lookup hc)))⟩, fun y z c h1 h2 => name_of_addr X.apart (mem_of_lookup h1) (mem_of_lookup h2), fun y d hy => ?_, fun y z b p => absurd p nomut, fun y b p => absurd p nomut, fun y b p => absurd p nomut⟩
      obtain ⟨rfl, rfl⟩ := him0 y d hy
      refine ⟨rfl, .str ⟨cs.toArray⟩ tk, [], .inl ⟨hkx, _, F.ns, ?_⟩, ⟨tk, rfl⟩, rfl⟩
      unfold bindL bindL
      rw [if_pos hkx]; simp
    refine wp_no (h _ _ O R (Ext.heap (tk := t1) F.keep)) fun f s'' q => ?_
    obtain ⟨v, rfl, q⟩ := q
    exact q

/-- in_table_b1 -/
theorem call_b1 {name x g : Str} {params : Arguments} {scope : Scope} {pm cd doc : Value} {a b1 : Addr} {o : Obj} {c : Nat} {tk : Tok} {s : Shared} {p1 p2 p3 p4 p5 p6 : Pos} {Sm : Int → Bool} {k : Nat}
    (G : ∀ env, GlOk prog w (A.deeper env) h₀ mg mb)
    (hroom : A.depth < recursionLimit) (ho : h₀.get? a = some o) (hdata : o.data = .func (Calls.docDef name params [.Return (some (.Compare (.Call (.Name "ord" p1) [.Name x p2] [] p3) [.In] [.Name g p4] p5)) p6] scope pm cd doc)) (hlim : h₀.NoLimit) (hcd : h₀.CodeRec cd name)
    (hbind : ∀ v : Value, bindArgs (Calls.docDef name params [.Return (some (.Compare (.Call (.Name "ord" p1) [.Name x p2] [] p3) [.In] [.Name g p4] p5)) p6] scope pm cd doc) ⟨[v], []⟩ = pure [(x, v)])
    (hco : scope.isCoroutine = false) (hgen : scope.isGenerator = false) (hk : scope.kind = .function) (hloc : scope.names.lookup x = some .local) (K : Kp h₀ s)
    (hev : ∀ env, EvS prog w (A.deeper env) h₀ scope (.Call (.Name "ord" p1) [.Name x p2] [] p3) ([(x, D.str [c])] : Store) (.int c) []) (hgg : globOk scope g = true) (hset : mg g = some (.ref b1)) (hS : h₀.SetOf (intKind prog w) b1 Sm k) :
    wpAny (model prog w) A (call (.ref a) [.str ⟨#[c]⟩ tk]) (fun v s' => New prog w s s' (.bool (Sm c)) v) No s := by
  refine call_one (cs := [c]) hroom ho hdata hlim hcd hbind hco hgen hk hloc K fun env s' O R E1 => ?_
  refine wpAny_execs_cons (wpAny_Return_some ?_)
  have K' : Kp h₀ s' := fun b o e => R.kp b o (K b o e)
  refine wpAny_Compare1 (wp_no ((hev env).run env s' O K' R.vars) fun v s₁ q => ?_) rfl
  obtain ⟨e1, _, ⟨⟨t, rfl⟩, rfl⟩, _⟩ := q
  refine glob_name (G env) hgg O (K'.ext e1) hset ?_
  have hS' : s₁.heap.SetOf (intKind prog w) b1 Sm k := by
    obtain ⟨o, es, ep, t, h1, r⟩ := hS
    exact ⟨o, es, ep, t, (K'.ext e1) b1 o h1, r⟩
  refine wpAny_inSet_of (knd := intKind prog w) (k := (c : Int)) (by simp [intKind, Value.isInt]) rfl hS' ⟨_, rfl, ?_⟩
  exact New.after (E1.trans e1) ⟨Ext.toks, [], ⟨rfl, rfl⟩, List.nodup_nil, fun _ q => nomatch q⟩
end
end Mine
end
section
open PySem
set_option maxRecDepth 100000
namespace Mine
open Sre

/-- m comes, after some turns, to m' -/
inductive Go : M → M → Nat → Prop
  | refl (m : M) : Go m m 0
  | step {m m' : M} {k : Nat} : m.outcome.isSome = false → Go m.step m' k → Go m m' (k + 1)
theorem Go.trans {a b c : M} {i j : Nat} (x : Go a b i) (y : Go b c j) : Go a c (i + j) := by
  induction x with
  | refl m => simpa using y
  | @step m m' k h _ ih => 
    have := Go.step h (ih y)
    rwa [show k + 1 + j = k + j + 1 by exact ar7]
theorem runFor_done {m : M} (h : m.outcome.isSome = true) : ∀ n, m.runFor n = m
  | 0 => rfl
  | n + 1 => by unfold M.runFor; rw [if_pos h]
theorem Go.runFor {m m' : M} {k : Nat} (g : Go m m' k) : ∀ n, k ≤ n → m'.outcome.isSome = true → m.runFor n = m' := by
  induction g with
  | refl m => intro n _ h; exact runFor_done h n
  | @step m m' k h _ ih =>
    intro n hn h'
    cases n with
    | zero => exact (ar208 hn).elim
    | succ n =>
      unfold M.runFor
      rw [h, if_neg (by decide)]
      exact ih n (by exact ar209 hn) h'
theorem runFor_succ (m : M) (n : Nat) : m.runFor (n + 1) = if m.outcome.isSome then m else M.runFor n m.step := rfl
theorem runFor_add (i j : Nat) : ∀ m : M, m.runFor (i + j) = (m.runFor i).runFor j := by
  induction i with
  | zero => intro m; simp [M.runFor]
  | succ i ih =>
    intro m
    rw [show i + 1 + j = (i + j) + 1 by exact ar7, runFor_succ, runFor_succ]
    split
    · rename_i h
      exact (runFor_done h j).symm
    · exact ih m.step

noncomputable def C1 : Array Nat := #[14, 4, 0, 1, 1, 6, 1, 16, 46, 1]
noncomputable def A1 (text : Array Nat) (s : Nat) (must first : Bool) (seen : Seen) : M :=
  { code := C1, text, lim := text.size, start := s, lastStart := text.size, mustAdvance := must, pc := 5, pos := s, handed := s, outermost := first, marks := #[], frames := [{ wait := .nextStart, pc := 5, pos := s, outermost := first }], weight := 1, seen }

theorem A1_at (text : Array Nat) (s : Nat) (must first : Bool) (seen : Seen) : ∃ seen', (A1 text s must first seen).step = { A1 text s must first seen' with pc := if s == 0 || text.getD (s - 1) 0 == 10 then 7 else 5, answer := if s == 0 || text.getD (s - 1) 0 == 10 then none else some false } := by
  refine ⟨(seen.add 6).add 44, ?_⟩
  show M.exec (A1 text s must first seen) = _
  unfold M.exec
  have e : ops[(A1 text s must first seen).word 0]? = some .AT := rfl
  rw [e]
  dsimp only
  have e2 : ({ A1 text s must first seen with seen := ((A1 text s must first seen).seen.add ((A1 text s must first seen).word 0)) } : M).isAt (({ A1 text s must first seen with seen := ((A1 text s must first seen).seen.add ((A1 text s must first seen).word 0)) } : M).word 1) = .ok (s == 0 || text.getD (s - 1) 0 == 10) := rfl
  rw [e2]
  dsimp only
  cases s == 0 || text.getD (s - 1) 0 == 10
  · rfl
  · rfl

noncomputable def hit1 (text : Array Nat) (s : Nat) : Bool := (s == 0 || text.getD (s - 1) 0 == 10) && decide (s < text.size) && text.getD s 0 == 46

theorem A1_lit (text : Array Nat) (s : Nat) (must first : Bool) (seen : Seen) : ∃ seen', ({ A1 text s must first seen with pc := 7 } : M).step =
    { A1 text s must first seen' with pc := if decide (s < text.size) && text.getD s 0 == 46 then 9 else 7, pos := if decide (s < text.size) && text.getD s 0 == 46 then s + 1 else s, answer := if decide (s < text.size) && text.getD s 0 == 46 then none else some false } := by
  refine ⟨seen.add 16, ?_⟩
  show M.exec ({ A1 text s must first seen with pc := 7 } : M) = _
  unfold M.exec
  have e : ops[({ A1 text s must first seen with pc := 7 } : M).word 0]? = some .LITERAL := rfl
  rw [e]
  dsimp only
  by_cases h : s < text.size
  · refine (if_neg (show ¬ (s ≥ text.size) from Nat.not_le.mpr h)).trans ?_
    rw [decide_eq_true h, Bool.true_and]
    have e2 : ∀ sn, accepts C1 7 (text.getD s 0) sn = .ok (text.getD s 0 == 46, sn) := fun _ => rfl
    show (match accepts C1 7 (text.getD s 0) (seen.add 16) with | .error why => _ | .ok (false, seen) => _ | .ok (true, seen) => _) = _
    rw [e2]
    cases text.getD s 0 == 46
    · rfl
    · rfl
  · refine (if_pos (show s ≥ text.size from Nat.not_lt.mp h)).trans ?_
    rw [decide_eq_false h, Bool.false_and]
    rfl

/-- an attempt that hits -/
theorem A1_hit (text : Array Nat) (s : Nat) (must first : Bool) (seen : Seen) (h : hit1 text s = true) :
    ∃ m', Go (A1 text s must first seen) m' 5 ∧ m'.outcome = some .matched ∧ m'.start = s ∧ m'.handed = s + 1 := by
  unfold hit1 at h
  simp only [Bool.and_eq_true] at h
  obtain ⟨⟨h1, h2⟩, h3⟩ := h
  obtain ⟨s1, e1⟩ := A1_at text s must first seen
  rw [if_pos h1, if_pos h1] at e1
  obtain ⟨s2, e2⟩ := A1_lit text s must first s1
  rw [h2, h3] at e2
  simp only [Bool.and_self, if_true] at e2
  -- the end of the code
  have e3 : ∃ seen', ({ A1 text s must first s2 with pc := 9, pos := s + 1, answer := none } : M).step = { A1 text s must first seen' with pc := 9, pos := s + 1, handed := s + 1, answer := some true } := by
    refine ⟨s2.add 1, ?_⟩
    show M.exec ({ A1 text s must first s2 with pc := 9, pos := s + 1, answer := none } : M) = _
    unfold M.exec
    have e : ops[({ A1 text s must first s2 with pc := 9, pos := s + 1, answer := none } : M).word 0]? = some .SUCCESS := rfl
    rw [e]
    dsimp only
    have hc : (first && ((false && (s + 1) != text.size) || (must && (s + 1) == s))) = false := by
      have : ((s + 1) == s) = false := by simp
      rw [this]; simp
    refine (if_neg ?_).trans rfl
    show ¬ ((first && ((false && (s + 1) != text.size) || (must && (s + 1) == s))) = true)
    rw [hc]; decide
  obtain ⟨s3, e3⟩ := e3
  have g1 : Go (A1 text s must first seen) ({ A1 text s must first s1 with pc := 7 } : M) 1 := .step rfl (by rw [e1]; exact .refl _)
  have g2 : Go ({ A1 text s must first s1 with pc := 7 } : M) ({ A1 text s must first s2 with pc := 9, pos := s + 1, answer := none } : M) 1 := .step rfl (by rw [e2]; exact .refl _)
  have g3 : Go ({ A1 text s must first s2 with pc := 9, pos := s + 1, answer := none } : M) ({ A1 text s must first s3 with pc := 9, pos := s + 1, handed := s + 1, answer := some true } : M) 1 := .step rfl (by rw [e3]; exact .refl _)
  have g4 := (g1.trans g2).trans g3
  exact ⟨_, g4.trans (.step rfl (.step rfl (.refl _))), rfl, rfl, rfl⟩

/-- an attempt that misses -/
theorem A1_miss (text : Array Nat) (s : Nat) (must first : Bool) (seen : Seen) (h : hit1 text s = false) :
    ∃ k seen', k ≤ 5 ∧ if s < text.size then Go (A1 text s must first seen) (A1 text (s + 1) false false seen') k else ∃ m', Go (A1 text s must first seen) m' k ∧ m'.outcome = some .failed := by
  have tail : ∀ pc pos handed sn, ∃ k seen', k ≤ 2 ∧ if s < text.size then Go ({ A1 text s must first sn with pc := pc, pos := pos, handed := handed, answer := some false } : M) (A1 text (s + 1) false false seen') k else
      ∃ m', Go ({ A1 text s must first sn with pc := pc, pos := pos, handed := handed, answer := some false } : M) m' k ∧ m'.outcome = some .failed := by
    intro pc pos handed sn
    by_cases hs : s < text.size
    · refine ⟨1, sn, by exact ar210, ?_⟩
      rw [if_pos hs]
      refine .step rfl ?_
      have : ({ A1 text s must first sn with pc := pc, pos := pos, handed := handed, answer := some false } : M).step = A1 text (s + 1) false false sn := by
        show M.resume ({ A1 text s must first sn with pc := 5, pos := s, handed := handed, answer := none, frames := [], weight := 0, outermost := first } : M) { wait := .nextStart, pc := 5, pos := s, outermost := first } false = _
        unfold M.resume
        dsimp only
        refine (if_neg (by decide)).trans ((if_pos hs).trans ?_)
        rfl
      rw [this]
      exact .refl _
    · refine ⟨2, sn, by exact ar211, ?_⟩
      rw [if_neg hs]
      have : ({ A1 text s must first sn with pc := pc, pos := pos, handed := handed, answer := some false } : M).step = { A1 text s must first sn with frames := [], weight := 0, answer := some false, handed := handed } := by
        show M.resume ({ A1 text s must first sn with pc := 5, pos := s, handed := handed, answer := none, frames := [], weight := 0, outermost := first } : M) { wait := .nextStart, pc := 5, pos := s, outermost := first } false = _
        unfold M.resume
        dsimp only
        refine (if_neg (by decide)).trans ((if_neg hs).trans ?_)
        rfl
      exact ⟨_, .step rfl (by rw [this]; exact .step rfl (.refl _)), rfl⟩
  have join : ∀ {m : M} {i : Nat} {pc pos handed : Nat} {sn : Seen}, i ≤ 2 → Go (A1 text s must first seen) ({ A1 text s must first sn with pc := pc, pos := pos, handed := handed, answer := some false } : M) i →
      ∃ k seen', k ≤ 5 ∧ if s < text.size then Go (A1 text s must first seen) (A1 text (s + 1) false false seen') k else ∃ m', Go (A1 text s must first seen) m' k ∧ m'.outcome = some .failed := by
    intro m i pc pos handed sn hi g
    obtain ⟨k, s', hk, q⟩ := tail pc pos handed sn
    refine ⟨i + k, s', by exact ar212 hi hk, ?_⟩
    split
    · rename_i hs
      rw [if_pos hs] at q
      exact g.trans q
    · rename_i hs
      rw [if_neg hs] at q
      obtain ⟨m', q1, q2⟩ := q
      exact ⟨m', g.trans q1, q2⟩
  unfold hit1 at h
  obtain ⟨s1, e1⟩ := A1_at text s must first seen
  cases hb : (s == 0 || text.getD (s - 1) 0 == 10) with
  | false =>
    rw [hb] at e1
    simp only [Bool.false_eq_true, if_false] at e1
    exact join (m := A1 text s must first seen) (i := 1) (by exact ar210) (.step rfl (by rw [e1]; exact .refl _))
  | true =>
    rw [hb] at e1 h
    simp only [if_true] at e1
    rw [Bool.true_and] at h
    obtain ⟨s2, e2⟩ := A1_lit text s must first s1
    rw [h] at e2
    simp only [Bool.false_eq_true, if_false] at e2
    have g1 : Go (A1 text s must first seen) ({ A1 text s must first s1 with pc := 7 } : M) 1 := .step rfl (by rw [e1]; exact .refl _)
    have g2 : Go ({ A1 text s must first s1 with pc := 7 } : M) ({ A1 text s must first s2 with pc := 7, pos := s, handed := s, answer := some false } : M) 1 := .step rfl (by rw [e2]; exact .refl _)
    exact join (m := A1 text s must first seen) (i := 2) (pc := 7) (pos := s) (handed := s) (sn := s2) (by exact ar211) (g1.trans g2)

/-- the first place from s on -/
noncomputable def firstAt (hit : Nat → Bool) : Nat → Nat → Option Nat
  | 0, _ => none
  | n + 1, s => if hit s then some s else firstAt hit n (s + 1)

theorem search1 (text : Array Nat) : ∀ (n s : Nat) (must first : Bool) (seen : Seen), s ≤ text.size → text.size - s = n → ∃ k m', k ≤ 5 * (n + 1) ∧ Go (A1 text s must first seen) m' k ∧
    (match firstAt (hit1 text) (n + 1) s with
      | some p => m'.outcome = some .matched ∧ m'.start = p ∧ m'.handed = p + 1
      | none => m'.outcome = some .failed)
  | n, s, must, first, seen, hs, hn => by
    cases hh : hit1 text s with
    | true =>
      obtain ⟨m', g, q⟩ := A1_hit text s must first seen hh
      refine ⟨5, m', by exact ar213, g, ?_⟩
      unfold firstAt
      rw [hh, if_pos rfl]
      exact q
    | false =>
      obtain ⟨k, s', hk, q⟩ := A1_miss text s must first seen hh
      unfold firstAt
      rw [hh, if_neg (by decide)]
      cases n with
      | zero =>
        rw [if_neg (by exact ar214 hn)] at q
        obtain ⟨m', g, q⟩ := q
        exact ⟨k, m', by exact ar215 hk, g, q⟩
      | succ n =>
        rw [if_pos (by exact ar205 hn)] at q
        obtain ⟨k2, m', hk2, g2, q2⟩ := search1 text n (s + 1) false false s' (by exact ar216 hn) (by exact ar206 hn)
        exact ⟨k + k2, m', by exact ar217 hk hk2, q.trans g2, q2⟩

theorem forSearch1 (text : Array Nat) (s : Nat) (must : Bool) (hs : s ≤ text.size) : ∃ k m', k ≤ 5 * (text.size + 2) ∧ Go (forSearch C1 text 0 s text.size must) m' k ∧
    (match firstAt (hit1 text) (text.size - s + 1) s with
      | some p => m'.outcome = some .matched ∧ m'.start = p ∧ m'.handed = p + 1
      | none => m'.outcome = some .failed) := by
  by_cases h : text.size - s < 1
  · have e : ∃ m : M, forSearch C1 text 0 s text.size must = m.say false ∧ m.frames = [] ∧ m.outcome = none := by
      unfold forSearch
      dsimp only
      rw [if_pos (by rw [show (header C1).1 = 1 from rfl]; simp; exact ar219 h)]
      exact ⟨_, rfl, rfl, rfl⟩
    obtain ⟨m, e, f, o⟩ := e
    have hno : firstAt (hit1 text) (text.size - s + 1) s = none := by
      have hz : text.size - s = 0 := by exact ar220 h
      rw [hz]
      unfold firstAt firstAt
      have : hit1 text s = false := by
        unfold hit1
        rw [show decide (s < text.size) = false from decide_eq_false (by exact ar221 h)]
        simp
      rw [this]; rfl
    rw [hno]
    refine ⟨1, { m.say false with outcome := some .failed }, by exact ar222, ?_, rfl⟩
    rw [e]
    refine .step (by show m.outcome.isSome = false; rw [o]; rfl) ?_
    have : (m.say false).step = { m.say false with outcome := some .failed } := by
      unfold M.step
      rw [if_neg (by show ¬ (m.outcome.isSome = true); rw [o]; decide)]
      show (match (some false : Option Bool), m.frames with | some yes, [] => _ | some yes, f :: rest => _ | none, _ => _) = _
      rw [f]
      rfl
    rw [this]
    exact .refl _
  · obtain ⟨k, m', hk, g, q⟩ := search1 text (text.size - s) s must true (({} : Seen).add 14) hs rfl
    refine ⟨k, m', by exact ar223 hk, ?_, q⟩
    have e : forSearch C1 text 0 s text.size must = A1 text s must true (({} : Seen).add 14) := by
      unfold forSearch
      dsimp only
      rw [if_neg (by rw [show (header C1).1 = 1 from rfl]; simp; exact ar224 h)]
      rfl
    rw [e]
    exact g
end Mine
end
section
open PySem
set_option maxRecDepth 100000
namespace Mine
open Sre

noncomputable def C2 : Array Nat := #[14, 9, 4, 1, 2, 16, 10, 16, 13, 0, 7, 7, 16, 13, 16, 10, 15, 18, 5, 16, 10, 15, 13, 11, 16, 13, 5, 5, 0, 16, 10, 1, 15, 2, 0, 1]
noncomputable def B2 (text : Array Nat) (s pc pos handed : Nat) (frs : List Sre.Frame) (wt : Nat) (ans : Option Bool) (out : Bool) (seen : Seen) : M :=
  { code := C2, text, lim := text.size, start := s, lastStart := text.size, pc, pos, handed, outermost := out, marks := #[], frames := frs, weight := wt, answer := ans, seen }

theorem lit2 {text : Array Nat} {s pc pos handed : Nat} {frs : List Sre.Frame} {wt : Nat} {out : Bool} {seen : Seen} (h16 : C2.getD pc 0 = 16) (hlt : pc < 36) :
    (B2 text s pc pos handed frs wt none out seen).step = if pos < text.size ∧ text.getD pos 0 = C2.getD (pc + 1) 0 then B2 text s (pc + 2) (pos + 1) handed frs wt none out (seen.add 16) else B2 text s pc pos handed frs wt (some false) out (seen.add 16) := by
  have e0 : (B2 text s pc pos handed frs wt none out seen).step = M.exec (B2 text s pc pos handed frs wt none out seen) := by
    unfold M.step
    refine (if_neg (show ¬ (false = true) from Bool.false_ne_true)).trans ?_
    show (if pc < C2.size then _ else _) = _
    exact if_pos hlt
  rw [e0]
  unfold M.exec
  have e : (B2 text s pc pos handed frs wt none out seen).word 0 = 16 := h16
  rw [e]
  show (if pos ≥ text.size then _ else _) = _
  by_cases h : pos < text.size
  · refine (if_neg (Nat.not_le.mpr h)).trans ?_
    have e2 : ∀ sn, accepts C2 pc (text.getD pos 0) sn = .ok (text.getD pos 0 == C2.getD (pc + 1) 0, sn) := fun sn => by
      unfold accepts
      rw [h16]; rfl
    show (match accepts C2 pc (text.getD pos 0) (seen.add 16) with | .error why => _ | .ok (false, seen) => _ | .ok (true, seen) => _) = _
    rw [e2]
    by_cases hc : text.getD pos 0 = C2.getD (pc + 1) 0
    · rw [if_pos ⟨h, hc⟩, show (text.getD pos 0 == C2.getD (pc + 1) 0) = true by simpa using hc]
      have ew : itemWidth C2 pc = 2 := by
        unfold itemWidth
        rw [h16]; rfl
      show ({ (B2 text s pc pos handed frs wt none out (seen.add 16)) with pc := pc + itemWidth C2 pc, pos := pos + 1 } : M) = _
      rw [ew]; rfl
    · rw [if_neg (fun q => hc q.2), show (text.getD pos 0 == C2.getD (pc + 1) 0) = false by simpa using hc]
      rfl
  · refine (if_pos (Nat.not_lt.mp h)).trans ?_
    rw [if_neg (fun q => h q.1)]
    rfl

noncomputable def F0 (s : Nat) (first : Bool) : Sre.Frame := { wait := .nextStart, pc := 10, pos := s, outermost := first }
noncomputable def FB (s alt : Nat) (first : Bool) : Sre.Frame := { wait := .nextBranch, pc := alt, pos := s, outermost := first, kept := { lastmark := -1, lastindex := -1, whole := false, marks := #[] } }
noncomputable def FN (s : Nat) (first : Bool) : Sre.Frame := { wait := .lookNot, pc := 26, pos := s, outermost := first, kept := { lastmark := -1, lastindex := -1, whole := false, marks := #[] } }

variable {text : Array Nat} {s : Nat} {first : Bool} {seen : Seen}

theorem branch2 {h : Nat} : (B2 text s 10 s h [F0 s first] 1 none first seen).step = B2 text s 12 s s [FB s 11 first, F0 s first] 2 none first (seen.add 7) := by rfl
theorem jump2 {pc pos h : Nat} {frs : List Sre.Frame} {wt : Nat} {out : Bool} (hp : pc = 16 ∨ pc = 21 ∨ pc = 32) : (B2 text s pc pos h frs wt none out seen).step = B2 text s 35 pos h frs wt none out (seen.add 15) := by
  rcases hp with rfl | rfl | rfl <;> rfl
theorem success2 {pc pos h : Nat} {frs : List Sre.Frame} {wt : Nat} {out : Bool} (hp : pc = 31 ∨ pc = 35) : (B2 text s pc pos h frs wt none out seen).step = B2 text s pc pos pos frs wt (some true) out (seen.add 1) := by
  rcases hp with rfl | rfl <;> (cases out <;> rfl)
theorem yes2 {pc pos h alt : Nat} {out : Bool} : ∃ m', Go (B2 text s pc pos h [FB s alt first, F0 s first] 2 (some true) out seen) m' 3 ∧ m'.outcome = some .matched ∧ m'.start = s ∧ m'.handed = h :=
  ⟨_, .step rfl (.step rfl (.step rfl (.refl _))), rfl, rfl, rfl⟩
theorem no2a {pc pos h : Nat} {out : Bool} : (B2 text s pc pos h [FB s 11 first, F0 s first] 2 (some false) out seen).step = B2 text s 19 s s [FB s 18 first, F0 s first] 2 none first seen := by rfl
theorem no2b {pc pos h : Nat} {out : Bool} : (B2 text s pc pos h [FB s 18 first, F0 s first] 2 (some false) out seen).step = B2 text s 24 s s [FB s 23 first, F0 s first] 2 none first seen := by rfl
theorem look2 {pos h : Nat} {out : Bool} : (B2 text s 26 pos h [FB s 23 first, F0 s first] 2 none out seen).step = B2 text s 29 pos pos [FN pos out, FB s 23 first, F0 s first] 3 none false (seen.add 5) := by rfl
theorem lookNo2 {pc pos pos' h : Nat} {out out' : Bool} : (B2 text s pc pos h [FN pos' out', FB s 23 first, F0 s first] 3 (some false) out seen).step = B2 text s 32 pos' h [FB s 23 first, F0 s first] 2 none out' seen := by rfl

noncomputable def nl (text : Array Nat) (p : Nat) : Bool := decide (p < text.size) && (text.getD p 0 == 10 || text.getD p 0 == 13)
noncomputable def len2 (text : Array Nat) (p : Nat) : Nat := if text.getD p 0 == 13 && decide (p + 1 < text.size) && text.getD (p + 1) 0 == 10 then 2 else 1

theorem go1 {m m' : M} (h : m.outcome.isSome = false) (e : m.step = m') : Go m m' 1 := .step h (by rw [e]; exact .refl _)

/-- an attempt at a return or a feed -/
theorem A2_hit (h0 : Nat) (hn : nl text s = true) : ∃ k m', k ≤ 20 ∧ Go (B2 text s 10 s h0 [F0 s first] 1 none first seen) m' k ∧ m'.outcome = some .matched ∧ m'.start = s ∧ m'.handed = s + len2 text s := by
  unfold nl at hn
  simp only [Bool.and_eq_true, decide_eq_true_eq, Bool.or_eq_true, beq_iff_eq] at hn
  obtain ⟨hs, hc⟩ := hn
  have g0 := go1 (m := B2 text s 10 s h0 [F0 s first] 1 none first seen) rfl branch2
  have fin : ∀ {pos : Nat} {alt : Nat} {sn : Seen} {h : Nat}, ∃ m', Go (B2 text s 35 pos h [FB s alt first, F0 s first] 2 none first sn) m' 4 ∧ m'.outcome = some .matched ∧ m'.start = s ∧ m'.handed = pos := fun {pos alt sn h} => by
    obtain ⟨m', g, q⟩ := yes2 (text := text) (s := s) (first := first) (seen := sn.add 1) (pc := 35) (pos := pos) (h := pos) (alt := alt) (out := first)
    exact ⟨m', (go1 rfl (success2 (.inr rfl))).trans g, q⟩
  rcases hc with hc | hc
  · -- a feed
    have e1 := lit2 (text := text) (s := s) (pc := 12) (pos := s) (handed := s) (frs := [FB s 11 first, F0 s first]) (wt := 2) (out := first) (seen := seen.add 7) rfl (by decide)
    rw [if_neg (fun q => by have := q.2; rw [hc] at this; exact absurd this (by decide))] at e1
    have e2 := lit2 (text := text) (s := s) (pc := 19) (pos := s) (handed := s) (frs := [FB s 18 first, F0 s first]) (wt := 2) (out := first) (seen := (seen.add 7).add 16) rfl (by decide)
    rw [if_pos ⟨hs, by rw [hc]; rfl⟩] at e2
    have hl : len2 text s = 1 := by unfold len2; rw [hc]; rfl
    obtain ⟨m', g, q⟩ := fin (pos := s + 1) (alt := 18) (sn := (((seen.add 7).add 16).add 16).add 15) (h := s)
    exact ⟨_, m', by decide, ((((g0.trans (go1 rfl e1)).trans (go1 rfl no2a)).trans (go1 rfl e2)).trans (go1 rfl (jump2 (.inr (.inl rfl))))).trans g, by rw [hl]; exact q⟩
  · -- a return
    have e1 := lit2 (text := text) (s := s) (pc := 12) (pos := s) (handed := s) (frs := [FB s 11 first, F0 s first]) (wt := 2) (out := first) (seen := seen.add 7) rfl (by decide)
    rw [if_pos ⟨hs, by rw [hc]; rfl⟩] at e1
    have e2 := lit2 (text := text) (s := s) (pc := 14) (pos := s + 1) (handed := s) (frs := [FB s 11 first, F0 s first]) (wt := 2) (out := first) (seen := (seen.add 7).add 16) rfl (by decide)
    by_cases hx : s + 1 < text.size ∧ text.getD (s + 1) 0 = 10
    · rw [if_pos ⟨hx.1, by rw [hx.2]; rfl⟩] at e2
      have hl : len2 text s = 2 := by unfold len2; rw [hc, hx.2, decide_eq_true hx.1]; rfl
      obtain ⟨m', g, q⟩ := fin (pos := s + 1 + 1) (alt := 11) (sn := (((seen.add 7).add 16).add 16).add 15) (h := s)
      exact ⟨_, m', by decide, (((g0.trans (go1 rfl e1)).trans (go1 rfl e2)).trans (go1 rfl (jump2 (.inl rfl)))).trans g, by rw [hl]; exact q⟩
    · rw [if_neg (fun q => hx ⟨q.1, by rw [q.2]; rfl⟩)] at e2
      have hl : len2 text s = 1 := by
        unfold len2
        rw [if_neg]
        simp only [Bool.and_eq_true, decide_eq_true_eq, beq_iff_eq]
        exact fun q => hx ⟨q.1.2, q.2⟩
      have e3 := lit2 (text := text) (s := s) (pc := 19) (pos := s) (handed := s) (frs := [FB s 18 first, F0 s first]) (wt := 2) (out := first) (seen := ((seen.add 7).add 16).add 16) rfl (by decide)
      rw [if_neg (fun q => by have := q.2; rw [hc] at this; exact absurd this (by decide))] at e3
      have e4 := lit2 (text := text) (s := s) (pc := 24) (pos := s) (handed := s) (frs := [FB s 23 first, F0 s first]) (wt := 2) (out := first) (seen := (((seen.add 7).add 16).add 16).add 16) rfl (by decide)
      rw [if_pos ⟨hs, by rw [hc]; rfl⟩] at e4
      have e5 := lit2 (text := text) (s := s) (pc := 29) (pos := s + 1) (handed := s + 1) (frs := [FN (s + 1) first, FB s 23 first, F0 s first]) (wt := 3) (out := false) (seen := (((((seen.add 7).add 16).add 16).add 16).add 16).add 5) rfl (by decide)
      rw [if_neg (fun q => hx ⟨q.1, by rw [q.2]; rfl⟩)] at e5
      obtain ⟨m', g, q⟩ := fin (pos := s + 1) (alt := 23) (sn := (((((((seen.add 7).add 16).add 16).add 16).add 16).add 5).add 16).add 15) (h := s + 1)
      exact ⟨_, m', by decide, ((((((((((g0.trans (go1 rfl e1)).trans (go1 rfl e2)).trans (go1 rfl no2a)).trans (go1 rfl e3)).trans (go1 rfl no2b)).trans (go1 rfl e4)).trans (go1 rfl look2)).trans (go1 rfl e5)).trans (go1 rfl lookNo2)).trans (go1 rfl (jump2 (.inr (.inr rfl))))).trans g, by rw [hl]; exact q⟩

theorem inSet2 (c : Nat) (seen : Seen) : ∃ seen', inSet C2 c C2.size 5 true seen = .ok (c == 10 || c == 13, seen') := by
  have e : inSet C2 c C2.size 5 true seen = if c == 10 then .ok (true, seen.add 16) else if c == 13 then .ok (true, (seen.add 16).add 16) else .ok (false, ((seen.add 16).add 16).add 0) := by rfl
  rw [e]
  cases h1 : c == 10
  · cases h2 : c == 13
    · exact ⟨_, rfl⟩
    · exact ⟨_, rfl⟩
  · exact ⟨_, rfl⟩
theorem firstAt_none {hit : Nat → Bool} : ∀ n s, (∀ p, s ≤ p → hit p = false) → firstAt hit n s = none
  | 0, s, _ => rfl
  | n + 1, s, h => by
    unfold firstAt
    rw [h s (Nat.le_refl _), if_neg (by decide)]
    exact firstAt_none n (s + 1) fun p hp => h p (by exact ar5 hp)
theorem admitted2 (text : Array Nat) (m : M) (hc : m.code = C2) (ht : m.text = text) (hl : m.lim = text.size) : ∀ (n s : Nat) (seen : Seen), ∃ seen', m.admitted n s seen = .ok (firstAt (nl text) n s, seen')
  | 0, s, seen => ⟨seen, rfl⟩
  | n + 1, s, seen => by
    unfold M.admitted firstAt
    rw [hl, hc, ht]
    by_cases h : s ≥ text.size
    · refine ⟨seen, (if_pos h).trans ?_⟩
      have hn : nl text s = false := by unfold nl; rw [decide_eq_false (Nat.not_lt.mpr h)]; rfl
      rw [hn, if_neg (by decide), firstAt_none n (s + 1) fun p hp => by unfold nl; rw [decide_eq_false (by exact ar225 h hp)]; rfl]
    · obtain ⟨seen', e⟩ := inSet2 (text.getD s 0) seen
      rw [if_neg h, e]
      have hn : nl text s = (text.getD s 0 == 10 || text.getD s 0 == 13) := by unfold nl; rw [decide_eq_true (Nat.lt_of_not_le h), Bool.true_and]
      cases hh : (text.getD s 0 == 10 || text.getD s 0 == 13) with
      | true =>
        refine ⟨seen', ?_⟩
        rw [hn, hh]; rfl
      | false =>
        obtain ⟨s2, e2⟩ := admitted2 text m hc ht hl n (s + 1) seen'
        refine ⟨s2, ?_⟩
        rw [hn, hh, if_neg (by decide)]
        exact e2

theorem firstAt_hit {hit : Nat → Bool} : ∀ {n s p : Nat}, firstAt hit n s = some p → hit p = true ∧ s ≤ p
  | 0, s, p, h => by simp [firstAt] at h
  | n + 1, s, p, h => by
    unfold firstAt at h
    split at h
    · rename_i q; cases h; exact ⟨q, Nat.le_refl _⟩
    · have := firstAt_hit h
      exact ⟨this.1, by exact ar226 this⟩

theorem say_no {m : M} (f : m.frames = []) (o : m.outcome = none) : Go (m.say false) { m.say false with outcome := some .failed } 1 := by
  refine .step (by show m.outcome.isSome = false; rw [o]; rfl) ?_
  have : (m.say false).step = { m.say false with outcome := some .failed } := by
    unfold M.step
    rw [if_neg (by show ¬ (m.outcome.isSome = true); rw [o]; decide)]
    show (match (some false : Option Bool), m.frames with | some yes, [] => _ | some yes, f :: rest => _ | none, _ => _) = _
    rw [f]
    rfl
  rw [this]
  exact .refl _

theorem forSearch2 (text : Array Nat) (s : Nat) (must : Bool) (hs : s ≤ text.size) : ∃ k m', k ≤ 20 ∧ Go (forSearch C2 text 0 s text.size must) m' k ∧
    (match firstAt (nl text) (text.size + 1 - s) s with
      | some p => m'.outcome = some .matched ∧ m'.start = p ∧ m'.handed = p + len2 text p
      | none => m'.outcome = some .failed) := by
  by_cases h : text.size - s < 1
  · have e : ∃ m : M, forSearch C2 text 0 s text.size must = m.say false ∧ m.frames = [] ∧ m.outcome = none := by
      unfold forSearch
      dsimp only
      rw [if_pos (by rw [show (header C2).1 = 1 from rfl]; simp; exact ar219 h)]
      exact ⟨_, rfl, rfl, rfl⟩
    obtain ⟨m, e, f, o⟩ := e
    rw [firstAt_none _ s fun p hp => by unfold nl; rw [decide_eq_false (by exact ar227 h hp)]; rfl]
    exact ⟨1, _, by exact ar228, e ▸ say_no f o, rfl⟩
  · have e : ∃ m : M, forSearch C2 text 0 s text.size must = m.attemptFrom s true ∧ m = { code := C2, text, lim := text.size, start := s, lastStart := text.size, mustAdvance := must, pc := 10, pos := s, handed := s, marks := #[], seen := ({} : Seen).add 14 } := by
      unfold forSearch
      dsimp only
      rw [if_neg (by rw [show (header C2).1 = 1 from rfl]; simp; exact ar224 h)]
      exact ⟨_, rfl, rfl⟩
    obtain ⟨m, e, hm⟩ := e
    rw [e]
    obtain ⟨seen', ea⟩ := admitted2 text m (by rw [hm]) (by rw [hm]) (by rw [hm]) (m.lim + 1 - s) s m.seen
    have hl : m.lim = text.size := by rw [hm]
    have hfs : m.hasFirstSet = true := by rw [hm]; rfl
    cases hf : firstAt (nl text) (text.size + 1 - s) s with
    | none =>
      have ea : m.admitted (m.lim + 1 - s) s m.seen = .ok (none, seen') := by rw [ea, hl, hf]
      have eF : m.attemptFrom s true = ({ m with seen := seen' } : M).say false := by
        unfold M.attemptFrom
        rw [hfs, ea]
        rfl
      rw [eF]
      exact ⟨1, _, by exact ar228, say_no (m := { m with seen := seen' }) (by rw [hm]) (by rw [hm]), rfl⟩
    | some p =>
      have ea : m.admitted (m.lim + 1 - s) s m.seen = .ok (some p, seen') := by rw [ea, hl, hf]
      have eF : m.attemptFrom s true = ({ m with mustAdvance := false, seen := seen' } : M).attemptAt p true := by
        unfold M.attemptFrom
        rw [hfs, ea]
        rfl
      obtain ⟨hp, _⟩ := firstAt_hit hf
      have eA : ({ m with mustAdvance := false, seen := seen' } : M).attemptAt p true = B2 text p 10 p p [F0 p true] 1 none true seen' := by
        rw [hm]; rfl
      obtain ⟨k, m', hk, g, q⟩ := A2_hit (text := text) (s := p) (first := true) (seen := seen') p hp
      rw [eF, eA]
      exact ⟨k, m', hk, g, q⟩
end Mine
end
section
open PySem PySem.W PyProof.Rows PySem.Builtin PySem.Builtin.Str PySem.Builtin.Re
set_option maxRecDepth 100000
namespace Mine
section
variable {M : Model} {prog : Program} {w : World} {A : Around} {h₀ hE : Heap} {mg mb : Str → Option Value} {n : Nat}

theorem wp_drive {E : Value → Shared → Prop} {Q : Sre.M → Shared → Prop} {s : Shared} {m' : Sre.M} (ho : m'.outcome.isSome = true) (h : Q m' s) : ∀ (turns k : Nat) (m : Sre.M), k ≤ 4 * turns → m.runFor k = m' → wpAny M A (reDrive (turns + 1) m) Q E s := by
  intro turns
  induction turns with
  | zero =>
    intro k m hk e
    obtain rfl : k = 0 := by exact ar249 hk
    have e : m = m' := e
    subst e
    unfold reDrive
    have : m.runFor reTurnSteps = m := runFor_done ho _
    simp only [this, ho, if_true]
    exact wpAny_pure h
  | succ t ih =>
    intro k m hk e
    unfold reDrive
    show wpAny M A (if (m.runFor 4).outcome.isSome = true then pure (m.runFor 4) else do rule "sre.turn"; reDrive (t + 1) (m.runFor 4)) Q E s
    cases h4 : (m.runFor 4).outcome.isSome with
    | true =>
      rw [if_pos rfl]
      have : m.runFor 4 = m' := by
        have e1 := runFor_add 4 k m
        rw [runFor_done h4 k] at e1
        have e2 := runFor_add k 4 m
        rw [e, runFor_done ho 4] at e2
        rw [← e1, ← e2, Nat.add_comm]
      rw [this]
      exact wpAny_pure h
    | false =>
      rw [if_neg (by decide)]
      have hk4 : 4 < k := by
        refine Nat.lt_of_not_le fun hle => ?_
        have e1 := runFor_add k (4 - k) m
        rw [e, runFor_done ho, show k + (4 - k) = 4 by exact ar250 hle] at e1
        rw [e1, ho] at h4; cases h4
      refine wpAny_bind (wpAny_rule (ih (k - 4) (m.runFor 4) (by exact ar251 hk) ?_))
      rw [← runFor_add, show 4 + (k - 4) = k by exact ar252 hk4]; exact e

theorem wp_forUnit {α : Type} {E : Value → Shared → Prop} {Q : PUnit → Shared → Prop} {s : Shared} {f : α → PUnit → Sem (ForInStep PUnit)} (hf : ∀ i (R : ForInStep PUnit → Shared → Prop), R (.yield ⟨⟩) s → wpAny M A (f i ⟨⟩) R E s) (h : Q ⟨⟩ s) : ∀ l : List α, wpAny M A (forIn l (⟨⟩ : PUnit) f) Q E s
  | [] => wpAny_pure h
  | i :: l => by
    rw [List.forIn_cons]
    exact wpAny_bind (hf i _ (wp_forUnit hf h l))

theorem wp_found {E : Value → Shared → Prop} {Q : Option Sre.M → Shared → Prop} {s : Shared} {m m' : Sre.M} {k : Nat} (g : Go m m' k) (hk : k ≤ 2 ^ 60) (h : (m'.outcome = some .matched ∧ Q (some m') s) ∨ (m'.outcome = some .failed ∧ Q none s)) : wpAny M A (reRunToEnd m) Q E s := by
  have ho : m'.outcome.isSome = true := by rcases h with ⟨h, _⟩ | ⟨h, _⟩ <;> rw [h] <;> rfl
  unfold reRunToEnd
  refine wpAny_bind (wp_drive (Q := _) ho ?_ (2 ^ 64 - 1) k m (by exact ar253 hk) (g.runFor k (Nat.le_refl _) ho))
  refine wpAny_bind (wp_forUnit (fun i R hR => ?_) ?_ _)
  · cases m'.seen.has i
    · exact wpAny_pure hR
    · exact wpAny_bind (wpAny_rule (wpAny_pure hR))
  · rcases h with ⟨h, q⟩ | ⟨h, q⟩
    · rw [h]; exact wpAny_pure q
    · rw [h]; exact wpAny_pure q
end
end Mine
end
section
open PySem PySem.W PyProof.Rows PySem.Builtin PySem.Builtin.Str PySem.Builtin.Re
set_option maxRecDepth 100000
namespace Mine
section
variable {prog : Program} {w : World} {A : Around} {h₀ hE : Heap} {mg mb : Str → Option Value}

theorem entry_sub_loop : entryFor table "re.Pattern.sub.loop" = some Builtin.«re.Pattern.sub.loop» := entryFor_of_tree (by kernel_rfl)
theorem plain_sub_loop : plainId "re.Pattern.sub.loop" = true := by decide +kernel

theorem wp_whole {E : Value → Shared → Prop} {Q : ReTarget → Shared → Prop} {s : Shared} {pat cd : Addr} {po co : Obj} {fs : Array Value} {its : Array Value} {m : Nat} {C : Array Nat} {cs : List Nat} {t : Tok} (hp : s.heap.get? pat = some po) (hpd : po.data = .fields fs) (h6 : fs.getD 6 .none = .int 0 0) (h5 : fs.getD 5 .none = .ref cd) (h2 : fs.getD 2 .none = .int 0 0)
    (hc : s.heap.get? cd = some co) (hcd : co.data = .seq its m) (hC : (its.map reRawOf).map (·.toNat) = C)
    (h : Q { pattern := .ref pat, string := .str ⟨cs.toArray⟩ t, code := C, text := cs.toArray, kind := 0, groups := 0, pos := 0, lim := cs.toArray.size } s) :
    wpAny (model prog w) A (reWholeTarget (.ref pat) (.str ⟨cs.toArray⟩ t)) Q E s := by
  unfold reWholeTarget
  refine wpAny_bind (wpAny_fieldsOf hp hpd ?_)
  show wpAny _ _ ((reTextOf (.str ⟨cs.toArray⟩ t)) >>= _) _ _ s
  refine wpAny_bind (wpAny_of_eq (a := (cs.toArray, 0)) rfl ?_)
  dsimp only
  rw [h6]
  rw [h5, h2]
  unfold reRawItems
  refine wpAny_bind (wpAny_of_eq (a := ()) rfl ?_)
  refine wpAny_bind (wpAny_bind (wpAny_seqItems hc hcd (wpAny_pure ?_)))
  refine wpAny_pure ?_
  simp only [Option.getD_some, hC]
  exact h

/-- all hits are replaced -/
noncomputable def subF (hit : Nat → Bool) (len : Nat → Nat) (rep : List Nat) (text : List Nat) : Nat → Nat → List Nat
  | 0, q => text.drop q
  | n + 1, q => match firstAt hit (text.length + 1 - q) q with
    | some p => (text.drop q).take (p - q) ++ rep ++ subF hit len rep text n (p + len p)
    | none => text.drop q

structure PatAt (h : Heap) (pat cd : Addr) (C : Array Nat) : Prop where
  ex : ∃ po fs co its m, h.get? pat = some po ∧ po.data = .fields fs ∧ fs.getD 6 .none = .int 0 0 ∧ fs.getD 5 .none = .ref cd ∧ fs.getD 2 .none = .int 0 0 ∧ h.get? cd = some co ∧ co.data = .seq its m ∧ (its.map reRawOf).map (·.toNat) = C

theorem PatAt.whole {h : Heap} {E : Value → Shared → Prop} {Q : ReTarget → Shared → Prop} {s : Shared} {pat cd : Addr} {C : Array Nat} {cs : List Nat} {t : Tok} (p : PatAt h pat cd C) (K : Kp h s)
    (hQ : Q { pattern := .ref pat, string := .str ⟨cs.toArray⟩ t, code := C, text := cs.toArray, kind := 0, groups := 0, pos := 0, lim := cs.toArray.size } s) : wpAny (model prog w) A (reWholeTarget (.ref pat) (.str ⟨cs.toArray⟩ t)) Q E s := by
  obtain ⟨po, fs, co, its, m, h1, h2, h3, h4, h5, h6, h7, h8⟩ := p.ex
  exact wp_whole (K _ _ h1) h2 h3 h4 h5 (K _ _ h6) h7 h8 hQ

theorem wp_slice {E : Value → Shared → Prop} {Q : Value → Shared → Prop} {s : Shared} {text : List Nat} {b e : Nat} (hl : text.length ≤ sizeLine) (h : ∀ t k, Q (.str ⟨((text.drop b).take (e - b)).toArray⟩ t) { s with toks := k }) : wpAny (model prog w) A (reSlice text.toArray 0 b e) Q E s := by
  unfold reSlice
  show wpAny _ _ (mkStr ⟨text.toArray.extract b e⟩) _ _ _
  have e1 : text.toArray.extract b e = ((text.drop b).take (e - b)).toArray := by simp [List.extract_eq_take_drop]
  rw [e1]
  unfold mkStr
  rw [if_neg]
  · exact wpAny_bind (wpAny_fresh (wpAny_pure (h _ _)))
  · show ¬ (((text.drop b).take (e - b)).toArray.size > sizeLine)
    simp; exact ar254 hl
end
end Mine
end
section
open PySem PySem.W PyProof.Rows PySem.Builtin PySem.Builtin.Str PySem.Builtin.Re
set_option maxRecDepth 100000
namespace Mine
section
variable {prog : Program} {w : World} {A : Around} {h₀ hE : Heap} {mg mb : Str → Option Value}

/-- the pieces take one more -/
theorem wp_push {E : Value → Shared → Prop} {Q : Unit → Shared → Prop} {s : Shared} {L : Addr} {acc : List (List Nat)} {vs : List Value} {x : List Nat} {t : Tok} (hl : s.heap.PlainList L vs.toArray) (hacc : Rds prog w s.heap (acc.map .str) vs []) (hsz : acc.length ≤ sizeLine)
    (h : ∀ h', Heap.SameBut L s.heap h' → h'.PlainList L (vs ++ [Value.str ⟨x.toArray⟩ t]).toArray → Rds prog w h' ((acc ++ [x]).map .str) (vs ++ [Value.str ⟨x.toArray⟩ t]) [] → Q () { s with heap := h' }) :
    wpAny (model prog w) A (updateSeq L (·.push (.str ⟨x.toArray⟩ t))) Q E s := by
  obtain ⟨n, ho⟩ := id hl
  have hv : vs.length = acc.length := by have := hacc.length; simpa using this
  refine wpAny_updateSeq ho rfl ?_ (by rw [List.size_toArray, hv]; exact hsz) (by show (vs.toArray.push _).size ≤ sizeLine + 1; rw [Array.size_push, List.size_toArray, hv]; exact ar135 hsz)
  refine h _ (Heap.SameBut.update ..) ⟨n + 1, ?_⟩ ?_
  · rw [Heap.get?_update_self _ ho rfl]
    simp [Obj.mapSeq]
  · have hX : ∀ b its, b = L → ¬ PTup s.heap b its := by rintro b its rfl; exact list_not_tup hl
    have r1 := Rds.keepBut (h' := s.heap.update L (Obj.mapSeq (·.push (.str ⟨x.toArray⟩ t)))) (fp := []) (fun b o q hb => (Heap.SameBut.update ..).extBut b o hb q) hX (fun _ q => nomatch q) hacc
    have := Rds.append r1 (b := [.str x]) (ws := [Value.str ⟨x.toArray⟩ t]) (g := []) ⟨_, [], [], [], rfl, rfl, ⟨⟨t, rfl⟩, rfl⟩, rfl, rfl⟩
    simpa using this

theorem sub_loop {pat cd L : Addr} {C : Array Nat} {cs r : List Nat} {t tr : Tok} {hit : Nat → Bool} {len : Nat → Nat} (p : PatAt h₀ pat cd C) (hL : h₀.get? L = none) (hcs : cs.length ≤ sizeLine)
    (hsr : ∀ q, q ≤ cs.length → ∃ k m', k ≤ 2 ^ 60 ∧ Go (Sre.forSearch C cs.toArray 0 q cs.toArray.size false) m' k ∧ (match firstAt hit (cs.length + 1 - q) q with
      | some p => m'.outcome = some .matched ∧ m'.start = p ∧ m'.handed = p + len p
      | none => m'.outcome = some .failed))
    (hlen : ∀ p, hit p = true → p < cs.length ∧ 1 ≤ len p ∧ p + len p ≤ cs.length) {R : Result → Shared → Prop} :
    ∀ (N : Nat) (k : Int) (q : Nat) (s : Shared) (acc : List (List Nat)) (vs : List Value), cs.length - q < N → q ≤ cs.length → Kp h₀ s → s.heap.PlainList L vs.toArray → Rds prog w s.heap (acc.map .str) vs [] → acc.length + 2 * N ≤ sizeLine → acc.flatten.length + (subF hit len r cs N q).length ≤ sizeLine →
      (∀ t' s', (∀ b o, b ≠ L → s.heap.get? b = some o → s'.heap.get? b = some o) → s'.os = s.os → s'.gens = s.gens → R (.ok (.ret (.str ⟨(acc.flatten ++ subF hit len r cs N q).toArray⟩ t'))) s') →
      codeAny (model prog w) A (.builtin "re.Pattern.sub.loop" ⟨[.ref pat, .str ⟨cs.toArray⟩ t, .str ⟨r.toArray⟩ tr, rawInt 0, rawInt 0, rawInt k, rawInt q, rawInt q, .bool false, .ref L, .bool false], []⟩) R s := by
  intro N
  induction N with
  | zero => intro k q s acc vs h; exact ar255 h
  | succ N ih =>
    intro k q s acc vs hq hqs K hl hacc hsz hfl hR
    refine codeAny_builtin entry_sub_loop ?_
    rw [Around.under_plainId plain_sub_loop _]
    show wpAny _ A.in1 (reWholeTarget (.ref pat) (.str ⟨cs.toArray⟩ t) >>= _) _ _ s
    refine wpAny_bind (p.whole K ?_)
    refine wpAny_bind (m := reLiteralCannotBeTurned _) (wpAny_of_eq (a := ()) rfl ?_)
    obtain ⟨kk, m', hkk, g, hm⟩ := hsr q hqs
    show wpAny _ A.in1 (reNextFound _ q false >>= _) _ _ s
    have hlL : ∀ {s' : Shared}, (∀ b o, b ≠ L → s.heap.get? b = some o → s'.heap.get? b = some o) → Kp h₀ s' := fun hk b o e => hk b o (fun q => by rw [q, hL] at e; cases e) (K b o e)
    cases hf : firstAt hit (cs.length + 1 - q) q with
    | some p' =>
      rw [hf] at hm
      obtain ⟨hp1, hp2⟩ := firstAt_hit hf
      obtain ⟨l1, l2, l3⟩ := hlen p' hp1
      have hsub : subF hit len r cs (N + 1) q = (cs.drop q).take (p' - q) ++ r ++ subF hit len r cs N (p' + len p') := by
        rw [subF, hf]
      rw [hsub] at hfl hR
      refine wpAny_bind (wp_found g hkk (.inl ⟨hm.1, ?_⟩))
      have next : ∀ (s₁ : Shared) (acc₁ : List (List Nat)) (vs₁ : List Value), (∀ b o, b ≠ L → s.heap.get? b = some o → s₁.heap.get? b = some o) → s₁.os = s.os → s₁.gens = s.gens → s₁.heap.PlainList L vs₁.toArray → Rds prog w s₁.heap (acc₁.map .str) vs₁ [] → acc₁.length ≤ acc.length + 1 → acc₁.flatten = acc.flatten ++ (cs.drop q).take (p' - q) →
          wpAny (model prog w) A.in1 (do
            updateSeq L (·.push (.str ⟨r.toArray⟩ tr))
            again (.builtin "re.Pattern.sub.loop" ⟨[.ref pat, .str ⟨cs.toArray⟩ t, .str ⟨r.toArray⟩ tr, rawInt 0, rawInt 0, rawInt (k + 1), rawInt m'.handed, rawInt m'.handed, .bool (m'.handed == m'.start), .ref L, .bool false], []⟩))
            (fun fin s' => match fin with | .done f => R (.ok f) s' | .again c' => c'.quiet = true ∧ codeAny (model prog w) A c' R s') (fun e s' => R (.error e) s') s₁ := by
        intro s₁ acc₁ vs₁ k1 k2 k3 hl₁ hacc₁ hlen₁ hfl₁
        refine wpAny_bind (wp_push hl₁ hacc₁ (by exact ar256 hsz hlen₁) fun h' hs' hl₂ hacc₂ => wpAny_pure ⟨plainId_quiet plain_sub_loop _, ?_⟩)
        have hk2 : ∀ b o, b ≠ L → s.heap.get? b = some o → h'.get? b = some o := fun b o hb e => hs'.extBut b o hb (k1 b o hb e)
        rw [hm.2.1, hm.2.2, show ((p' + len p') == p') = false by simp; exact ar151 l2]
        refine ih (k + 1) (p' + len p') _ (acc₁ ++ [r]) _ (by exact ar257 hq hp2 l2 l3) l3 (hlL hk2) hl₂ hacc₂ (by simp; exact ar258 hsz hlen₁) (by simp [hfl₁] at hfl ⊢; exact ar259 hfl) fun t' s' j1 j2 j3 => ?_
        have := hR t' s' (fun b o hb e => j1 b o hb (hk2 b o hb e)) (j2.trans k2) (j3.trans k3)
        rw [show (acc₁ ++ [r]).flatten ++ subF hit len r cs N (p' + len p') = acc.flatten ++ ((cs.drop q).take (p' - q) ++ r ++ subF hit len r cs N (p' + len p')) by simp [hfl₁]]
        exact this
      have hst : m'.start = p' := hm.2.1
      by_cases hlt : q < p'
      · suffices h : wpAny (model prog w) A.in1 (reSlice cs.toArray 0 q m'.start >>= fun x => updateSeq L (·.push x) >>= fun _ => (do
            updateSeq L (·.push (.str ⟨r.toArray⟩ tr))
            again (.builtin "re.Pattern.sub.loop" ⟨[.ref pat, .str ⟨cs.toArray⟩ t, .str ⟨r.toArray⟩ tr, rawInt 0, rawInt 0, rawInt (k + 1), rawInt m'.handed, rawInt m'.handed, .bool (m'.handed == m'.start), .ref L, .bool false], []⟩))) (fun fin s' => match fin with | .done f => R (.ok f) s' | .again c' => c'.quiet = true ∧ codeAny (model prog w) A c' R s') (fun e s' => R (.error e) s') s by
          show wpAny _ A.in1 (if q < m'.start then _ else _) _ _ s
          rw [if_pos (by rw [hst]; exact hlt)]
          exact h
        rw [hst]
        refine wpAny_bind (wp_slice hcs fun t1 k1 => wpAny_bind (wp_push (s := { s with toks := k1 }) hl hacc (by exact ar260 hsz) fun h' hs' hl' hacc' => ?_))
        rw [← hst]
        exact next _ (acc ++ [(cs.drop q).take (p' - q)]) _ (fun b o hb e => hs'.extBut b o hb e) rfl rfl hl' hacc' (by simp) (by simp)
      · have hqp : q = p' := by exact ar261 hp2 hlt
        suffices h : wpAny (model prog w) A.in1 (do
            updateSeq L (·.push (.str ⟨r.toArray⟩ tr))
            again (.builtin "re.Pattern.sub.loop" ⟨[.ref pat, .str ⟨cs.toArray⟩ t, .str ⟨r.toArray⟩ tr, rawInt 0, rawInt 0, rawInt (k + 1), rawInt m'.handed, rawInt m'.handed, .bool (m'.handed == m'.start), .ref L, .bool false], []⟩)) (fun fin s' => match fin with | .done f => R (.ok f) s' | .again c' => c'.quiet = true ∧ codeAny (model prog w) A c' R s') (fun e s' => R (.error e) s') s by
          show wpAny _ A.in1 (if q < m'.start then _ else _) _ _ s
          rw [if_neg (by rw [hst]; exact hlt)]
          exact h
        exact next s acc vs (fun b o _ e => e) rfl rfl hl hacc (by exact ar129) (by subst hqp; simp)
    | none =>
      rw [hf] at hm
      have hsub : subF hit len r cs (N + 1) q = cs.drop q := by rw [subF, hf]
      rw [hsub] at hfl hR
      refine wpAny_bind (wp_found g hkk (.inr ⟨hm, ?_⟩))
      have fin : ∀ (s₁ : Shared) (acc₁ : List (List Nat)) (vs₁ : List Value), (∀ b o, b ≠ L → s.heap.get? b = some o → s₁.heap.get? b = some o) → s₁.os = s.os → s₁.gens = s.gens → s₁.heap.PlainList L vs₁.toArray → Rds prog w s₁.heap (acc₁.map .str) vs₁ [] → acc₁.flatten = acc.flatten ++ cs.drop q →
          wpAny (model prog w) A.in1 (do
            let joiner ← reSlice cs.toArray 0 0 0
            let text ← if ((← seqItems? (.ref L)).getD #[]).isEmpty then pure joiner else call (.builtin "str.join") [joiner, .ref L]
            ret text)
            (fun fin s' => match fin with | .done f => R (.ok f) s' | .again c' => c'.quiet = true ∧ codeAny (model prog w) A c' R s') (fun e s' => R (.error e) s') s₁ := by
        intro s₁ acc₁ vs₁ k1 k2 k3 hl₁ hacc₁ hfl₁
        refine wpAny_bind (wp_slice hcs fun t1 k4 => ?_)
        obtain ⟨m, hlo⟩ := id hl₁
        refine wpAny_bind (wpAny_seqItems (s := { s₁ with toks := k4 }) hlo rfl ?_)
        simp only [Option.getD_some]
        have hvl : vs₁.length = acc₁.length := by have := hacc₁.length; simpa using this
        cases he : vs₁.toArray.isEmpty with
        | true =>
          refine (if_pos rfl) ▸ ?_
          have hv0 : acc₁ = [] := by
            have : vs₁ = [] := by simpa using he
            rw [this] at hvl
            exact List.eq_nil_of_length_eq_zero hvl.symm
          refine wpAny_bind (wpAny_pure (wpAny_pure ?_))
          have := hR t1 { s₁ with toks := k4 } k1 k2 k3
          rw [← hfl₁, hv0] at this
          simpa using this
        | false =>
          suffices h : wpAny (model prog w) A.in1 (call (.builtin "str.join") [.str ⟨((cs.drop 0).take (0 - 0)).toArray⟩ t1, .ref L] >>= fun text => ret text) (fun fin s' => match fin with | .done f => R (.ok f) s' | .again c' => c'.quiet = true ∧ codeAny (model prog w) A c' R s') (fun e s' => R (.error e) s') { s₁ with toks := k4 } by
            rw [if_neg (by decide)]
            exact h
          refine wpAny_bind (join_list (s := { s₁ with toks := k4 }) hl₁.isList (ys := acc₁.map fun x => ⟨x.toArray⟩) (strs_are hacc₁) ?_ fun t' k => ?_)
          · rw [List.map_map]
            have e3 : ((fun x : Str => x.length) ∘ fun x : List Nat => (⟨x.toArray⟩ : Str)) = List.length := by funext x; rfl
            rw [e3]
            have : (acc₁.map List.length).sum = acc₁.flatten.length := by simp [List.length_flatten]
            rw [this, hfl₁]
            show (acc.flatten ++ cs.drop q).length + _ * 0 ≤ _
            rw [List.length_append, Nat.mul_zero, Nat.add_zero]
            exact hfl
          · refine wpAny_pure ?_
            have := hR t' { s₁ with toks := k } k1 k2 k3
            rw [← hfl₁] at this
            rw [show Txt.join (⟨((cs.drop 0).take (0 - 0)).toArray⟩ : Str) (acc₁.map fun x => ⟨x.toArray⟩) = ⟨acc₁.flatten.toArray⟩ from (StrLaws.glued_eq_join _ _).trans (glued_flat acc₁)]
            exact this
      by_cases hlt : q < cs.length
      · suffices h : wpAny (model prog w) A.in1 (reSlice cs.toArray 0 q cs.toArray.size >>= fun x => updateSeq L (·.push x) >>= fun _ => (do
            let joiner ← reSlice cs.toArray 0 0 0
            let text ← if ((← seqItems? (.ref L)).getD #[]).isEmpty then pure joiner else call (.builtin "str.join") [joiner, .ref L]
            ret text)) (fun fin s' => match fin with | .done f => R (.ok f) s' | .again c' => c'.quiet = true ∧ codeAny (model prog w) A c' R s') (fun e s' => R (.error e) s') s by
          show wpAny _ A.in1 (if q < cs.toArray.size then _ else _) _ _ s
          rw [if_pos (by simpa using hlt)]
          exact h
        refine wpAny_bind (wp_slice hcs fun t1 k1 => wpAny_bind (wp_push (s := { s with toks := k1 }) hl hacc (by exact ar260 hsz) fun h' hs' hl' hacc' => ?_))
        refine fin _ (acc ++ [(cs.drop q).take (cs.toArray.size - q)]) _ (fun b o hb e => hs'.extBut b o hb e) rfl rfl hl' hacc' ?_
        simp [List.take_of_length_le]
      · suffices h : wpAny (model prog w) A.in1 (do
            let joiner ← reSlice cs.toArray 0 0 0
            let text ← if ((← seqItems? (.ref L)).getD #[]).isEmpty then pure joiner else call (.builtin "str.join") [joiner, .ref L]
            ret text) (fun fin s' => match fin with | .done f => R (.ok f) s' | .again c' => c'.quiet = true ∧ codeAny (model prog w) A c' R s') (fun e s' => R (.error e) s') s by
          show wpAny _ A.in1 (if q < cs.toArray.size then _ else _) _ _ s
          rw [if_neg (by simpa using hlt)]
          exact h
        exact fin s acc vs (fun b o _ e => e) rfl rfl hl hacc (by rw [List.drop_of_length_le (by exact ar89 hlt)]; simp)
end
end Mine
end
section
open PySem PySem.W PyProof.Rows PySem.Builtin PySem.Builtin.Str PySem.Builtin.Re
set_option maxRecDepth 100000
namespace Mine

theorem plainAttrs_pat : PlainAttrs "re.Pattern" :=
  ⟨⟨"object.__getattribute__", by rw [typeLookup_type, builtinLookup_eq_fast]; kernel_rfl, by decide +kernel⟩, by rw [typeLookup_type, builtinLookup_eq_fast]; kernel_rfl⟩
theorem slot_pat_sub : Slot "re.Pattern" "sub" "re.Pattern.sub" :=
  .of (owner := "re.Pattern") (n := "sub") (by rw [typeLookup_type, builtinLookup_eq_fast]; kernel_rfl) (by decide +kernel) (by decide +kernel) (by decide +kernel)
    (by first | exact .inl (by decide +kernel) | exact .inr (by decide +kernel)) (by rw [isSubtype_type]; kernel_rfl)
theorem type_pat_sub : typeOf (.builtin "re.Pattern.sub") = pure (.type "method_descriptor") := by show builtinType _ = _; rw [builtinType_eq_fast]; kernel_rfl
theorem entry_pat_sub : entryFor table "re.Pattern.sub" = some Builtin.«re.Pattern.sub» := entryFor_of_tree (by kernel_rfl)
theorem str_no_call : typeLookup (.type "str") "__call__" = pure none := by rw [typeLookup_type, builtinLookup_eq_fast]; kernel_rfl
theorem args_pat_sub (a b c : Value) : argsOk "re.Pattern.sub" ⟨[a, b, c], []⟩ := by
  unfold argsOk; kernel_rfl

section
variable {prog : Program} {w : World} {A : Around} {h₀ hE : Heap} {mg mb : Str → Option Value}

/-- pattern.sub(repl, text), the replacement a plain text -/
theorem call_sub {E : Value → Shared → Prop} {pat cd : Addr} {C : Array Nat} {cs r : List Nat} {t tr : Tok} {hit : Nat → Bool} {len : Nat → Nat} (p : PatAt h₀ pat cd C) (hT : h₀.get? pat = some pt) (hpt : pt.cls = .type "re.Pattern") (hcs : cs.length ≤ sizeLine) (hr : r.toArray.contains 92 = false)
    (hsr : ∀ q, q ≤ cs.length → ∃ k m', k ≤ 2 ^ 60 ∧ Go (Sre.forSearch C cs.toArray 0 q cs.toArray.size false) m' k ∧ (match firstAt hit (cs.length + 1 - q) q with
      | some p => m'.outcome = some .matched ∧ m'.start = p ∧ m'.handed = p + len p
      | none => m'.outcome = some .failed))
    (hlen : ∀ p, hit p = true → p < cs.length ∧ 1 ≤ len p ∧ p + len p ≤ cs.length) (hN : 2 * (cs.length + 1) ≤ sizeLine) (hout : (subF hit len r cs (cs.length + 1) 0).length ≤ sizeLine)
    {s : Shared} (K : Kp h₀ s) : wpAny (model prog w) A (call (.builtin "re.Pattern.sub") [.ref pat, .str ⟨r.toArray⟩ tr, .str ⟨cs.toArray⟩ t]) (fun v s' => New prog w s s' (.str (subF hit len r cs (cs.length + 1) 0)) v) E s := by
  have hTy : s.TypeIs (.ref pat) "re.Pattern" := ⟨pt, K _ _ hT, hpt⟩
  refine wpAny_call (codeAny_call_builtin slot_pat_sub.plain entry_pat_sub (slot_pat_sub.check _ _ _ _ _ _ _ _ hTy (args_pat_sub _ _ _) ?_))
  show wpAny _ A.in1 (reSubstitute "re.Pattern.sub" "sub" false ⟨[.ref pat, .str ⟨r.toArray⟩ tr, .str ⟨cs.toArray⟩ t], []⟩) _ _ s
  unfold reSubstitute
  dsimp only
  refine wpAny_bind (wpAny_of_eq (a := [some (.str ⟨r.toArray⟩ tr), some (.str ⟨cs.toArray⟩ t), none]) rfl ?_)
  dsimp only
  refine wpAny_bind (wpAny_pure (wpAny_bind (wpAny_specialOf (typeIs_str _ _ _) str_no_call ?_)))
  simp only [Option.isSome_none, Bool.false_eq_true, if_false]
  refine wpAny_bind (wpAny_of_eq (a := some ⟨r.toArray⟩) rfl ?_)
  simp only [hr, Bool.not_false]
  refine wpAny_bind (wpAny_pure ?_)
  simp only [if_true]
  refine wpAny_bind (wpAny_pure (wpAny_bind (wpAny_holding (p.whole K ?_))))
  simp only [show ((0 : Int) == 1) = false from rfl, Bool.false_eq_true, if_false]
  refine wpAny_bind (wpAny_newList (wpAny_pure ⟨plainId_quiet plain_sub_loop _, ?_⟩) (by decide))
  have hk : ∀ b o, s.heap.get? b = some o → (s.heap.push { cls := .type "list", data := .seq ([] : List Value).toArray }).get? b = some o := fun b o e => Heap.get?_push_of_some _ e
  have hL0 : h₀.get? s.heap.objs.size = none := by
    cases e : h₀.get? s.heap.objs.size with
    | none => rfl
    | some o => have := K _ o e; rw [fresh_size] at this; cases this
  refine sub_loop (hit := hit) (len := len) p hL0 hcs hsr hlen (cs.length + 1) 0 0 _ [] [] (by exact ar207) (Nat.zero_le _) (fun b o e => hk b o (K b o e)) ⟨0, Heap.get?_push_size _ rfl⟩ ⟨rfl, rfl⟩ (by simpa using hN) (by simpa using hout) fun t' s' k1 k2 k3 => ?_
  refine ⟨⟨fun b o e => k1 b o (Nat.ne_of_lt (Heap.lt_size e)) (hk b o e), k2, fun i x e => k3 ▸ e, fun q => k3 ▸ q⟩, [], ⟨⟨t', by simp⟩, rfl⟩, List.nodup_nil, fun _ q => nomatch q⟩
end
end Mine
end
section
open PySem PySem.W PyProof.Rows PySem.Builtin PySem.Builtin.Str PySem.Builtin.Re
set_option maxRecDepth 100000
namespace Mine
section
variable {prog : Program} {w : World} {A : Around} {h₀ hE : Heap} {mg mb : Str → Option Value}

/-- a pattern object of the top -/
structure PatG (h₀ : Heap) (mg : Str → Option Value) (g : Str) (pat cd : Addr) (C : Array Nat) : Prop where
  at_ : PatAt h₀ pat cd C
  obj : ∃ po, h₀.get? pat = some po ∧ po.cls = .type "re.Pattern" ∧ po.dict = none
  name : mg g = some (.ref pat)

theorem ev_sub {ρ : Store} {sc : Scope} {env : Env} {g : Str} {pat cd : Addr} {C : Array Nat} {x y : Expr} {p1 ap pp : Pos} {s : Shared} {r cs : List Nat} {hit : Nat → Bool} {len : Nat → Nat} (G : GlOk prog w A h₀ mg mb) (Pt : PatG h₀ mg g pat cd C) (O : EnvOk sc env) (hg : globOk sc g = true) (hf : methFine (.Name g p1) ap pp = true)
    (hx : ∀ a b, x ≠ .Starred a b) (hy : ∀ a b, y ≠ .Starred a b)
    (h1 : ∀ s, Kp h₀ s → Vars prog w s.heap env ρ → wpAny (model prog w) A (eval x env) (fun v s' => Ext s s' ∧ ∃ t, v = .str ⟨r.toArray⟩ t) No s)
    (h2 : ∀ s, Kp h₀ s → Vars prog w s.heap env ρ → wpAny (model prog w) A (eval y env) (fun v s' => Ext s s' ∧ ∃ t, v = .str ⟨cs.toArray⟩ t) No s)
    (K : Kp h₀ s) (V : Vars prog w s.heap env ρ)
    (hcs : cs.length ≤ sizeLine) (hr : r.toArray.contains 92 = false)
    (hsr : ∀ q, q ≤ cs.length → ∃ k m', k ≤ 2 ^ 60 ∧ Go (Sre.forSearch C cs.toArray 0 q cs.toArray.size false) m' k ∧ (match firstAt hit (cs.length + 1 - q) q with
      | some p => m'.outcome = some .matched ∧ m'.start = p ∧ m'.handed = p + len p
      | none => m'.outcome = some .failed))
    (hlen : ∀ p, hit p = true → p < cs.length ∧ 1 ≤ len p ∧ p + len p ≤ cs.length) (hN : 2 * (cs.length + 1) ≤ sizeLine) (hout : (subF hit len r cs (cs.length + 1) 0).length ≤ sizeLine) :
    wpAny (model prog w) A (eval (.Call (.Attribute (.Name g p1) "sub" ap) [x, y] [] pp) env) (fun v s' => Ext s s' ∧ ∃ t, v = .str ⟨(subF hit len r cs (cs.length + 1) 0).toArray⟩ t) No s := by
  refine wpAny_meth hf (star2 hx hy) (by simp) (glob_name G hg O K Pt.name fun pl => ?_)
  obtain ⟨po, ho, hc, hd⟩ := Pt.obj
  refine getMethod_builtin (T := "re.Pattern") ⟨po, K _ _ ho, hc⟩ plainAttrs_pat slot_pat_sub type_pat_sub (fun b e => by cases e; exact ⟨po, K _ _ ho, hd⟩) ?_
  refine callWith_method1 (args_cons (wp_no (h1 s K V) fun va s₂ q₂ => ?_) (starEach_cons hx)) (starEach_cons hx) (by rw [starEach_cons hy]; rfl)
  obtain ⟨e2, t, rfl⟩ := q₂
  refine args_cons (wp_no (h2 s₂ (K.ext e2) (V.keeps e2.keep)) fun vb s₃ q₃ => args_nil ?_) (starEach_cons hy)
  obtain ⟨e3, u, rfl⟩ := q₃
  refine wp_no (call_sub Pt.at_ ho hc hcs hr hsr hlen hN hout ((K.ext e2).ext e3)) fun v s' q => ?_
  obtain ⟨e4, fp, ⟨⟨t', rfl⟩, _⟩, _⟩ := q
  exact ⟨(e2.trans e3).trans e4, t', rfl⟩

theorem crlf_search (cs : List Nat) : ∀ q, q ≤ cs.length → ∃ k m', k ≤ 2 ^ 60 ∧ Go (Sre.forSearch C2 cs.toArray 0 q cs.toArray.size false) m' k ∧ (match firstAt (nl cs.toArray) (cs.length + 1 - q) q with
      | some p => m'.outcome = some .matched ∧ m'.start = p ∧ m'.handed = p + len2 cs.toArray p
      | none => m'.outcome = some .failed) := fun q hq => by
  obtain ⟨k, m', h1, h2, h3⟩ := forSearch2 cs.toArray q false (by simpa using hq)
  refine ⟨k, m', Nat.le_trans h1 (by decide), h2, ?_⟩
  rw [show cs.toArray.size = cs.length by simp] at h3
  exact h3
theorem dot_search (cs : List Nat) (hl : cs.length ≤ lim) : ∀ q, q ≤ cs.length → ∃ k m', k ≤ 2 ^ 60 ∧ Go (Sre.forSearch C1 cs.toArray 0 q cs.toArray.size false) m' k ∧ (match firstAt (hit1 cs.toArray) (cs.length + 1 - q) q with
      | some p => m'.outcome = some .matched ∧ m'.start = p ∧ m'.handed = p + 1
      | none => m'.outcome = some .failed) := fun q hq => by
  obtain ⟨k, m', h1, h2, h3⟩ := forSearch1 cs.toArray q false (by simpa using hq)
  have hlim : lim = 1048576 := by decide
  refine ⟨k, m', Nat.le_trans h1 ?_, h2, ?_⟩
  · have : cs.toArray.size ≤ 1048576 := by rw [← hlim]; simpa using hl
    have h60 : (2 : Nat) ^ 60 = 1152921504606846976 := by decide
    exact ar262 this
  · rw [show cs.length + 1 - q = cs.toArray.size - q + 1 by simp; exact ar263 hq]
    exact h3
theorem nl_len (cs : List Nat) : ∀ p, nl cs.toArray p = true → p < cs.length ∧ 1 ≤ len2 cs.toArray p ∧ p + len2 cs.toArray p ≤ cs.length := fun p h => by
  unfold nl at h
  simp only [Bool.and_eq_true, decide_eq_true_eq] at h
  have hp : p < cs.length := by simpa using h.1
  unfold len2
  split
  · rename_i q
    simp only [Bool.and_eq_true, decide_eq_true_eq] at q
    have : p + 1 < cs.length := by simpa using q.1.2
    exact ar264 this
  · exact ar265 hp
theorem hit1_len (cs : List Nat) : ∀ p, hit1 cs.toArray p = true → p < cs.length ∧ 1 ≤ 1 ∧ p + 1 ≤ cs.length := fun p h => by
  unfold hit1 at h
  simp only [Bool.and_eq_true, decide_eq_true_eq] at h
  have : p < cs.length := by simpa using h.1.2
  exact ar265 this
end
end Mine
end
section
open PySem PySem.W PyProof.Rows PySem.Builtin PySem.Builtin.Str PySem.Builtin.Re
set_option maxRecDepth 100000
namespace Mine
section
variable {prog : Program} {w : World} {A : Around} {h₀ hE : Heap} {mg mb : Str → Option Value}

noncomputable def mailF (cs : List Nat) : List Nat := subF (nl cs.toArray) (len2 cs.toArray) [13, 10] cs (cs.length + 1) 0
noncomputable def sentF (m : List Nat) : List Nat := subF (hit1 m.toArray) (fun _ => 1) [46, 46] m (m.length + 1) 0

/-- quotedata -/
theorem call_quote {name x g1 g2 cr : Str} {params : Arguments} {scope : Scope} {pm cd doc : Value} {a pa1 pa2 c1 c2 : Addr} {o : Obj} {cs : List Nat} {tk : Tok} {s : Shared} {p1 p2 p3 p4 p5 p6 p7 p8 p9 p10 : Pos} {k3 : Nat} {body : List Stmt}
    (hbody : body = [.Return (some (.Call (.Attribute (.Name g1 p1) "sub" p2) [.Constant (.str "..") k3 p3, .Call (.Attribute (.Name g2 p4) "sub" p5) [.Name cr p6, .Name x p7] [] p8] [] p9)) p10])
    (G : ∀ env, GlOk prog w (A.deeper env) h₀ mg mb)
    (hroom : A.depth < recursionLimit) (ho : h₀.get? a = some o) (hdata : o.data = .func (Calls.docDef name params body scope pm cd doc)) (hlim : h₀.NoLimit) (hcd : h₀.CodeRec cd name)
    (hbind : ∀ v : Value, bindArgs (Calls.docDef name params body scope pm cd doc) ⟨[v], []⟩ = pure [(x, v)])
    (hco : scope.isCoroutine = false) (hgen : scope.isGenerator = false) (hk : scope.kind = .function) (hloc : scope.names.lookup x = some .local) (K : Kp h₀ s)
    (Q1 : PatG h₀ mg g1 pa1 c1 C1) (Q2 : PatG h₀ mg g2 pa2 c2 C2) (hg1 : globOk scope g1 = true) (hg2 : globOk scope g2 = true) (hgc : globOk scope cr = true) (hcr : ∃ t, mg cr = some (.str ⟨#[13, 10]⟩ t))
    (hf1 : methFine (.Name g1 p1) p2 p9 = true) (hf2 : methFine (.Name g2 p4) p5 p8 = true) (hev : ∀ env, EvS prog w (A.deeper env) h₀ scope (.Name x p7) ([(x, D.str cs)] : Store) (.str cs) [])
    (hl1 : cs.length ≤ lim) (hl2 : (mailF cs).length ≤ lim) (hl3 : (sentF (mailF cs)).length ≤ lim) :
    wpAny (model prog w) A (call (.ref a) [.str ⟨cs.toArray⟩ tk]) (fun v s' => New prog w s s' (.str (sentF (mailF cs))) v) No s := by
  have hl0 : lim = 1048576 := by decide
  have hsl : sizeLine = 16777216 := by decide
  refine call_one (cs := cs) hroom ho hdata hlim hcd hbind hco hgen hk hloc K fun env s' O R E1 => ?_
  rw [hbody]
  refine wpAny_execs_cons (wpAny_Return_some ?_)
  have K' : Kp h₀ s' := fun b o e => R.kp b o (K b o e)
  refine wp_no (ev_sub (ρ := [(x, D.str cs)]) (r := [46, 46]) (cs := mailF cs) (hit := hit1 (mailF cs).toArray) (len := fun _ => 1) (G env) Q1 O hg1 hf1 (fun _ _ q => by cases q) (fun _ _ q => by cases q) (fun s K V => ?_) (fun s K V => ?_) K' R.vars (by exact ar266 hl2 hl0 hsl) (by simp) (dot_search _ hl2) (hit1_len _) (by exact ar267 hl2 hl0 hsl) (by show (sentF (mailF cs)).length ≤ _; exact ar266 hl3 hl0 hsl)) fun v s'' q => ?_
  · refine wp_no (const_sound (c := .str "..") (d := .str [46, 46]) rfl) fun v s' q => ?_
    obtain ⟨e, fp, ⟨⟨t, rfl⟩, _⟩, _⟩ := q
    exact ⟨e, t, rfl⟩
  · refine ev_sub (ρ := [(x, D.str cs)]) (r := [13, 10]) (cs := cs) (hit := nl cs.toArray) (len := len2 cs.toArray) (G env) Q2 O hg2 hf2 (fun _ _ q => by cases q) (fun _ _ q => by cases q) (fun s K V => ?_) (fun s K V => ?_) K V (by exact ar266 hl1 hl0 hsl) (by simp) (crlf_search _) (nl_len _) (by exact ar267 hl1 hl0 hsl) (by show (mailF cs).length ≤ _; exact ar266 hl2 hl0 hsl)
    · obtain ⟨t, ht⟩ := hcr
      exact glob_name (G env) hgc O K ht ⟨Ext.refl s, t, rfl⟩
    · refine wp_no ((hev env).run env s O K V) fun v s' q => ?_
      obtain ⟨e, fp, ⟨⟨t, rfl⟩, _⟩, _⟩ := q
      exact ⟨e, t, rfl⟩
  · obtain ⟨e, t, rfl⟩ := q
    exact ⟨_, rfl, E1.trans e, [], ⟨⟨t, rfl⟩, rfl⟩, List.nodup_nil, fun _ q => nomatch q⟩
end
end Mine
end
section
open PySem
set_option maxRecDepth 100000
namespace Mine

/-- the rest of a text, from its front -/
theorem firstAt_front {hit : Nat → Bool} : ∀ n s, firstAt hit n s = if n = 0 then none else if hit s then some s else firstAt hit (n - 1) (s + 1)
  | 0, s => rfl
  | n + 1, s => rfl

theorem subF_end {hit : Nat → Bool} {len : Nat → Nat} {rep cs : List Nat} (hh : ∀ p, hit p = true → p < cs.length) (n q : Nat) (hq : cs.length ≤ q) : subF hit len rep cs n q = [] := by
  cases n with
  | zero => exact List.drop_of_length_le hq
  | succ n =>
    rw [subF, firstAt_none _ _ fun p hp => by
      cases h : hit p with
      | false => rfl
      | true => have := hh p h; exact (ar194 hq hp this).elim]
    exact List.drop_of_length_le hq
/-- one sign on -/
theorem subF_step {hit : Nat → Bool} {len : Nat → Nat} {rep cs : List Nat} (hh : ∀ p, hit p = true → p < cs.length ∧ 1 ≤ len p ∧ p + len p ≤ cs.length) : ∀ (n q : Nat), q < cs.length → cs.length - q < n →
    subF hit len rep cs n q = if hit q then rep ++ subF hit len rep cs (n - 1) (q + len q) else cs.getD q 0 :: subF hit len rep cs n (q + 1) := by
  intro n q hq hn
  obtain ⟨n, rfl⟩ : ∃ m, n = m + 1 := ⟨n - 1, by exact ar195 hn⟩
  rw [subF]
  have hf := firstAt_front (hit := hit) (cs.length + 1 - q) q
  rw [if_neg (by exact ar196 hq)] at hf
  rw [hf]
  cases h : hit q with
  | true =>
    simp
  | false =>
    simp only [Bool.false_eq_true, if_false]
    rw [subF, show cs.length + 1 - (q + 1) = cs.length + 1 - q - 1 by exact ar197]
    have hd : cs.drop q = cs.getD q 0 :: cs.drop (q + 1) := by
      rw [List.drop_eq_getElem_cons hq]
      simp [List.getD, List.getElem?_eq_getElem hq]
    cases hf2 : firstAt hit (cs.length + 1 - q - 1) (q + 1) with
    | none => exact hd
    | some p =>
      obtain ⟨_, hp⟩ := firstAt_hit hf2
      show (cs.drop q).take (p - q) ++ rep ++ _ = _ :: ((cs.drop (q + 1)).take (p - (q + 1)) ++ rep ++ _)
      rw [hd, show p - q = (p - (q + 1)) + 1 by exact ar198 hp, List.take_succ_cons]
      rfl

theorem normF_cons (c : Nat) (r : List Nat) : normF (c :: r) = if c = 13 ∧ r.head? = some 10 then 13 :: 10 :: normF r.tail else if c = 13 ∨ c = 10 then 13 :: 10 :: normF r else c :: normF r := by
  by_cases h : c = 13 ∧ r.head? = some 10
  · rw [if_pos h]
    obtain ⟨rfl, h⟩ := h
    cases r with
    | nil => simp at h
    | cons d r => simp at h; subst h; rfl
  · rw [if_neg h, normF]
    · by_cases h2 : c = 13 ∨ c = 10
      · rw [if_pos h2, if_pos (by simpa using h2)]
      · rw [if_neg h2, if_neg (by simpa using h2)]
    · rintro r' rfl rfl
      exact h ⟨rfl, rfl⟩

theorem mail_norm (cs : List Nat) : ∀ (k q n : Nat), cs.length - q = k → cs.length - q < n → subF (nl cs.toArray) (len2 cs.toArray) [13, 10] cs n q = normF (cs.drop q) := by
  intro k
  induction k using Nat.strongRecOn with
  | ind k ih =>
    intro q n hk hn
    by_cases hq : q < cs.length
    · rw [subF_step (nl_len cs) n q hq hn]
      have hd : cs.drop q = cs.getD q 0 :: cs.drop (q + 1) := by
        rw [List.drop_eq_getElem_cons hq]
        simp [List.getD, List.getElem?_eq_getElem hq]
      have hg : ∀ p, cs.toArray.getD p 0 = cs.getD p 0 := fun p => by simp [List.getD]
      have hnl : nl cs.toArray q = (cs.getD q 0 == 10 || cs.getD q 0 == 13) := by
        unfold nl
        rw [decide_eq_true (by simpa using hq), hg, Bool.true_and]
      rw [hnl, hd, normF_cons]
      have hhead : (cs.drop (q + 1)).head? = some 10 ↔ q + 1 < cs.length ∧ cs.getD (q + 1) 0 = 10 := by
        rw [List.head?_drop]
        by_cases h1 : q + 1 < cs.length
        · simp [List.getD, List.getElem?_eq_getElem h1, h1]
        · simp [List.getElem?_eq_none (Nat.le_of_not_lt h1), h1]
      by_cases h13 : cs.getD q 0 = 13
      · rw [h13]
        rw [if_pos (by decide)]
        by_cases hx : q + 1 < cs.length ∧ cs.getD (q + 1) 0 = 10
        · have hl : len2 cs.toArray q = 2 := by
            unfold len2
            rw [hg, hg, h13, hx.2, decide_eq_true (by simpa using hx.1)]; rfl
          rw [if_pos ⟨rfl, hhead.mpr hx⟩, hl, ih (cs.length - (q + 2)) (by exact ar199 hk hx) (q + 2) (n - 1) rfl (by exact ar200 hn hx), List.tail_drop]
          rfl
        · have hl : len2 cs.toArray q = 1 := by
            unfold len2
            rw [if_neg]
            simp only [Bool.and_eq_true, decide_eq_true_eq, beq_iff_eq, hg]
            exact fun h => hx ⟨by simpa using h.1.2, h.2⟩
          rw [if_neg (fun h => hx (hhead.mp h.2)), if_pos (.inl rfl), hl, ih (cs.length - (q + 1)) (by exact ar201 hk hq) (q + 1) (n - 1) rfl (by exact ar202 hn hq)]
          rfl
      · by_cases h10 : cs.getD q 0 = 10
        · have hl : len2 cs.toArray q = 1 := by
            unfold len2
            rw [hg, h10]; rfl
          rw [h10, if_pos (show ((10 == 10 || 10 == 13) = true) from rfl), if_neg (show ¬ (10 = 13 ∧ _) from fun h => absurd h.1 (by decide)), if_pos (show (10 = 13 ∨ 10 = 10) from .inr rfl), hl, ih (cs.length - (q + 1)) (by exact ar201 hk hq) (q + 1) (n - 1) rfl (by exact ar202 hn hq)]
          rfl
        · have hb : ¬ ((cs.getD q 0 == 10 || cs.getD q 0 == 13) = true) := by
            rw [Bool.or_eq_true, beq_iff_eq, beq_iff_eq]
            rintro (h | h)
            · exact h10 h
            · exact h13 h
          rw [if_neg hb, if_neg (show ¬ (cs.getD q 0 = 13 ∧ _) from fun h => h13 h.1), if_neg (show ¬ (cs.getD q 0 = 13 ∨ cs.getD q 0 = 10) from fun h => h.elim h13 h10), ih (cs.length - (q + 1)) (by exact ar201 hk hq) (q + 1) n rfl (by exact ar203 hn)]
    · rw [subF_end (fun p h => (nl_len cs p h).1) n q (by exact ar89 hq), List.drop_of_length_le (by exact ar89 hq)]
      rfl

theorem sent_dot (m : List Nat) : ∀ (k q n : Nat), m.length - q = k → m.length - q < n → subF (hit1 m.toArray) (fun _ => 1) [46, 46] m n q = dotF (q == 0 || m.getD (q - 1) 0 == 10) (m.drop q) := by
  intro k
  induction k with
  | zero =>
    intro q n hk hn
    rw [subF_end (fun p h => (hit1_len m p h).1) n q (by exact ar204 hk), List.drop_of_length_le (by exact ar204 hk)]
    cases (q == 0 || m.getD (q - 1) 0 == 10) <;> rfl
  | succ k ih =>
    intro q n hk hn
    have hq : q < m.length := by exact ar205 hk
    rw [subF_step (hit1_len m) n q hq hn]
    have hd : m.drop q = m.getD q 0 :: m.drop (q + 1) := by
      rw [List.drop_eq_getElem_cons hq]
      simp [List.getD, List.getElem?_eq_getElem hq]
    have hg : ∀ p, m.toArray.getD p 0 = m.getD p 0 := fun p => by simp [List.getD]
    have hh : hit1 m.toArray q = ((q == 0 || m.getD (q - 1) 0 == 10) && m.getD q 0 == 46) := by
      unfold hit1
      rw [decide_eq_true (by simpa using hq), hg, hg, Bool.and_true]
    rw [hh, hd]
    have e1 : ((q + 1 == 0) || m.getD (q + 1 - 1) 0 == 10) = (m.getD q 0 == 10) := by simp
    show _ = if ((q == 0 || m.getD (q - 1) 0 == 10) && m.getD q 0 == 46) = true then 46 :: 46 :: dotF false (m.drop (q + 1)) else m.getD q 0 :: dotF (m.getD q 0 == 10) (m.drop (q + 1))
    by_cases hx : ((q == 0 || m.getD (q - 1) 0 == 10) && m.getD q 0 == 46) = true
    · rw [if_pos hx, if_pos hx, ih (q + 1) (n - 1) (by exact ar206 hk) (by exact ar202 hn hq), e1]
      have : (m.getD q 0 == 10) = false := by
        have := (Bool.and_eq_true_iff.mp hx).2
        have : m.getD q 0 = 46 := by simpa using this
        rw [this]; rfl
      rw [this]; rfl
    · rw [if_neg hx, if_neg hx, ih (q + 1) n (by exact ar206 hk) (by exact ar203 hn), e1]

theorem quote_eq (cs : List Nat) : sentF (mailF cs) = quoteF cs := by
  have h1 : mailF cs = normF cs := by
    unfold mailF
    rw [mail_norm cs _ 0 (cs.length + 1) rfl (by exact ar207), List.drop_zero]
  unfold sentF quoteF
  rw [sent_dot _ _ 0 _ rfl (by exact ar207), List.drop_zero, h1]
  rfl
end Mine
end
section
open PySem PySem.W PyProof.Rows
set_option maxRecDepth 100000
namespace Mine
section
variable {prog : Program} {w : World}
noncomputable def inB1 (k : Int) : Bool := b1Rows.any fun p => ((p.1 : Nat) : Int) == k
theorem setB1 {h : Heap} {a : Addr} {led : Bool} (e : h.get? a = some (b1Obj led)) : h.SetOf (intKind prog w) a inB1 27 := by
  refine ⟨_, b1Entries, 29, b1Table led, e, ⟨rfl, rfl, rfl⟩, rfl, ?_, fun k => ?_, by decide, by cases led <;> rfl, by decide⟩
  · intro x hx
    have hx : x ∈ b1Rows.map fun p => ((p.1 : Int), Value.int (p.1 : Int) p.2) := by simpa [b1Entries] using hx
    obtain ⟨p, hp, rfl⟩ := List.mem_map.mp hx
    refine ⟨⟨(p.1 : Int), by simp [intKind, Value.isInt], ?_⟩, rfl⟩
    have : ∀ p ∈ b1Rows, ((p.1 : Nat) : Int) = hashInt ((p.1 : Nat) : Int) := by decide
    exact this p hp
  · constructor
    · intro hk
      unfold inB1 at hk
      obtain ⟨p, hp, hk⟩ := List.any_eq_true.mp hk
      have hk : ((p.1 : Nat) : Int) = k := by simpa using hk
      refine ⟨((p.1 : Int), Value.int (p.1 : Int) p.2), ?_, by simp [intKind, Value.isInt, hk]⟩
      simp only [b1Entries]
      exact List.mem_map.mpr ⟨p, hp, rfl⟩
    · rintro ⟨x, hx, hk⟩
      have hx : x ∈ b1Rows.map fun p => ((p.1 : Int), Value.int (p.1 : Int) p.2) := by simpa [b1Entries] using hx
      obtain ⟨p, hp, rfl⟩ := List.mem_map.mp hx
      have hk : ((p.1 : Nat) : Int) = k := by simpa [intKind, Value.isInt] using hk
      exact List.any_eq_true.mpr ⟨p, hp, by simpa using hk⟩
theorem inB1_eq (c : Nat) : inB1 (c : Int) = nothingL.contains c := by
  have h1 : ∀ x ∈ b1Rows.map (·.1), x ∈ nothingL := by decide
  have h2 : ∀ x ∈ nothingL, x ∈ b1Rows.map (·.1) := by decide
  rw [Bool.eq_iff_iff]
  unfold inB1
  rw [List.any_eq_true, List.contains_iff_mem]
  constructor
  · rintro ⟨p, hp, h⟩
    have h : p.1 = c := by
      have := of_decide_eq_true (p := ((p.1 : Nat) : Int) = c) (by simpa using h)
      exact ar268 this
    exact h ▸ h1 p.1 (List.mem_map_of_mem hp)
  · intro h
    obtain ⟨p, hp, e⟩ := List.mem_map.mp (h2 c h)
    exact ⟨p, hp, by rw [e]; exact beq_self_eq_true _⟩

theorem patAt1 {h : Heap} (e1 : h.get? 57 = some pat1) (e2 : h.get? 56 = some (codesObj codes1)) : PatAt h 57 56 C1 :=
  ⟨_, _, _, _, _, e1, rfl, rfl, rfl, rfl, e2, rfl, by decide +kernel⟩
theorem patAt2 {h : Heap} (e1 : h.get? 62 = some pat2) (e2 : h.get? 61 = some (codesObj codes2)) : PatAt h 62 61 C2 :=
  ⟨_, _, _, _, _, e1, rfl, rfl, rfl, rfl, e2, rfl, by decide +kernel⟩
end
end Mine
end
section
open PySem PySem.W PyProof.Rows
set_option maxRecDepth 100000
set_option maxHeartbeats 1000000
namespace Mine
noncomputable def recNamed (nm : Str) : Option (Arguments × List Stmt × Scope) := PySem.Challenge.pw_sh0013_01.main.body.findSome? fun st => match st with
  | .FunctionDef n a b _ _ _ sc _ _ _ => if n == nm then some (a, b, sc) else none
  | _ => none
/-- arguments by their places -/
noncomputable def Binds (p : Arguments) (b : List Stmt) (sc : Scope) (xs : List Str) : Prop := ∀ (nm : Str) (pm cd doc : Value) (vs : List Value), vs.length = xs.length → bindArgs (Calls.docDef nm p b sc pm cd doc) ⟨vs, []⟩ = pure (xs.zip vs)
theorem binds1 {p : Arguments} {b : List Stmt} {sc : Scope} {x : Str} (h : ∀ nm pm cd doc v, bindArgs (Calls.docDef nm p b sc pm cd doc) ⟨[v], []⟩ = pure [(x, v)]) : Binds p b sc [x] := fun nm pm cd doc vs hl => by
  match vs, hl with
  | [], hl => cases hl
  | [v], hl => exact h nm pm cd doc v
  | v :: u :: r, hl => cases hl
theorem binds2 {p : Arguments} {b : List Stmt} {sc : Scope} {x y : Str} (h : ∀ nm pm cd doc v u, bindArgs (Calls.docDef nm p b sc pm cd doc) ⟨[v, u], []⟩ = pure [(x, v), (y, u)]) : Binds p b sc [x, y] := fun nm pm cd doc vs hl => by
  match vs, hl with
  | [], hl => cases hl
  | [v], hl => cases hl
  | [v, u], hl => exact h nm pm cd doc v u
  | v :: u :: t :: r, hl => cases hl
theorem binds3 {p : Arguments} {b : List Stmt} {sc : Scope} {x y z : Str} (h : ∀ nm pm cd doc v u t, bindArgs (Calls.docDef nm p b sc pm cd doc) ⟨[v, u, t], []⟩ = pure [(x, v), (y, u), (z, t)]) : Binds p b sc [x, y, z] := fun nm pm cd doc vs hl => by
  match vs, hl with
  | [], hl => cases hl
  | [v], hl => cases hl
  | [v, u], hl => cases hl
  | [v, u, t], hl => exact h nm pm cd doc v u t
  | v :: u :: t :: x :: r, hl => cases hl
end Mine
end
section
open PySem PySem.W PyProof.Rows
set_option maxRecDepth 100000
set_option maxHeartbeats 1000000
namespace Mine
noncomputable def allFns : List Str := ["_strip_quoted_realnames", "_check_parenthesis", "ISNONTERMINAL", "ISEOF", "_law_mail", "_law_hooks", "_law_end", "_law_pieces", "_law_orders", "quotedata", "in_table_b1", "_iter_escaped_chars", "law"]
structure Base (prog : Program) (w : World) (h₀ : Heap) (mg mb : Str → Option Value) : Prop where
  g : h₀.Ns mainGlobals mg
  b : h₀.Ns builtinsNs mb
  nolimit : h₀.NoLimit
  blt : ∀ x ∈ builtins1, mg x = none ∧ mb x = bootBuiltins x
  fns : ∀ nm ∈ allFns, ∀ p bd sc, recNamed nm = some (p, bd, sc) → ∃ a o pm cd doc, mg nm = some (.ref a) ∧ h₀.get? a = some o ∧ o.data = .func (Calls.docDef nm p bd sc pm cd doc) ∧ h₀.CodeRec cd nm
  crlf : ∃ t, mg "CRLF" = some (.str ⟨#[13, 10]⟩ t)
  nt : ∃ t, mg "NT_OFFSET" = some (.int 256 t)
  em : ∃ t, mg "ENDMARKER" = some (.int 0 t)
  q1 : PatG h₀ mg "_twin_re_1" 57 56 C1
  q2 : PatG h₀ mg "_twin_re_2" 62 61 C2
  set : mg "b1_set" = some (.ref 77) ∧ h₀.SetOf (intKind prog w) 77 inB1 27

/-- where the text is walked -/
structure Cx where
  prog : Program
  w : World
  A : Around
  h : Heap
  mg : Str → Option Value
  mb : Str → Option Value
  B : Base prog w h mg mb
  hnd : A.handled = none
  room : A.units + 200 < cLine
theorem Cx.gl (C : Cx) : GlOk C.prog C.w C.A C.h C.mg C.mb := ⟨C.B.g, C.B.b, C.hnd, C.room, C.B.blt⟩
/-- so many calls deep there is room -/
noncomputable def Rm (C : Cx) (k : Nat) : Prop := C.A.depth + k < recursionLimit ∧ C.A.units + 3 * k + 300 < cLine
noncomputable def Cx.deep (C : Cx) (env : Env) {k : Nat} (h : Rm C (k + 1)) : Cx := ⟨C.prog, C.w, C.A.deeper env, C.h, C.mg, C.mb, C.B, C.hnd, by have := h.2; show C.A.units + 3 + 200 < _; exact ar269 this⟩
theorem Rm.deep {C : Cx} {env : Env} {k : Nat} (h : Rm C (k + 1)) : Rm (C.deep env h) k := ⟨by have := h.1; show C.A.depth + 1 + k < _; exact ar270 this, by have := h.2; show C.A.units + 3 + 3 * k + 300 < _; exact ar271 this⟩
theorem Rm.here {C : Cx} {k : Nat} (h : Rm C (k + 1)) : C.A.depth < recursionLimit := by have := h.1; exact ar272 this
theorem Rm.le {C : Cx} {k : Nat} (h : Rm C (k + 1)) : Rm C k := ⟨by have := h.1; exact ar273 this, by have := h.2; exact ar274 this⟩

noncomputable def FnC (C : Cx) (f : Str) (ds : List D) (r : D) : Prop := FnS C.prog C.w C.A C.h C.mg f ds r
noncomputable def FnY (C : Cx) (f : Str) (ds : List D) (Y : D → Prop) : Prop := FnQ C.prog C.w C.A C.h C.mg f ds Y
noncomputable def GenC (C : Cx) (f : Str) (ds l : List D) : Prop := GenS C.prog C.w C.A C.h C.mg f ds l
structure Xs (C : Cx) (sc : Scope) (fz md : List Str) (b : List Stmt) (ρ : Store) (Q : Fl → Store → Prop) : Prop where
  run : ExsS C.prog C.w C.A C.h sc fz md b ρ Q
theorem fn_any {C : Cx} {k : Nat} (hR : Rm C (k + 1)) {f : Str} {p : Arguments} {b : List Stmt} {sc : Scope} {xs : List Str} {ds : List D} {Y : D → Prop} {md : List Str} (hf : allFns.contains f = true) (hr : recNamed f = some (p, b, sc)) (hb : Binds p b sc xs)
    (hs : (!sc.isCoroutine && !sc.isGenerator && sc.kind == .function && p.args.map (·.arg) == xs) = true) (h0 : (ds.length == xs.length && xs.all (bindOk sc) && noDup xs && ds.all D.ok && decide ((ds.filter D.mut).length ≤ 1)) = true)
    (h : ∀ C, Rm C k → Xs C sc (fzOf xs ds) md b (startOf xs ds) fun f _ => ∃ r, f = .ret r ∧ Y r) : FnY C f ds Y := by
  obtain ⟨a, o, pm, cd, doc, h1, h2, h3, h4⟩ := C.B.fns f (by simpa using hf) p b sc hr
  simp only [Bool.and_eq_true, beq_iff_eq, decide_eq_true_eq, Bool.not_eq_true'] at h0 hs
  obtain ⟨⟨⟨⟨c1, c2⟩, c3⟩, c4⟩, c5⟩ := h0
  obtain ⟨⟨⟨s1, s2⟩, s3⟩, rfl⟩ := hs
  exact ⟨a, o, _, h1, h2, h3, fun s K vs fp rd => call_user hR.here h2 h3 C.B.nolimit h4 (fun vs hl => hb f pm cd doc vs hl) s1 s2 s3 c1 c2 c3 c4 c5 (fun env => (h (C.deep env hR) hR.deep).run) K rd⟩
theorem fn_of {C : Cx} {k : Nat} (hR : Rm C (k + 1)) {f : Str} {p : Arguments} {b : List Stmt} {sc : Scope} (xs : List Str) {ds : List D} {r : D} (md : List Str) (hf : allFns.contains f = true) (hr : recNamed f = some (p, b, sc)) (hb : Binds p b sc xs)
    (hs : (!sc.isCoroutine && !sc.isGenerator && sc.kind == .function && p.args.map (·.arg) == xs) = true) (h0 : (ds.length == xs.length && xs.all (bindOk sc) && noDup xs && ds.all D.ok && decide ((ds.filter D.mut).length ≤ 1)) = true)
    (h : ∀ C, Rm C k → Xs C sc (fzOf xs ds) md b (startOf xs ds) fun f _ => f = .ret r) : FnC C f ds r :=
  fn_any hR hf hr hb hs h0 fun C hR => ⟨fun hE env s O K R => wp_no ((h C hR).run hE env s O K R) fun f s' q => let ⟨fl, ρ', e, q⟩ := q; ⟨fl, ρ', ⟨r, e, rfl⟩, q⟩⟩

variable {C : Cx} {k : Nat}
theorem gen_facts2 (C : Cx) : ∃ (p : Arguments) (sc : Scope) (gb : List Stmt) (st1 st2 : Stmt) (t e1 y1 : Expr) (st3 : Stmt) (e2 : Expr) (st4 : Stmt) (y2 e3 y3 : Expr) (p1 p2 p3 p4 p5 p6 p7 p8 p9 q1 q2 q3 q4 : Pos), recNamed "_iter_escaped_chars" = some (p, gb, sc) ∧
    gb = [st1, st2, .For t (.Call (.Name "enumerate" q1) [.Name "addr" q2] [] q3) [.If e1 [.Expr (.Yield (some y1) p1) p2, st3] [.If e2 [st4] [.Expr (.Yield (some y2) p3) p4] p5] p6] [] q4, .If e3 [.Expr (.Yield (some y3) p7) p8] [] p9] ∧
    GFacts C.prog C.w C.h C.mg C.mb sc st1 st2 t e1 y1 st3 e2 st4 y2 e3 y3 ∧ globOk sc "enumerate" = true ∧ (∀ A, GlOk C.prog C.w A C.h C.mg C.mb → ∀ a, EvS C.prog C.w A C.h sc (.Name "addr" q2) (gst a 0 false none) (.str a) []) ∧
    (∀ (nm : Str) (pm cd doc v : Value), bindArgs (Calls.docDef nm p gb sc pm cd doc) ⟨[v], []⟩ = pure [(("addr" : Str), v)]) ∧ sc.isCoroutine = false ∧ sc.isGenerator = true ∧ sc.kind = .function ∧ (∀ x ∈ sc.names, x.2 ≠ .cell) ∧ sc.names.lookup ("addr" : Str) = some .local := by
  refine ⟨_, _, _, _, _, _, _, _, _, _, _, _, _, _, _, _, _, _, _, _, _, _, _, _, _, _, _, rfl, rfl, ?_, by decide +kernel, fun A G a => ev_NameL (by rfl) (by decide +kernel), fun _ _ _ _ _ => rfl, by rfl, by rfl, by rfl, by decide, by decide⟩
  constructor
  · exact fun A G a => ex_Name (bs := []) (by decide +kernel) (by decide +kernel) (ev_Const rfl) rfl fun _ q => nomatch q
  · exact fun A G a => ex_Name (bs := []) (by decide +kernel) (by decide +kernel) (ev_Const rfl) rfl fun _ q => nomatch q
  · rfl
  · decide +kernel
  · intro a p e c j d
    cases c <;> exact .two (by decide +kernel) (by decide +kernel) rfl rfl
  · exact fun A G a p e c => b_value (ev_NameL (by rfl) (by decide +kernel)) fun _ => rfl
  · exact fun A G a p e c => ev_Tuple (evT_cons (ev_NameL (by rfl) (by decide +kernel)) (evT_cons (ev_BinOp (ev_Const (d := .str [92]) rfl) (ev_NameL (d := .str [c]) (by rfl) (by decide +kernel)) (.cat (Nat.le_of_ble_eq_true rfl))) evT_nil (Nat.le_of_ble_eq_true rfl)) (Nat.le_of_ble_eq_true rfl)) (Nat.le_of_ble_eq_true rfl)
  · exact fun A G a p e c => ex_Name (bs := []) (by decide +kernel) (by decide +kernel) (ev_Const rfl) rfl fun _ q => nomatch q
  · intro A G a p e c
    have : ([c] == [92]) = (c == 92) := by rw [Bool.eq_iff_iff]; simp
    rw [← this]
    exact b_cmp G rfl (ev_NameL (by rfl) (by decide +kernel)) (ev_Const rfl) (.eqS _ _)
  · exact fun A G a p e c => ex_Name (bs := []) (by decide +kernel) (by decide +kernel) (ev_Const rfl) rfl fun _ q => nomatch q
  · exact fun A G a p e c => ev_Tuple (evT_cons (ev_NameL (by rfl) (by decide +kernel)) (evT_cons (ev_NameL (by rfl) (by decide +kernel)) evT_nil (Nat.le_of_ble_eq_true rfl)) (Nat.le_of_ble_eq_true rfl)) (Nat.le_of_ble_eq_true rfl)
  · intro A G a p e c
    cases c <;> exact b_value (ev_NameL (by rfl) (by decide +kernel)) fun _ => rfl
  · intro A G a p e c
    cases c <;> exact ev_Tuple (evT_cons (ev_NameL (by rfl) (by decide +kernel)) (evT_cons (ev_Const rfl) evT_nil (Nat.le_of_ble_eq_true rfl)) (Nat.le_of_ble_eq_true rfl)) (Nat.le_of_ble_eq_true rfl)
theorem g_esc (hR : Rm C (k + 1)) (cs : List Nat) : GenC C "_iter_escaped_chars" [.str cs] (escF 0 false cs) := by
  obtain ⟨p, sc, gb, st1, st2, t, e1, y1, st3, e2, st4, y2, e3, y3, p1, p2, p3, p4, p5, p6, p7, p8, p9, q1, q2, q3, q4, hr, hgb, F, hen, had, hb, hco, hgen, hk, hnc, hloc⟩ := gen_facts2 C
  obtain ⟨a, o, pm, cd, doc, h1, h2, h3, h4⟩ := C.B.fns _ (by decide) _ _ _ hr
  refine ⟨a, o, _, h1, h2, h3, fun s K vs fp rd hl him => ?_⟩
  obtain ⟨v, q', f1, f2, rfl, _, ⟨⟨tk, rfl⟩, _⟩, rfl, _⟩ := rd
  exact gen_call F C.B.g C.B.b C.B.blt C.B.nolimit C.hnd (by have := hR.2; exact ar275 this) hR.here hen had hgb h2 h3 h4 (hb _ _ _ _) hco hgen hk hnc hloc K hl
theorem b1_facts : ∃ (p : Arguments) (sc : Scope) (p1 p2 p3 p4 p5 p6 : Pos), recNamed "in_table_b1" = some (p, [.Return (some (.Compare (.Call (.Name "ord" p1) [.Name "code" p2] [] p3) [.In] [.Name "b1_set" p4] p5)) p6], sc) ∧
    (∀ (nm : Str) (pm cd doc v : Value) b, bindArgs (Calls.docDef nm p b sc pm cd doc) ⟨[v], []⟩ = pure [(("code" : Str), v)]) ∧ sc.isCoroutine = false ∧ sc.isGenerator = false ∧ sc.kind = .function ∧ sc.names.lookup ("code" : Str) = some .local ∧
    kindOk sc "code" = true ∧ globOk sc "ord" = true ∧ globOk sc "b1_set" = true :=
  ⟨_, _, _, _, _, _, _, _, rfl, fun _ _ _ _ _ _ => rfl, rfl, rfl, rfl, by decide, by decide +kernel, by decide +kernel, by decide +kernel⟩
theorem f_b1 (hR : Rm C (k + 1)) (c : Nat) : FnC C "in_table_b1" [.str [c]] (.bool (nothingL.contains c)) := by
  obtain ⟨p, sc, p1, p2, p3, p4, p5, p6, hr, hb, hco, hgen, hk, hloc, hkc, hgo, hgg⟩ := b1_facts
  obtain ⟨a, o, pm, cd, doc, h1, h2, h3, h4⟩ := C.B.fns _ (by decide) _ _ _ hr
  refine ⟨a, o, _, h1, h2, h3, fun s K vs fp rd => ?_⟩
  obtain ⟨v, q', f1, f2, rfl, _, ⟨⟨t, rfl⟩, _⟩, rfl, _⟩ := rd
  have := call_b1 (c := c) (tk := t) (fun env => (C.deep env hR).gl) hR.here h2 h3 C.B.nolimit h4 (fun v => hb _ _ _ _ v _) hco hgen hk hloc K (fun env => ev_Call1 (C.deep env hR).gl hgo (ev_NameL (by rfl) hkc) (.ord c)) hgg C.B.set.1 C.B.set.2
  rw [inB1_eq] at this
  exact wp_no this fun _ _ q => ⟨_, rfl, q⟩
theorem quote_facts : ∃ (p : Arguments) (sc : Scope) (p1 p2 p3 p4 p5 p6 p7 p8 p9 p10 : Pos) (k3 : Nat), recNamed "quotedata" = some (p, [.Return (some (.Call (.Attribute (.Name "_twin_re_1" p1) "sub" p2) [.Constant (.str "..") k3 p3, .Call (.Attribute (.Name "_twin_re_2" p4) "sub" p5) [.Name "CRLF" p6, .Name "data" p7] [] p8] [] p9)) p10], sc) ∧
    (∀ (nm : Str) (pm cd doc v : Value) b, bindArgs (Calls.docDef nm p b sc pm cd doc) ⟨[v], []⟩ = pure [(("data" : Str), v)]) ∧ sc.isCoroutine = false ∧ sc.isGenerator = false ∧ sc.kind = .function ∧ sc.names.lookup ("data" : Str) = some .local ∧
    globOk sc "_twin_re_1" = true ∧ globOk sc "_twin_re_2" = true ∧ globOk sc "CRLF" = true ∧ methFine (.Name "_twin_re_1" p1) p2 p9 = true ∧ methFine (.Name "_twin_re_2" p4) p5 p8 = true ∧ kindOk sc "data" = true :=
  ⟨_, _, _, _, _, _, _, _, _, _, _, _, _, rfl, fun _ _ _ _ _ _ => rfl, rfl, rfl, rfl, by decide, by decide +kernel, by decide +kernel, by decide +kernel, rfl, rfl, by decide +kernel⟩
theorem f_quote (hR : Rm C (k + 1)) {cs : List Nat} (h1 : cs.length ≤ lim) (h2 : (normF cs).length ≤ lim) (h3 : (quoteF cs).length ≤ lim) : FnC C "quotedata" [.str cs] (.str (quoteF cs)) := by
  obtain ⟨p, sc, p1, p2, p3, p4, p5, p6, p7, p8, p9, p10, k3, hr, hb, hco, hgen, hk, hloc, g1, g2, g3, m1, m2, hkd⟩ := quote_facts
  obtain ⟨a, o, pm, cd, doc, e1, e2, e3, e4⟩ := C.B.fns _ (by decide) _ _ _ hr
  refine ⟨a, o, _, e1, e2, e3, fun s K vs fp rd => ?_⟩
  obtain ⟨v, q', f1, f2, rfl, _, ⟨⟨t, rfl⟩, _⟩, rfl, _⟩ := rd
  have hm : mailF cs = normF cs := by unfold mailF; rw [mail_norm cs _ 0 (cs.length + 1) rfl (by exact ar207), List.drop_zero]
  have := call_quote (k3 := k3) (cs := cs) (tk := t) rfl (fun env => (C.deep env hR).gl) hR.here e2 e3 C.B.nolimit e4 (fun v => hb _ _ _ _ v _) hco hgen hk hloc K C.B.q1 C.B.q2 g1 g2 g3 C.B.crlf m1 m2 (fun env => ev_NameL (by rfl) hkd) h1 (by rw [hm]; exact h2) (by rw [quote_eq]; exact h3)
  rw [quote_eq] at this
  exact wp_no this fun _ _ q => ⟨_, rfl, q⟩
end Mine
end
section
open PySem PySem.W PyProof.Rows
set_option maxRecDepth 100000
set_option maxHeartbeats 1000000
namespace Mine
theorem recs_in : ∀ nm ∈ allFns, ∃ d ∈ recsOf q, d.name = nm ∧ recNamed nm = some (d.params, d.body, d.scope) := by
  intro nm h
  simp only [allFns, List.mem_cons, List.not_mem_nil, or_false] at h
  rcases h with rfl | rfl | rfl | rfl | rfl | rfl | rfl | rfl | rfl | rfl | rfl | rfl | rfl
  · exact ⟨_, List.mem_of_getElem? (i := 1) rfl, rfl, rfl⟩
  · exact ⟨_, List.mem_of_getElem? (i := 2) rfl, rfl, rfl⟩
  · exact ⟨_, List.mem_of_getElem? (i := 5) rfl, rfl, rfl⟩
  · exact ⟨_, List.mem_of_getElem? (i := 6) rfl, rfl, rfl⟩
  · exact ⟨_, List.mem_of_getElem? (i := 7) rfl, rfl, rfl⟩
  · exact ⟨_, List.mem_of_getElem? (i := 8) rfl, rfl, rfl⟩
  · exact ⟨_, List.mem_of_getElem? (i := 9) rfl, rfl, rfl⟩
  · exact ⟨_, List.mem_of_getElem? (i := 10) rfl, rfl, rfl⟩
  · exact ⟨_, List.mem_of_getElem? (i := 11) rfl, rfl, rfl⟩
  · exact ⟨_, List.mem_of_getElem? (i := 3) rfl, rfl, rfl⟩
  · exact ⟨_, List.mem_of_getElem? (i := 4) rfl, rfl, rfl⟩
  · exact ⟨_, List.mem_of_getElem? (i := 0) rfl, rfl, rfl⟩
  · exact ⟨_, List.mem_of_getElem? (i := 12) rfl, rfl, rfl⟩
end Mine
end
section
open PySem PySem.W PyProof.Rows
set_option maxRecDepth 100000
set_option maxHeartbeats 1000000
namespace Mine
variable {prog : Program} {w : World} {h₀ : Heap} {mg mb : Str → Option Value} {lo : List Str} {mean : ExcName → Option Value}
theorem base_fns (T : Top q lo mean mg mb h₀) : ∀ nm ∈ allFns, ∀ p bd sc, recNamed nm = some (p, bd, sc) → ∃ a o pm cd doc, mg nm = some (.ref a) ∧ h₀.get? a = some o ∧ o.data = .func (Calls.docDef nm p bd sc pm cd doc) ∧ h₀.CodeRec cd nm := by
  intro nm h p bd sc hr
  obtain ⟨d, hd, rfl, e⟩ := recs_in nm h
  rw [e] at hr
  cases hr
  obtain ⟨a, o, pm, code, doc, h1, h2, h3, h4⟩ := T.fn d hd
  exact ⟨a, o, pm, code, doc, h1, h2, h3, h4⟩
end Mine
end
section
open PySem PySem.W
set_option maxRecDepth 100000
set_option maxHeartbeats 1000000
namespace Mine
noncomputable def EvC (C : Cx) (sc : Scope) (e : Expr) (ρ : Store) (d : D) (b : List Str) : Prop := EvS C.prog C.w C.A C.h sc e ρ d b
noncomputable def EvsC (C : Cx) (sc : Scope) (es : List Expr) (ρ : Store) (ds : List D) : Prop := EvsS C.prog C.w C.A C.h sc es ρ ds
noncomputable def EvtC (C : Cx) (sc : Scope) (es : List Expr) (ρ : Store) (ds : List D) (b : List Str) : Prop := EvTS C.prog C.w C.A C.h sc es ρ ds b
noncomputable def EvoC (C : Cx) (sc : Scope) (e : Option Expr) (ρ : Store) (r : Option Int) : Prop := EvOS C.prog C.w C.A C.h sc e ρ r
noncomputable def EviC (C : Cx) (sc : Scope) (t : Bool) (e : Expr) (ρ : Store) (l : List D) (b : List Str) : Prop := EvItS C.prog C.w C.A C.h sc t e ρ l b
structure EvbC (C : Cx) (sc : Scope) (e : Expr) (ρ : Store) (b : Bool) : Prop where
  run : EvBS C.prog C.w C.A C.h sc e ρ b
structure EvlC (C : Cx) (sc : Scope) (op : BoolOp) (es : List Expr) (ρ : Store) (b : Bool) : Prop where
  run : EvBoolS C.prog C.w C.A C.h sc op es ρ b
structure EvfC (C : Cx) (sc : Scope) (es : List Expr) (ρ : Store) (b : Bool) : Prop where
  run : EvBsS C.prog C.w C.A C.h sc es ρ b
noncomputable def CompC (C : Cx) (sc : Scope) (elt t : Expr) (ifs : List Expr) (l : List D) (ρ : Store) (ds : List D) : Prop := CompS C.prog C.w C.A C.h sc elt t ifs l ρ ds
noncomputable def Comp2C (C : Cx) (sc : Scope) (elt t t' it' : Expr) (l : List D) (ρ : Store) (ds : List D) : Prop := Comp2S C.prog C.w C.A C.h sc elt t t' it' l ρ ds
noncomputable def ExC (C : Cx) (sc : Scope) (fz md : List Str) (st : Stmt) (ρ ρ' : Store) : Prop := ExN C.prog C.w C.A C.h sc fz md st ρ ρ'
structure X1 (C : Cx) (sc : Scope) (fz md : List Str) (st : Stmt) (ρ : Store) (Q : Fl → Store → Prop) : Prop where
  run : ExS C.prog C.w C.A C.h sc fz md st ρ Q
structure LpC (C : Cx) (sc : Scope) (fz md : List Str) (t : Expr) (b : List Stmt) (l : List D) (ρ : Store) (Q : Fl → Store → Prop) : Prop where
  run : LoopS C.prog C.w C.A C.h sc fz md t b l ρ Q
noncomputable def ThenC (C : Cx) (sc : Scope) (fz md : List Str) (r : List Stmt) (Q : Fl → Store → Prop) (f : Fl) (ρ : Store) : Prop := match f with
  | .next => Xs C sc fz md r ρ Q
  | f => Q f ρ
theorem ThenC.then {C : Cx} {sc : Scope} {fz md : List Str} {r : List Stmt} {Q : Fl → Store → Prop} {f : Fl} {ρ : Store} (h : ThenC C sc fz md r Q f ρ) : Then C.prog C.w C.A C.h sc fz md r Q f ρ := by
  cases f
  · exact Xs.run h
  · exact h
  · exact h
  · exact h
variable {C : Cx} {sc : Scope} {ρ ρ' ρ'' : Store} {fz md : List Str} {Q : Fl → Store → Prop}

theorem y_c {c k p d} (h : constD c = some d) : EvC C sc (.Constant c k p) ρ d [] := ev_Const h
theorem y_n {x p d} (h : ρ.get x = some d) (hk : kindOk sc x = true) (hm : d.mut = false) : EvC C sc (.Name x p) ρ d [] := by
  have := ev_NameL (prog := C.prog) (w := C.w) (A := C.A) (h₀ := C.h) (pos := p) h hk
  rw [hm] at this
  exact this
theorem y_nm {x p d} (h : ρ.get x = some d) (hk : kindOk sc x = true) (hm : d.mut = true) : EvC C sc (.Name x p) ρ d [x] := by
  have := ev_NameL (prog := C.prog) (w := C.w) (A := C.A) (h₀ := C.h) (pos := p) h hk
  rw [hm] at this
  exact this
theorem y_nt {p} (hk : globOk sc ("NT_OFFSET" : Str) = true) : EvC C sc (.Name ("NT_OFFSET" : Str) p) ρ (.int 256) [] :=
  let ⟨t, e⟩ := C.B.nt; ev_NameG C.gl hk e fun _ => ⟨⟨t, rfl⟩, rfl⟩
theorem y_em {p} (hk : globOk sc ("ENDMARKER" : Str) = true) : EvC C sc (.Name ("ENDMARKER" : Str) p) ρ (.int 0) [] :=
  let ⟨t, e⟩ := C.B.em; ev_NameG C.gl hk e fun _ => ⟨⟨t, rfl⟩, rfl⟩
theorem y_bin {l op r p a b c d e} (h : EvC C sc l ρ a b) (h' : EvC C sc r ρ c d) (ho : OpR op a c e) : EvC C sc (.BinOp l op r p) ρ e [] := ev_BinOp h h' ho
theorem y_un {op r p a b e} (h : EvC C sc r ρ a b) (ho : UopR op a e) : EvC C sc (.UnaryOp op r p) ρ e [] := ev_UnaryOp h ho
theorem y_cmp {l op r p a b c d e} (hb : behindInMarks op r = false) (h : EvC C sc l ρ a b) (h' : EvC C sc r ρ c d) (ho : CmpR op a c e) : EvC C sc (.Compare l [op] [r] p) ρ (.bool e) [] := ev_Compare C.gl hb h h' ho
theorem y_list {es p ds} (h : EvsC C sc es ρ ds) (hi : D.ims ds = true) (hl : ds.length ≤ lim) : EvC C sc (.List es p) ρ (.list ds) [] := ev_List h hi hl
theorem y_tup {es k p ds b} (h : EvtC C sc es ρ ds b) (hl : ds.length ≤ lim) : EvC C sc (.Tuple es k p) ρ (.tuple ds) b := ev_Tuple h hl
theorem y_dict0 {p} : EvC C sc (.Dict [] [] p) ρ (.dict []) [] := ev_Dict0 C.gl
theorem y_dict1 {k v p i j b c} (h : EvC C sc k ρ (.int i) b) (h' : EvC C sc v ρ (.int j) c) : EvC C sc (.Dict [some k] [v] p) ρ (.dict [(i, j)]) [] := ev_Dict1 C.gl h h'
theorem y_slice {a lo hi p p' d b l u e} (hn : (nameId a).isNone = false) (h : EvC C sc a ρ d b) (h1 : EvoC C sc lo ρ l) (h2 : EvoC C sc hi ρ u) (h3 : sliceD d l u = some e) : EvC C sc (.Subscript a (.Slice lo hi none p) p') ρ e [] := ev_Slice hn h h1 h2 h3
theorem y_sub {a i p d b e c r} (hn : noSlice i = true) (h : EvC C sc a ρ d b) (h1 : EvC C sc i ρ e c) (h2 : subD d e = some r) : EvC C sc (.Subscript a i p) ρ r [] := ev_Subscript hn h h1 h2
theorem y_meth {o m ap a pp d b e c r} (hm : methFine o ap pp = true) (h : EvC C sc o ρ d b) (h1 : EvC C sc a ρ e c) (h2 : MethR m d e r) : EvC C sc (.Call (.Attribute o m ap) [a] [] pp) ρ r [] := ev_Meth1 hm h h1 h2
theorem y_get2 {o ap a a' pp l b i c j e} (hm : methFine o ap pp = true) (h : EvC C sc o ρ (.dict l) b) (h1 : EvC C sc a ρ (.int i) c) (h2 : EvC C sc a' ρ (.int j) e) : EvC C sc (.Call (.Attribute o "get" ap) [a, a'] [] pp) ρ (.int ((l.lookup i).getD j)) [] := ev_Get hm h h1 h2
theorem y_call1 {f p a p' d b r} (hg : globOk sc f = true) (h : EvC C sc a ρ d b) (h2 : Call1R f d r) : EvC C sc (.Call (.Name f p) [a] [] p') ρ r [] := ev_Call1 C.gl hg h h2
theorem y_range {p q p' p'' a b i j c d} (hg : globOk sc ("list" : Str) = true) (hg' : globOk sc ("range" : Str) = true) (h : EvC C sc a ρ (.int i) c) (h' : EvC C sc b ρ (.int j) d) (h0 : 0 ≤ i) (h1 : i ≤ j) (h2 : j ≤ (lim : Int)) :
    EvC C sc (.Call (.Name ("list" : Str) p) [.Call (.Name ("range" : Str) q) [a, b] [] p''] [] p') ρ (.list (rangeD i (j - i).toNat)) [] := ev_ListRange C.gl hg hg' h h' h0 h1 h2
theorem y_gen {p q p' p'' g a as ds l} (hg : globOk sc ("list" : Str) = true) (hg' : globOk sc g = true) (h : EvsC C sc (a :: as) ρ ds) (hF : GenC C g ds l) (hl : l.length ≤ lim) (hi : D.ims l = true) :
    EvC C sc (.Call (.Name ("list" : Str) p) [.Call (.Name g q) (a :: as) [] p''] [] p') ρ (.list l) [] := ev_ListGen C.gl hg hg' hF rfl h hl hi
theorem y_sumv {p o ap pp p' l b} (hg : globOk sc ("sum" : Str) = true) (hm : methFine o ap pp = true) (h : EvC C sc o ρ (.dict l) b) :
    EvC C sc (.Call (.Name ("sum" : Str) p) [.Call (.Attribute o ("values" : Str) ap) [] [] pp] [] p') ρ (.int (l.map (·.2)).sum) [] := ev_SumValues C.gl hg hm h
theorem y_fn {f p a as p' ds r} (hg : globOk sc f = true) (h : EvsC C sc (a :: as) ρ ds) (hF : FnC C f ds r) : EvC C sc (.Call (.Name f p) (a :: as) [] p') ρ r [] := ev_CallFn C.gl hg hF rfl h
theorem y_comp {elt t it ifs csc p l b ds} (hc : compOk sc csc = true) (h : EviC C sc (isTupleT t) it ρ l b) (h1 : CompC C (compScope sc csc) elt t ifs l (seenIn sc csc ρ) ds) (hl : ds.length ≤ lim) : EvC C sc (.ListComp elt [⟨t, it, ifs, 0⟩] csc p) ρ (.list ds) [] := ev_ListComp hc h h1 hl
theorem y_comp2 {elt t it t' it' csc p l b ds} (hc : compOk sc csc = true) (h : EviC C sc (isTupleT t) it ρ l b) (h1 : Comp2C C (compScope sc csc) elt t t' it' l (seenIn sc csc ρ) ds) (hl : ds.length ≤ lim) : EvC C sc (.ListComp elt [⟨t, it, [], 0⟩, ⟨t', it', [], 0⟩] csc p) ρ (.list ds) [] := ev_ListComp2 hc h h1 hl
theorem y_s0 : EvsC C sc [] ρ [] := evs_nil
theorem y_s1 {e r d b ds} (h : EvC C sc e ρ d b) (h' : EvsC C sc r ρ ds) : EvsC C sc (e :: r) ρ (d :: ds) := evs_cons h h'
theorem y_t0 : EvtC C sc [] ρ [] [] := evT_nil
theorem y_t1 {e r d b ds c} (h : EvC C sc e ρ d b) (h' : EvtC C sc r ρ ds c) (hl : (b ++ c).length ≤ 1) : EvtC C sc (e :: r) ρ (d :: ds) (b ++ c) := evT_cons h h' hl
theorem y_o0 : EvoC C sc none ρ none := evO_none
theorem y_o1 {e i b} (h : EvC C sc e ρ (.int i) b) : EvoC C sc (some e) ρ (some i) := evO_some h
-- iterables
theorem y_i_range1 {tup p a p' i b} (hg : globOk sc ("range" : Str) = true) (h : EvC C sc a ρ (.int i) b) (h0 : 0 ≤ i) (h1 : i ≤ (lim : Int)) : EviC C sc tup (.Call (.Name ("range" : Str) p) [a] [] p') ρ (rangeD 0 i.toNat) [] := it_range1 C.gl hg h h0 h1
theorem y_i_enumS {p a p' s b} (hg : globOk sc ("enumerate" : Str) = true) (h : EvC C sc a ρ (.str s) b) : EviC C sc true (.Call (.Name ("enumerate" : Str) p) [a] [] p') ρ (numbered 0 (s.map fun c => .str [c])) [] := it_enumS C.gl hg h
theorem y_i_enumL {p a p' l b} (hg : globOk sc ("enumerate" : Str) = true) (h : EvC C sc a ρ (.list l) b) (h2 : D.ims l = true) : EviC C sc true (.Call (.Name ("enumerate" : Str) p) [a] [] p') ρ (numbered 0 l) b := it_enumL C.gl hg h h2
theorem y_i_gen {tup f p a as p' ds l} (hg : globOk sc f = true) (h : EvsC C sc (a :: as) ρ ds) (hF : GenC C f ds l) (hl : l.length ≤ lim) (hi : D.ims l = true) : EviC C sc tup (.Call (.Name f p) (a :: as) [] p') ρ l [] := it_gen C.gl hg hF rfl h hl hi
theorem y_i_name {tup x p d b l} (h : EvC C sc (.Name x p) ρ d b) (hl : itemsOf d = some l) : EviC C sc tup (.Name x p) ρ l b := it_plain C.gl (fun _ _ => rfl) h hl
theorem y_i_sub {tup a i p d b l} (h : EvC C sc (.Subscript a i p) ρ d b) (hl : itemsOf d = some l) : EviC C sc tup (.Subscript a i p) ρ l b := it_plain C.gl (fun _ _ => rfl) h hl
theorem y_i_fn {tup f as p' d b l} (h : EvC C sc (.Call f as [] p') ρ d b) (hl : itemsOf d = some l) : EviC C sc tup (.Call f as [] p') ρ l b := it_plain C.gl (fun _ _ => rfl) h hl
-- tests
theorem y_b_not {x p b} (h : EvbC C sc x ρ b) : EvbC C sc (.UnaryOp .Not x p) ρ (!b) := ⟨b_not h.run⟩
theorem y_b_bool {op es p b} (h : EvlC C sc op es ρ b) : EvbC C sc (.BoolOp op es p) ρ b := ⟨b_bool h.run⟩
theorem y_b_cmp {l op r p a b c d e} (hb : behindInMarks op r = false) (h : EvC C sc l ρ a b) (h' : EvC C sc r ρ c d) (ho : CmpR op a c e) : EvbC C sc (.Compare l [op] [r] p) ρ e := ⟨b_cmp C.gl hb h h' ho⟩
theorem y_b_cmp2 {l op op' r r' p a b c d a' b' e} (hb : behindInMarks op r = false) (hb' : behindInMarks op' r' = false) (h : EvC C sc l ρ a b) (h' : EvC C sc r ρ c d) (h2 : EvC C sc r' ρ a' b') (ho : CmpR op a c e) {e'} (ho' : CmpR op' c a' e') : EvbC C sc (.Compare l [op, op'] [r, r'] p) ρ (e && e') := ⟨b_cmp2 C.gl hb hb' h h' h2 ho ho'⟩
theorem y_b_name {x p b c} (h : EvC C sc (.Name x p) ρ (.bool b) c) : EvbC C sc (.Name x p) ρ b := ⟨b_value h fun _ => rfl⟩
theorem y_b_call {f as k p b c} (h : EvC C sc (.Call f as k p) ρ (.bool b) c) : EvbC C sc (.Call f as k p) ρ b := ⟨b_value h fun _ => rfl⟩
theorem y_bb_1 {op e b} (h : EvbC C sc e ρ b) : EvlC C sc op [e] ρ b := ⟨bool_one h.run⟩
theorem y_bb_and {e e' r b c} (h : EvbC C sc e ρ b) (h' : b = true → EvlC C sc .And (e' :: r) ρ c) : EvlC C sc .And (e :: e' :: r) ρ (b && c) := ⟨bool_and h.run fun e => (h' e).run⟩
theorem y_bb_or {e e' r b c} (h : EvbC C sc e ρ b) (h' : b = false → EvlC C sc .Or (e' :: r) ρ c) : EvlC C sc .Or (e :: e' :: r) ρ (b || c) := ⟨bool_or h.run fun e => (h' e).run⟩
theorem y_bs0 : EvfC C sc [] ρ true := ⟨bs_nil⟩
theorem y_bs1 {e b} (h : EvbC C sc e ρ b) : EvfC C sc [e] ρ b := ⟨bs_one h.run⟩
noncomputable def Val (C : Cx) (sc : Scope) (e : Expr) (ρ : Store) (d : D) : Prop := ∃ b, EvC C sc e ρ d b
theorem Val.of {e d b} (h : EvC C sc e ρ d b) : Val C sc e ρ d := ⟨b, h⟩
/-- a comprehension item by item -/
theorem y_comp_all {elt t ifs} {α : Type} (it : α → D) (keep : α → Bool) (f : α → D) : ∀ (l : List α),
    (∀ a ∈ l, ∃ ρ', BindR sc t (it a) ρ ρ' ∧ EvfC C sc ifs ρ' (keep a) ∧ (keep a = true → Val C sc elt ρ' (f a)) ∧ (f a).im = true) → freshT sc t ρ = true →
    CompC C sc elt t ifs (l.map it) ρ ((l.filter keep).map f)
  | [], _, _ => comp_nil
  | a :: r, h, hf => by
    have ih := y_comp_all it keep f r (fun b hb => h b (List.mem_cons_of_mem _ hb)) hf
    obtain ⟨ρ', h1, h2, h3, h4⟩ := h a (List.mem_cons_self ..)
    rw [List.map_cons]
    cases hk : keep a
    · rw [hk] at h2
      rw [List.filter_cons_of_neg (by simp [hk])]
      exact comp_cons (hd := []) C.gl hf h1 h2.run (by rw [if_neg (by decide)]) ih
    · obtain ⟨b, h3⟩ := h3 hk
      rw [hk] at h2
      rw [List.filter_cons_of_pos hk, List.map_cons]
      exact comp_cons (hd := [f a]) C.gl hf h1 h2.run (by rw [if_pos rfl]; exact ⟨_, _, h3, h4, rfl⟩) ih
theorem y_comp2_all {elt t t' it'} {α : Type} (it : α → D) (h f : α → List D) : ∀ (l : List α),
    (∀ a ∈ l, ∃ ρ', BindR sc t (it a) ρ ρ' ∧ (∃ b, EviC C sc (isTupleT t') it' ρ' (h a) b) ∧ CompC C sc elt t' [] (h a) ρ' (f a)) → freshT sc t ρ = true →
    Comp2C C sc elt t t' it' (l.map it) ρ (l.flatMap f)
  | [], _, _ => comp2_nil
  | a :: r, hs, hf => by
    have ih := y_comp2_all it h f r (fun b hb => hs b (List.mem_cons_of_mem _ hb)) hf
    obtain ⟨ρ', h1, ⟨b, h2⟩, h3⟩ := hs a (List.mem_cons_self ..)
    rw [List.map_cons, List.flatMap_cons]
    exact comp2_cons C.gl hf h1 h2 h3 ih

-- statements
theorem two {a b : Bool} (h : (a && b) = true) : a = true ∧ b = true := Bool.and_eq_true_iff.mp h
theorem mem_of {l : List Str} {x : Str} (h : l.contains x = true) : x ∈ l := List.contains_iff_mem.mp h
theorem not_of {l : List Str} {x : Str} (h : (!l.contains x) = true) : x ∉ l := fun q => by rw [List.contains_iff_mem.mpr q] at h; cases h
theorem y_as {x q v p d b} (hx : (bindOk sc x && md.contains x) = true) (h : EvC C sc v ρ d b) (hd : d.ok = true) (hb : b = []) : ExC C sc fz md (.Assign [.Name x q] v p) ρ (ρ.set x d) := by
  subst hb
  exact ex_Name (two hx).1 (mem_of (two hx).2) h hd fun _ q => nomatch q
/-- a container goes over to another name -/
theorem y_as_move {x y q v p d} (hx : (bindOk sc x && md.contains x) = true) (h : EvC C sc v ρ d [y]) (hd : d.ok = true) (hf : (!fz.contains y && md.contains y) = true) : ExC C sc fz md (.Assign [.Name x q] v p) ρ ((ρ.del y).set x d) :=
  ex_Name (two hx).1 (mem_of (two hx).2) h hd fun z q => by
    have e : z = y := List.mem_singleton.mp q
    subst e
    exact ⟨not_of (two hf).1, mem_of (two hf).2⟩
theorem y_as_tup {ts k q v p xs ds b} (hx : namesOf ts = some xs) (hb : (xs.all (bindOk sc) && noDup xs && swapFine v && xs.all md.contains) = true) (h : EvC C sc v ρ (.tuple ds) b) (hbn : b = []) (hs : setAll xs ds ρ = some ρ') : ExC C sc fz md (.Assign [.Tuple ts k q] v p) ρ ρ' := by
  subst hbn
  have h1 := two hb; have h2 := two h1.1; have h3 := two h2.1
  exact ex_Tuple C.gl hx h3.1 h3.2 h2.2 (fun x q => mem_of (List.all_eq_true.mp h1.2 x q)) h hs
theorem y_tupfn {ts k q f p' a as p p2 xs ds r} {Y : D → Prop} (hx : namesOf ts = some xs) (hb : (xs.all (bindOk sc) && noDup xs && xs.all md.contains) = true) (hg : globOk sc f = true) (h : EvsC C sc (a :: as) ρ ds) (hF : FnY C f ds Y)
    (hq : ∀ d, Y d → ∃ ds ρ', d = .tuple ds ∧ setAll xs ds ρ = some ρ' ∧ Xs C sc fz md r ρ' Q) : Xs C sc fz md (.Assign [.Tuple ts k q] (.Call (.Name f p') (a :: as) [] p2) p :: r) ρ Q := by
  have h1 := two hb; have h2 := two h1.1
  refine ⟨exs_cons fun hE env s O K R => ?_⟩
  refine wp_no (ex_TupleQ (Z := fun ρ' => Xs C sc fz md r ρ' Q) C.gl hx h2.1 h2.2 rfl (fun x q => mem_of (List.all_eq_true.mp h1.2 x q)) (ev_CallFnQ C.gl hg hF rfl h) hq O K R) fun fl s' q => ?_
  obtain ⟨rfl, ρ', z, q⟩ := q
  exact ⟨.next, ρ', z.run, .next, q⟩
theorem y_asfn {x q f p' a as p p2 ds r} {Y : D → Prop} (hx : (bindOk sc x && md.contains x) = true) (hg : globOk sc f = true) (h : EvsC C sc (a :: as) ρ ds) (hF : FnY C f ds Y) (hq : ∀ d, Y d → d.ok = true ∧ Xs C sc fz md r (ρ.set x d) Q) :
    Xs C sc fz md (.Assign [.Name x q] (.Call (.Name f p') (a :: as) [] p2) p :: r) ρ Q := ⟨exs_cons (ex_NameFn (two hx).1 (mem_of (two hx).2) (ev_CallFnQ C.gl hg hF rfl h) fun d y => ⟨(hq d y).1, (hq d y).2.run⟩)⟩
theorem y_as_sub {x q i q' v p l j d b c} (hf : (!fz.contains x && md.contains x) = true) (hk : kindOk sc x = true) (h : EvC C sc v ρ d b) (hd : d.im = true) (hx : ρ.get x = some (.list l)) (hi : EvC C sc i ρ (.int j) c) (hs : small j = true) (j' : Nat) (hr : j' < l.length) (hj : (0 ≤ j ∧ j = j') ∨ (j < 0 ∧ j + l.length = j')) :
    ExC C sc fz md (.Assign [.Subscript (.Name x q) i q'] v p) ρ (ρ.set x (.list (l.set j' d))) := ex_SetList (not_of (two hf).1) hk (mem_of (two hf).2) h hx hi hd hs hr hj
theorem y_as_put {x q i q' v p l j d b c} (hf : (!fz.contains x && md.contains x) = true) (hk : kindOk sc x = true) (h : EvC C sc v ρ (.int d) b) (hx : ρ.get x = some (.dict l)) (hi : EvC C sc i ρ (.int j) c) (hl : l.length < lim) :
    ExC C sc fz md (.Assign [.Subscript (.Name x q) i q'] v p) ρ (ρ.set x (.dict (putD l j d))) := ex_SetDict (not_of (two hf).1) hk (mem_of (two hf).2) h hx hi hl
theorem y_as2 {x y q q' v p d b} (hx : (bindOk sc x && bindOk sc y && (md.contains x && md.contains y)) = true) (h : EvC C sc v ρ d b) (hd : d.im = true) : ExC C sc fz md (.Assign [.Name x q, .Name y q'] v p) ρ ((ρ.set x d).set y d) :=
  have h1 := two hx; have h2 := two h1.1; have h3 := two h1.2; ex_Chain h2.1 h2.2 (mem_of h3.1) (mem_of h3.2) h hd
theorem y_aug {x q v p i j b} (hx : (bindOk sc x && kindOk sc x && md.contains x) = true) (hg : ρ.get x = some (.int i)) (h : EvC C sc v ρ (.int j) b) : ExC C sc fz md (.AugAssign (.Name x q) .Add v p) ρ (ρ.set x (.int (i + j))) :=
  have h1 := two hx; have h2 := two h1.1; ex_Aug h2.1 h2.2 (mem_of h1.2) hg h
theorem y_augS {x q v p i j b} (hx : (bindOk sc x && kindOk sc x && md.contains x) = true) (hg : ρ.get x = some (.int i)) (h : EvC C sc v ρ (.int j) b) : ExC C sc fz md (.AugAssign (.Name x q) .Sub v p) ρ (ρ.set x (.int (i - j))) :=
  have h1 := two hx; have h2 := two h1.1; ex_AugS h2.1 h2.2 (mem_of h1.2) hg h
theorem y_app {x np ap a pp p l d b} (hm : methFine (.Name x np) ap pp = true) (hf : (!fz.contains x && md.contains x) = true) (hk : kindOk sc x = true) (hg : ρ.get x = some (.list l)) (h : EvC C sc a ρ d b) (hd : d.im = true) (hl : l.length < lim) :
    ExC C sc fz md (.Expr (.Call (.Attribute (.Name x np) ("append" : Str) ap) [a] [] pp) p) ρ (ρ.set x (.list (l ++ [d]))) := ex_append hm (not_of (two hf).1) hk (mem_of (two hf).2) hg h hd hl
theorem z_1 {st r} (h : ExC C sc fz md st ρ ρ') (h' : Xs C sc fz md r ρ' Q) : Xs C sc fz md (st :: r) ρ Q := ⟨exs_cons (ExN.ex h h'.run)⟩
theorem z_x {st r} (h : X1 C sc fz md st ρ (ThenC C sc fz md r Q)) : Xs C sc fz md (st :: r) ρ Q := ⟨exs_cons (ExS.mono h.run fun _ _ q => q.then)⟩
theorem z_0 (h : Q .next ρ) : Xs C sc fz md [] ρ Q := ⟨exs_nil h⟩
theorem z_mid {st r} (M : Store → Prop) (h : X1 C sc fz md st ρ (fun f ρ' => f = .next ∧ M ρ')) (h2 : ∀ ρ', M ρ' → Xs C sc fz md r ρ' Q) : Xs C sc fz md (st :: r) ρ Q :=
  z_x ⟨ExS.mono h.run fun f ρ q => by obtain ⟨rfl, q⟩ := q; exact h2 _ q⟩
theorem z_if {t b o p c} (h : EvbC C sc t ρ c) (h1 : c = true → Xs C sc fz md b ρ Q) (h2 : c = false → Xs C sc fz md o ρ Q) : X1 C sc fz md (.If t b o p) ρ Q := ⟨ex_If h.run (fun e => (h1 e).run) fun e => (h2 e).run⟩
theorem z_for {t it b p l bs} (md' : List Str) (h : EviC C sc (isTupleT t) it ρ l bs) (h1 : (bs.all (fun x => !md'.contains x) && (tnames t).all md'.contains) = true) (h2 : (md'.all fun x => md.contains x && !fz.contains x) = true) (h3 : LpC C sc fz md' t b l ρ Q) : X1 C sc fz md (.For t it b [] p) ρ Q :=
  ⟨ex_For h h3.run (fun x q => not_of (List.all_eq_true.mp (two h1).1 x q)) (fun x q => mem_of (List.all_eq_true.mp (two h1).2 x q)) (fun x q => mem_of (two (List.all_eq_true.mp h2 x q)).1) (fun x q => not_of (two (List.all_eq_true.mp h2 x q)).2)⟩
theorem z_cont {p} (h : Q .cont ρ) : X1 C sc fz md (.Continue p) ρ Q := ⟨ex_Cont h⟩
theorem z_brk {p} (h : Q .brk ρ) : X1 C sc fz md (.Break p) ρ Q := ⟨ex_Brk h⟩
theorem z_ret {e p d b} (h : EvC C sc e ρ d b) (hb : b.all (fun y => !fz.contains y) = true) (hq : Q (.ret d) ρ) : X1 C sc fz md (.Return (some e) p) ρ Q := ⟨ex_Ret h (fun x q => not_of (List.all_eq_true.mp hb x q)) hq⟩
theorem z_loopAt {α : Type} {t b} (R : List α → Store → Prop) (X : Fl → Store → Prop) (it : α → D) (l : List α) (hq : ∀ f ρ'', (f = .next ∧ R l ρ'') ∨ X f ρ'' → Q f ρ'')
    (hs : ∀ pre a post, l = pre ++ a :: post → ∀ ρ, R pre ρ → ∃ ρ', BindR sc t (it a) ρ ρ' ∧ Xs C sc fz md b ρ' (fun f ρ'' => match f with
      | .next => R (pre ++ [a]) ρ''
      | .cont => R (pre ++ [a]) ρ''
      | .brk => X .next ρ''
      | .ret v => X (.ret v) ρ'')) : ∀ (post pre : List α) (ρ : Store), l = pre ++ post → R pre ρ → LpC C sc fz md t b (post.map it) ρ Q
  | [], pre, ρ, hl, h => by
    rw [List.append_nil] at hl
    exact ⟨loop_nil (hq _ _ (.inl ⟨rfl, hl ▸ h⟩))⟩
  | a :: r, pre, ρ, hl, h => by
    obtain ⟨ρ', h1, h2⟩ := hs pre a r hl ρ h
    have go : ∀ ρ, R (pre ++ [a]) ρ → LpC C sc fz md t b (r.map it) ρ Q := fun ρ h3 => z_loopAt R X it l hq hs r (pre ++ [a]) ρ (by rw [hl, List.append_assoc]; rfl) h3
    rw [List.map_cons]
    refine ⟨loop_cons C.hnd h1 fun hE env s O K R' => wp_no (h2.run hE env s O K R') fun f s' q => ?_⟩
    obtain ⟨fl, ρ3, q1, q2⟩ := q
    refine ⟨fl, ρ3, ?_, q2⟩
    cases fl
    · exact (go _ q1).run
    · exact hq _ _ (.inr q1)
    · exact (go _ q1).run
    · exact hq _ _ (.inr q1)
theorem z_loop {α : Type} {t b} (l : List α) (R : List α → Store → Prop) (X : Fl → Store → Prop) (it : α → D) {ds} (hd : ds = l.map it) (h0 : R [] ρ)
    (hs : ∀ pre a post, l = pre ++ a :: post → ∀ ρ, R pre ρ → ∃ ρ', BindR sc t (it a) ρ ρ' ∧ Xs C sc fz md b ρ' (fun f ρ'' => match f with
      | .next => R (pre ++ [a]) ρ''
      | .cont => R (pre ++ [a]) ρ''
      | .brk => X .next ρ''
      | .ret v => X (.ret v) ρ''))
    (hq : ∀ f ρ'', (f = .next ∧ R l ρ'') ∨ X f ρ'' → Q f ρ'') : LpC C sc fz md t b ds ρ Q := by
  subst hd
  exact z_loopAt R X it l hq hs l [] ρ rfl h0
end Mine
end
section
open PySem PySem.W
set_option maxRecDepth 100000
set_option maxHeartbeats 1000000
namespace Mine
theorem o_join {ss : List (List Nat)} (h1 : ss.flatten.length ≤ lim) (h2 : ss.length ≤ lim) : MethR ("join" : Str) (.str []) (.list (ss.map .str)) (.str ss.flatten) := .join h1 h2
theorem o_add {x y z : Int} (h : x + y = z) : OpR .Add (.int x) (.int y) (.int z) := h ▸ .addI x y
theorem o_sub {x y z : Int} (h : x - y = z) : OpR .Sub (.int x) (.int y) (.int z) := h ▸ .subI x y
theorem o_mul {x y z : Int} (h : fits x = true) (h' : fits y = true) (e : x * y = z) : OpR .Mult (.int x) (.int y) (.int z) := e ▸ .mulI h h'
theorem o_cat {x y : List Nat} (h : x.length + y.length ≤ lim) : OpR .Add (.str x) (.str y) (.str (x ++ y)) := .cat h
theorem o_pow {x n : Int} (h : 0 ≤ n) (h' : n ≤ 1000) (h2 : x.natAbs < 2 ^ 64) : OpR .Pow (.int x) (.int n) (.int (x ^ n.toNat)) := .pow h h' h2
theorem o_lenS {s : List Nat} (h : s.length ≤ lim) : Call1R ("len" : Str) (.str s) (.int s.length) := .lenS h
theorem o_lenL {s : List D} (h : s.length ≤ lim) : Call1R ("len" : Str) (.list s) (.int s.length) := .lenL h
theorem o_sliceS {s : List Nat} {a b : Nat} (ha : a < 2 ^ 60) (hb : b < 2 ^ 60) (hl : s.length ≤ lim) : sliceD (.str s) (some a) (some b) = some (.str ((s.take b).drop a)) := by
  simp only [sliceD, sliceL, Option.getD_some, small, hl]
  have h1 : (-(2 ^ 62 : Int) < a) := by exact ar442
  have h2 : ((a : Int) < 2 ^ 62) := by exact ar443 ha
  have h3 : (-(2 ^ 62 : Int) < b) := by exact ar442
  have h4 : ((b : Int) < 2 ^ 62) := by exact ar443 hb
  have h5 : (0 ≤ (a : Int)) := by exact ar321
  have h6 : (0 ≤ (b : Int)) := by exact ar321
  simp [h5, h6]; exact ar356 ha hb
theorem o_sliceS1 {s : List Nat} {a : Nat} (ha : a < 2 ^ 60) (hl : s.length ≤ lim) : sliceD (.str s) (some a) none = some (.str (s.drop a)) := by
  have hl' : s.length ≤ 2 ^ 20 := hl
  have := o_sliceS (s := s) (a := a) (b := s.length) ha (by exact ar444 hl') hl
  rw [List.take_length] at this
  exact this
/-- units of a row: signs, escaped signs; a lone backslash at the end -/
inductive Units : List (List Nat) → Prop
  | nil : Units []
  | lone : Units [[92]]
  | ch {c r} : c ≠ 92 → Units r → Units ([c] :: r)
  | esc {c r} : Units r → Units ([92, c] :: r)
noncomputable def tolds : Nat → List (List Nat) → List (Nat × List Nat)
  | _, [] => []
  | k, u :: r => (k + u.length - 1, u) :: tolds (k + u.length) r
noncomputable def toldD (p : Nat × List Nat) : D := .tuple [.int p.1, .str p.2]
theorem escF_units {us : List (List Nat)} (h : Units us) : ∀ k, escF k false us.flatten = (tolds k us).map toldD := by
  induction h with
  | nil => intro k; simp [escF, tolds]
  | lone => intro k; simp [escF, tolds, toldD]
  | ch hc _ ih => intro k; simp [escF, tolds, toldD, hc, ih]
  | esc _ ih => intro k; simp [escF, tolds, toldD, ih]
theorem tolds_length : ∀ k us, (tolds k us).length = us.length
  | _, [] => rfl
  | k, u :: r => by simp [tolds, tolds_length]
theorem D.ims_all : ∀ {l : List D}, (∀ d ∈ l, d.im = true) → D.ims l = true
  | [], _ => rfl
  | d :: r, h => by rw [D.ims, h d (List.mem_cons_self ..), D.ims_all fun e he => h e (List.mem_cons_of_mem _ he)]; rfl
theorem ims_told (l : List (Nat × List Nat)) : D.ims (l.map toldD) = true := D.ims_all fun d h => by
  obtain ⟨p, _, rfl⟩ := List.mem_map.mp h
  rfl
theorem g_told {C : Cx} {k : Nat} (hR : Rm C (k + 1)) {us : List (List Nat)} (hu : Units us) : GenC C "_iter_escaped_chars" [.str us.flatten] ((tolds 0 us).map toldD) := by
  rw [← escF_units hu 0]
  exact g_esc hR _
end Mine
end
section
open PySem PySem.W
set_option maxRecDepth 100000
set_option maxHeartbeats 1000000
namespace Mine
noncomputable def unq : Bool → List (List Nat) → List (List Nat)
  | _, [] => []
  | q, u :: r => if u = [34] then unq (!q) r else if q then unq q r else u :: unq q r
noncomputable def qend : Bool → List (List Nat) → Bool
  | q, [] => q
  | q, u :: r => if u = [34] then qend (!q) r else qend q r
theorem unq_app : ∀ (q : Bool) (a : List (List Nat)) (b), unq q (a ++ b) = unq q a ++ unq (qend q a) b
  | _, [], _ => rfl
  | q, u :: r, b => by
    simp only [List.cons_append, unq, qend]
    split
    · exact unq_app ..
    · split
      · exact unq_app ..
      · rw [unq_app, List.cons_append]
theorem qend_app : ∀ (q : Bool) (a : List (List Nat)) (b), qend q (a ++ b) = qend (qend q a) b
  | _, [], _ => rfl
  | q, u :: r, b => by
    simp only [List.cons_append, qend]
    split <;> exact qend_app ..
theorem unq_none : ∀ (us : List (List Nat)), (∀ u ∈ us, u ≠ [34]) → unq false us = us
  | [], _ => rfl
  | u :: r, h => by
    rw [unq, if_neg (h u (by simp)), if_neg (by simp), unq_none r fun v hv => h v (by simp [hv])]
theorem Units.pos {us : List (List Nat)} (h : Units us) : us.length ≤ us.flatten.length := by
  induction h with
  | nil => simp
  | lone => simp
  | ch _ _ ih => simp at ih ⊢; exact ar179 ih
  | esc _ ih => simp at ih ⊢; exact ar58 ih
theorem tolds_split : ∀ (k : Nat) (us : List (List Nat)) (pre : List (Nat × List Nat)) (a post), tolds k us = pre ++ a :: post → ∃ us1 us2, us = us1 ++ a.2 :: us2 ∧ pre = tolds k us1 ∧ a.1 = k + us1.flatten.length + a.2.length - 1
  | k, [], pre, a, post, h => by cases pre <;> cases h
  | k, u :: r, [], a, post, h => by
    cases h
    exact ⟨[], r, rfl, rfl, by simp⟩
  | k, u :: r, b :: pre, a, post, h => by
    simp only [tolds, List.cons_append, List.cons.injEq] at h
    obtain ⟨h1, h2⟩ := h
    obtain ⟨us1, us2, e1, e2, e3⟩ := tolds_split _ _ _ _ _ h2
    refine ⟨u :: us1, us2, by rw [e1]; rfl, by rw [e2, ← h1]; rfl, ?_⟩
    rw [e3]
    simp only [List.flatten_cons, List.length_append]
    exact ar445
theorem tolds_app : ∀ (k : Nat) (us vs : List (List Nat)), tolds k (us ++ vs) = tolds k us ++ tolds (k + us.flatten.length) vs
  | k, [], vs => by simp [tolds]
  | k, u :: r, vs => by simp [tolds, tolds_app (k + u.length) r vs, Nat.add_assoc]

local macro_rules | `(tactic| walk_at "ye") => `(tactic| first
  | exact y_c rfl
  | exact y_n rfl rfl rfl
  | exact y_nm rfl rfl rfl
  | exact y_s0
  | exact y_o0
  | exact y_dict0
  | (focus apply y_s1; all_goals first | walk_at "ye" | skip)
  | (focus apply y_o1; all_goals first | walk_at "ye" | skip)
  | (focus apply y_bin; all_goals first | walk_at "ye" | rfl | (constructor; done) | skip)
  | (focus apply y_cmp rfl; all_goals first | walk_at "ye" | rfl | (constructor; done) | skip)
  | (focus apply y_b_cmp rfl; all_goals first | walk_at "ye" | rfl | (constructor; done) | skip)
  | (focus apply y_list; all_goals first | walk_at "ye" | rfl | (constructor; done) | skip)
  | (focus apply y_slice rfl; all_goals first | walk_at "ye" | rfl | (constructor; done) | skip)
  | (focus apply y_meth rfl; all_goals first | walk_at "ye" | rfl | (constructor; done) | skip)
  | (focus apply y_call1 (by rfl); all_goals first | walk_at "ye" | rfl | (constructor; done) | skip))

theorem unq_len : ∀ (q : Bool) (us : List (List Nat)), (unq q us).flatten.length ≤ us.flatten.length
  | _, [] => Nat.le_refl _
  | q, u :: r => by
    simp only [unq, List.flatten_cons, List.length_append]
    split
    · have := unq_len (!q) r; exact ar446 this
    · split
      · have := unq_len q r; exact ar446 this
      · have := unq_len q r
        simp only [List.flatten_cons, List.length_append]; exact ar447 this
noncomputable def shS (a : List Nat) (st : Nat) (op : D) (res : List (List Nat)) (tail : Store) : Store := (("addr" : Str), D.str a) :: (("start" : Str), .int st) :: (("open_pos" : Str), op) :: (("result" : Str), .list (res.map D.str)) :: tail
noncomputable def twoS (x y : Str) (p q : D) : Store := [(x, p), (y, q)]
theorem tolds_snd : ∀ (k : Nat) (us : List (List Nat)), (tolds k us).map (·.2) = us
  | _, [] => rfl
  | k, u :: r => by rw [tolds, List.map_cons, tolds_snd]
theorem ims_str (l : List (List Nat)) : D.ims (l.map D.str) = true := D.ims_all fun d h => by
  obtain ⟨p, _, rfl⟩ := List.mem_map.mp h
  rfl
theorem f_strip {C : Cx} {k : Nat} (hR : Rm C (k + 2)) {us : List (List Nat)} (hu : Units us) (hq : qend false us = false) (hl : us.flatten.length ≤ 300) : FnC C "_strip_quoted_realnames" [.str us.flatten] (.str (unq false us).flatten) := by
  apply fn_of hR ["addr"] ["start", "open_pos", "result", "pos", "ch"] (by decide +kernel) (by rfl) (binds1 fun _ _ _ _ _ => rfl) (by rfl) (by rfl)
  clear hR C
  intro C hR
  show Xs C _ [] _ _ [(("addr" : Str), D.str us.flatten)] _
  have hn := hu.pos
  apply z_x
  apply z_if (c := !us.flatten.contains 34)
  · walk_at "ye"
  · intro h
    apply z_x
    apply z_ret
    · walk_at "ye"
    · rfl
    · show _ = _
      rw [unq_none us]
      intro u hu' e
      subst e
      have : (34 : Nat) ∈ us.flatten := List.mem_flatten.mpr ⟨_, hu', by simp⟩
      simp [this] at h
  · intro h
    apply z_0
    show Xs _ _ _ _ _ _ _
    apply z_1
    · apply y_as rfl
      · walk_at "ye"
      · rfl
      · rfl
    apply z_1
    · apply y_as rfl
      · walk_at "ye"
      · rfl
      · rfl
    apply z_1
    · apply y_as rfl
      · walk_at "ye"
        decide
      · rfl
      · rfl
    apply z_x
    apply z_for ["pos", "ch", "open_pos", "result", "start"]
    · apply y_i_gen (by rfl)
      · walk_at "ye"
      · exact g_told hR hu
      · rw [List.length_map, tolds_length]; show _ ≤ 2 ^ 20; exact ar448 hl hn
      · exact ims_told _
    · rfl
    · rfl
    have hl20 : us.flatten.length ≤ lim := by show _ ≤ 2 ^ 20; exact ar418 hl
    apply z_loop (tolds 0 us) (fun pre ρ => ∃ (st : Nat) (op : D) (res : List (List Nat)) (tail : Store), ρ = shS us.flatten st op res tail ∧ (tail = [] ∨ ∃ p c, tail = twoS "pos" "ch" p c) ∧
       res.length ≤ pre.length ∧ st ≤ (pre.map (·.2)).flatten.length ∧ ((qend false (pre.map (·.2)) = false ∧ op = .none ∧ res.flatten ++ (pre.map (·.2)).flatten.drop st = (unq false (pre.map (·.2))).flatten) ∨
        (qend false (pre.map (·.2)) = true ∧ ∃ o : Nat, op = .int o ∧ st ≤ o ∧ o ≤ (pre.map (·.2)).flatten.length ∧ res.flatten ++ (us.flatten.take o).drop st = (unq false (pre.map (·.2))).flatten))) (fun _ _ => False) toldD
    · rfl
    · exact ⟨0, .none, [], [], rfl, .inl rfl, by simp, by simp, .inl ⟨rfl, rfl, rfl⟩⟩
    · rintro pre ⟨p, u⟩ post hpre ρ ⟨st, op, res, tail, rfl, ht, hr, hst, hi⟩
      have hlen : pre.length < us.length := by
        have := congrArg List.length hpre
        simp [tolds_length] at this; exact ar334 this
      obtain ⟨us1, us2, f1, rfl, f3⟩ := tolds_split _ _ _ _ _ hpre
      simp only [tolds_snd, tolds_length] at hr hst hi hlen
      dsimp only at f1 f3
      have hul : us.flatten.length = us1.flatten.length + u.length + us2.flatten.length := by rw [f1]; simp; exact ar449
      refine ⟨shS us.flatten st op res (twoS "pos" "ch" (.int p) (.str u)), ?_, ?_⟩
      · rcases ht with rfl | ⟨p', c', rfl⟩ <;> exact .two (by rfl) (by rfl) rfl rfl
      simp only [List.map_append, tolds_snd, List.map_cons, List.map_nil, qend_app, unq_app, List.length_append, tolds_length, List.flatten_append, List.length_cons, List.length_nil]
      apply z_x
      apply z_if
      · walk_at "ye"
      · intro h
        have h : u = [34] := eq_of_beq (show (u == [34]) = true from h)
        subst h
        rcases hi with ⟨hq1, rfl, hi⟩ | ⟨hq1, o, rfl, ho1, ho2, hi⟩
        · apply z_x
          apply z_if (c := true)
          · walk_at "ye"
          · intro _
            apply z_1
            · apply y_as rfl
              · walk_at "ye"
              · rfl
              · rfl
            apply z_0
            apply z_0
            apply z_0
            refine ⟨st, .int p, res, twoS "pos" "ch" (.int p) (.str [34]), rfl, .inr ⟨_, _, rfl⟩, by exact ar450 hr, by exact ar175 hst, .inr ⟨by rw [hq1]; rfl, p, rfl, ?_, ?_, ?_⟩⟩
            · simp only [List.length_cons, List.length_nil] at f3; exact ar451 hst f3
            · simp only [List.length_cons, List.length_nil] at f3; exact ar452 f3
            · rw [hq1]
              have : p = us1.flatten.length := by simp only [List.length_cons, List.length_nil] at f3; exact ar453 f3
              rw [f1, this]
              simp only [List.flatten_append, List.take_left, unq, if_true, List.flatten_nil, List.append_nil]
              exact hi
          · intro h; cases h
        · apply z_x
          apply z_if (c := false)
          · walk_at "ye"
          · intro h; cases h
          · intro _
            apply z_mid (fun ρ' => ∃ res' : List (List Nat), ρ' = shS us.flatten st (.int o) res' (twoS "pos" "ch" (.int p) (.str [34])) ∧ res'.length ≤ res.length + 1 ∧ res'.flatten = res.flatten ++ (us.flatten.take o).drop st)
            · apply z_if
              · walk_at "ye"
              · intro h
                apply z_1
                · apply y_app rfl rfl rfl rfl
                  · apply y_slice rfl
                    · walk_at "ye"
                    · walk_at "ye"
                    · walk_at "ye"
                    · exact o_sliceS (by exact ar454 hl hul ho1 ho2) (by exact ar455 hl hul ho2) hl20
                  · rfl
                  · rw [List.length_map]; show _ < 2 ^ 20; exact ar456 hl hn hr hlen
                · apply z_0
                  refine ⟨rfl, res ++ [(us.flatten.take o).drop st], ?_, by simp, by simp⟩
                  simp only [shS, List.map_append]; rfl
              · intro h
                have h : st = o := by
                  have : (st : Int) = o := by simpa using h
                  exact ar268 this
                apply z_0
                refine ⟨rfl, res, rfl, by exact ar129, ?_⟩
                rw [h, List.drop_take_self, List.append_nil]
            rintro _ ⟨res', rfl, hr', hf'⟩
            apply z_1
            · apply y_as rfl
              · walk_at "ye"
              · rfl
              · rfl
            apply z_1
            · apply y_as rfl
              · walk_at "ye"
              · rfl
              · rfl
            apply z_0
            apply z_0
            apply z_0
            have hp : p = us1.flatten.length := by simp only [List.length_cons, List.length_nil] at f3; exact ar453 f3
            refine ⟨p + 1, .none, res', twoS "pos" "ch" (.int p) (.str [34]), rfl, .inr ⟨_, _, rfl⟩, by exact ar457 hr hr', ?_, .inl ⟨by rw [hq1]; rfl, rfl, ?_⟩⟩
            · rw [hp]; exact Nat.le_refl _
            · rw [hf', hi, hp]
              simp [unq, hq1]
      · intro h
        have h : u ≠ [34] := fun e => by subst e; cases h
        apply z_0
        apply z_0
        refine ⟨st, op, res, twoS "pos" "ch" (.int p) (.str u), rfl, .inr ⟨_, _, rfl⟩, by exact ar450 hr, by exact ar175 hst, ?_⟩
        rcases hi with ⟨hq1, rfl, hi⟩ | ⟨hq1, o, rfl, ho1, ho2, hi⟩
        · refine .inl ⟨by rw [hq1, qend, if_neg h]; rfl, rfl, ?_⟩
          rw [hq1, unq, if_neg h, if_neg (by simp), List.drop_append_of_le_length hst, ← List.append_assoc, hi]
          rfl
        · refine .inr ⟨by rw [hq1, qend, if_neg h]; rfl, o, rfl, ho1, by exact ar175 ho2, ?_⟩
          rw [hq1, unq, if_neg h, if_pos rfl]
          simpa [unq] using hi
    · rintro f ρ'' (⟨rfl, st, op, res, tail, rfl, ht, hr, hst, hi⟩ | h)
      · simp only [tolds_snd, tolds_length, hq] at hr hst hi
        rcases hi with ⟨_, rfl, hi⟩ | ⟨hq1, _⟩
        · show Xs _ _ _ _ _ _ _
          apply z_mid (fun ρ' => ∃ res' : List (List Nat), ρ' = shS us.flatten st .none res' tail ∧ res'.length ≤ res.length + 1 ∧ res'.flatten = (unq false us).flatten)
          · apply z_if (c := decide ((st : Int) < us.flatten.length))
            · rcases ht with rfl | ⟨p', c', rfl⟩
              all_goals
                apply y_b_cmp rfl
                · walk_at "ye"
                · apply y_call1 (by rfl)
                  · walk_at "ye"
                  · exact o_lenS hl20
                · exact .ltI _ _
            · intro h
              apply z_1
              · apply y_app rfl rfl rfl rfl
                · apply y_slice rfl
                  · walk_at "ye"
                  · walk_at "ye"
                  · walk_at "ye"
                  · exact o_sliceS1 (by exact ar458 hl hst) hl20
                · rfl
                · rw [List.length_map]; show _ < 2 ^ 20; exact ar459 hl hn hr
              · apply z_0
                refine ⟨rfl, res ++ [us.flatten.drop st], ?_, by simp, by simp [hi]⟩
                simp only [shS, List.map_append]; rfl
            · intro h
              have h : st = us.flatten.length := by
                have := of_decide_eq_false h
                exact ar460 hst this
              apply z_0
              refine ⟨rfl, res, rfl, by exact ar129, ?_⟩
              rw [← hi, h, List.drop_length, List.append_nil]
          rintro _ ⟨res', rfl, hr', hf'⟩
          apply z_x
          apply z_ret
          · apply y_meth rfl
            · walk_at "ye"
            · walk_at "ye"
            · apply o_join
              · rw [hf']
                have := unq_len false us
                show _ ≤ 2 ^ 20
                exact ar448 hl this
              · show _ ≤ 2 ^ 20; exact ar461 hl hn hr hr'
          · rfl
          · show _ = _
            rw [hf']
        · cases hq1
      · exact h.elim
end Mine
end
section
open PySem PySem.W
set_option maxRecDepth 100000
set_option maxHeartbeats 1000000
namespace Mine
noncomputable def chk : Int → List (List Nat) → Bool
  | h, [] => h == 0
  | h, u :: r => if u = [40] then chk (h + 1) r else if u = [41] then (if h - 1 < 0 then false else chk (h - 1) r) else chk h r
theorem Units.unq {us : List (List Nat)} (h : Units us) : ∀ q, Units (Mine.unq q us) := by
  induction h with
  | nil => intro q; exact .nil
  | lone => intro q; cases q; exact .lone; exact .nil
  | @ch c r hc _ ih =>
    intro q
    rw [Mine.unq]
    split
    · exact ih _
    · split
      · exact ih _
      · exact .ch hc (ih _)
  | @esc c r _ ih =>
    intro q
    rw [Mine.unq, if_neg (by simp)]
    split
    · exact ih _
    · exact .esc (ih _)
local macro_rules | `(tactic| walk_at "ye") => `(tactic| first
  | exact y_c rfl
  | exact y_n rfl rfl rfl
  | exact y_nm rfl rfl rfl
  | exact y_s0
  | exact y_o0
  | exact y_dict0
  | (focus apply y_s1; all_goals first | walk_at "ye" | skip)
  | (focus apply y_o1; all_goals first | walk_at "ye" | skip)
  | (focus apply y_bin; all_goals first | walk_at "ye" | rfl | (constructor; done) | skip)
  | (focus apply y_cmp rfl; all_goals first | walk_at "ye" | rfl | (constructor; done) | skip)
  | (focus apply y_b_cmp rfl; all_goals first | walk_at "ye" | rfl | (constructor; done) | skip)
  | (focus apply y_list; all_goals first | walk_at "ye" | rfl | (constructor; done) | skip)
  | (focus apply y_slice rfl; all_goals first | walk_at "ye" | rfl | (constructor; done) | skip)
  | (focus apply y_meth rfl; all_goals first | walk_at "ye" | rfl | (constructor; done) | skip)
  | (focus apply y_call1 (by rfl); all_goals first | walk_at "ye" | rfl | (constructor; done) | skip))
noncomputable def shC (a : List Nat) (h : Int) (tail : Store) : Store := (("addr" : Str), D.str a) :: (("opens" : Str), .int h) :: tail
theorem f_check {C : Cx} {k : Nat} (hR : Rm C (k + 3)) {us : List (List Nat)} (hu : Units us) (hq : qend false us = false) (hl : us.flatten.length ≤ 300) : FnC C "_check_parenthesis" [.str us.flatten] (.bool (chk 0 (unq false us))) := by
  apply fn_of hR ["addr"] ["addr", "opens", "pos", "ch"] (by decide +kernel) (by rfl) (binds1 fun _ _ _ _ _ => rfl) (by rfl) (by rfl)
  clear hR C
  intro C hR
  show Xs C _ [] _ _ [(("addr" : Str), D.str us.flatten)] _
  have hu' := hu.unq false
  have hn := hu'.pos
  have hl' := unq_len false us
  apply z_1
  · apply y_as rfl
    · apply y_fn (by rfl)
      · walk_at "ye"
      · exact f_strip hR hu hq hl
    · rfl
    · rfl
  generalize unq false us = vs at *
  apply z_1
  · apply y_as rfl
    · walk_at "ye"
    · rfl
    · rfl
  apply z_x
  apply z_for ["pos", "ch", "opens"]
  · apply y_i_gen (by rfl)
    · walk_at "ye"
    · exact g_told hR hu'
    · rw [List.length_map, tolds_length]; show _ ≤ 2 ^ 20; exact ar462 hl hn hl'
    · exact ims_told _
  · rfl
  · rfl
  apply z_loop (tolds 0 vs) (fun pre ρ => ∃ (h : Int) (tail : Store), ρ = shC vs.flatten h tail ∧ (tail = [] ∨ ∃ p c, tail = twoS "pos" "ch" p c) ∧ ∀ ws, vs = pre.map (·.2) ++ ws → chk 0 vs = chk h ws) (fun f _ => f = .ret (.bool (chk 0 vs))) toldD
  · rfl
  · exact ⟨0, [], rfl, .inl rfl, fun ws e => by rw [e]; rfl⟩
  · rintro pre ⟨p, u⟩ post hpre ρ ⟨h, tail, rfl, ht, hi⟩
    obtain ⟨us1, us2, f1, rfl, f3⟩ := tolds_split _ _ _ _ _ hpre
    rw [tolds_snd] at hi
    have hi := hi _ f1
    dsimp only at hi
    refine ⟨shC vs.flatten h (twoS "pos" "ch" (.int p) (.str u)), ?_, ?_⟩
    · rcases ht with rfl | ⟨p', c', rfl⟩ <;> exact .two (by rfl) (by rfl) rfl rfl
    simp only [List.map_append, tolds_snd, List.map_cons, List.map_nil]
    apply z_x
    apply z_if (c := u == [40])
    · walk_at "ye"
    · intro hc
      have hc := eq_of_beq hc
      subst hc
      apply z_1
      · apply y_aug rfl rfl
        walk_at "ye"
      apply z_0
      apply z_0
      refine ⟨h + 1, twoS "pos" "ch" (.int p) (.str [40]), rfl, .inr ⟨_, _, rfl⟩, fun ws e => ?_⟩
      have e : us2 = ws := by rw [f1, List.append_assoc] at e; exact (List.cons.inj (List.append_cancel_left e)).2
      rw [hi, chk, if_pos rfl, e]
    · intro hc
      have hc : u ≠ [40] := fun e => by subst e; cases hc
      apply z_x
      apply z_if (c := u == [41])
      · walk_at "ye"
      · intro hc
        have hc := eq_of_beq hc
        subst hc
        apply z_1
        · apply y_augS rfl rfl
          walk_at "ye"
        apply z_x
        apply z_if (c := decide (h - 1 < 0))
        · walk_at "ye"
        · intro hh
          apply z_x
          apply z_ret
          · walk_at "ye"
          · rfl
          · show _ = _
            rw [hi, chk, if_neg (by simp), if_pos rfl, if_pos (of_decide_eq_true hh)]
        · intro hh
          apply z_0
          apply z_0
          apply z_0
          apply z_0
          refine ⟨h - 1, twoS "pos" "ch" (.int p) (.str [41]), rfl, .inr ⟨_, _, rfl⟩, fun ws e => ?_⟩
          have e : us2 = ws := by rw [f1, List.append_assoc] at e; exact (List.cons.inj (List.append_cancel_left e)).2
          rw [hi, chk, if_neg (by simp), if_pos rfl, if_neg (of_decide_eq_false hh), e]
      · intro hc'
        have hc' : u ≠ [41] := fun e => by subst e; cases hc'
        apply z_0
        apply z_0
        apply z_0
        refine ⟨h, twoS "pos" "ch" (.int p) (.str u), rfl, .inr ⟨_, _, rfl⟩, fun ws e => ?_⟩
        have e : us2 = ws := by rw [f1, List.append_assoc] at e; exact (List.cons.inj (List.append_cancel_left e)).2
        rw [hi, chk, if_neg hc, if_neg hc', e]
  · rintro f ρ'' (⟨rfl, h, tail, rfl, ht, hi⟩ | h)
    · have hi := hi [] (by rw [tolds_snd, List.append_nil])
      show Xs _ _ _ _ _ _ _
      apply z_x
      apply z_ret
      · walk_at "ye"
      · rfl
      · show _ = _
        rw [hi]; rfl
    · subst h; rfl
end Mine
end
section
open PySem PySem.W
set_option maxRecDepth 100000
set_option maxHeartbeats 1000000
namespace Mine
local macro_rules | `(tactic| walk_at "ye") => `(tactic| first
  | exact y_c rfl
  | exact y_n rfl rfl rfl
  | exact y_nm rfl rfl rfl
  | exact y_s0
  | exact y_o0
  | exact y_dict0
  | (focus apply y_s1; all_goals first | walk_at "ye" | skip)
  | (focus apply y_o1; all_goals first | walk_at "ye" | skip)
  | (focus apply y_bin; all_goals first | walk_at "ye" | rfl | (constructor; done) | skip)
  | (focus apply y_cmp rfl; all_goals first | walk_at "ye" | rfl | (constructor; done) | skip)
  | (focus apply y_b_cmp rfl; all_goals first | walk_at "ye" | rfl | (constructor; done) | skip)
  | (focus apply y_list; all_goals first | walk_at "ye" | rfl | (constructor; done) | skip)
  | (focus apply y_slice rfl; all_goals first | walk_at "ye" | rfl | (constructor; done) | skip)
  | (focus apply y_meth rfl; all_goals first | walk_at "ye" | rfl | (constructor; done) | skip)
  | (focus apply y_call1 (by rfl); all_goals first | walk_at "ye" | rfl | (constructor; done) | skip))
noncomputable def shownD (p : Nat × Nat) : D := .tuple [.int p.1, .str [p.2]]
theorem ims_shown (l : List (Nat × Nat)) : D.ims (l.map shownD) = true := D.ims_all fun d h => by
  obtain ⟨p, _, rfl⟩ := List.mem_map.mp h
  rfl
noncomputable def endF (B : Nat → Bool) (place len : Nat) : List (Nat × Nat) → Nat
  | [] => len
  | (e, c) :: r => if place < e ∧ c = 41 ∧ B e = true then e + 1 else endF B place len r
theorem endF_skip (B : Nat → Bool) (place len : Nat) : ∀ pre post, (∀ p ∈ pre, ¬ (place < p.1 ∧ p.2 = 41 ∧ B p.1 = true)) → endF B place len (pre ++ post) = endF B place len post
  | [], _, _ => rfl
  | (e, c) :: r, post, h => by
    rw [List.cons_append, endF, if_neg (h (e, c) (by simp)), endF_skip B place len r post fun p hp => h p (by simp [hp])]
noncomputable def shE (row : List Nat) (place : Nat) (shown : List (Nat × Nat)) (tail : Store) : Store := (("row" : Str), D.str row) :: (("place" : Str), .int place) :: (("shown" : Str), .list (shown.map shownD)) :: tail
theorem f_end {C : Cx} {k : Nat} (hR : Rm C (k + 4)) {row : List Nat} {place : Nat} {shown : List (Nat × Nat)} {B : Nat → Bool} (hr : row.length ≤ 300) (hs : shown.length ≤ 300) (hp : place ≤ 300) (he : ∀ p ∈ shown, p.1 ≤ 300)
    (hB : ∀ e, (e, 41) ∈ shown → place < e → ∃ vs, Units vs ∧ qend false vs = false ∧ (row.take (e + 1)).drop place = vs.flatten ∧ B e = chk 0 (unq false vs)) :
    FnC C "_law_end" [.str row, .int place, .list (shown.map shownD)] (.int (endF B place row.length shown)) := by
  have hr20 : row.length ≤ lim := by show _ ≤ 2 ^ 20; exact ar418 hr
  apply fn_of hR ["row", "place", "shown"] ["end", "sign"] (by decide +kernel) (by rfl) (binds3 fun _ _ _ _ _ _ _ => rfl) (by rfl) (by rfl)
  clear hR C
  intro C hR
  show Xs C _ ["shown"] _ _ (shE row place shown []) _
  apply z_x
  apply z_for ["end", "sign"]
  · apply y_i_name
    · walk_at "ye"
    · have : shown.length ≤ lim := by show _ ≤ 2 ^ 20; exact ar418 hs
      simp only [itemsOf, List.length_map, this, ims_shown]
      rfl
  · rfl
  · rfl
  apply z_loop shown (fun pre ρ => ∃ (tail : Store), ρ = shE row place shown tail ∧ (tail = [] ∨ ∃ p c, tail = twoS "end" "sign" p c) ∧ (∀ p ∈ pre, ¬ (place < p.1 ∧ p.2 = 41 ∧ B p.1 = true))) (fun f _ => f = .ret (.int (endF B place row.length shown))) shownD
  · rfl
  · exact ⟨[], rfl, .inl rfl, by simp⟩
  · rintro pre ⟨e, c⟩ post hpre ρ ⟨tail, rfl, ht, hi⟩
    have hmem : (e, c) ∈ shown := by rw [hpre]; simp
    have hel : e ≤ 300 := he _ hmem
    refine ⟨shE row place shown (twoS "end" "sign" (.int e) (.str [c])), ?_, ?_⟩
    · rcases ht with rfl | ⟨p', c', rfl⟩ <;> exact .two (by rfl) (by rfl) rfl rfl
    apply z_x
    apply z_if (c := decide ((place : Int) < e) && (([c] == [41]) && B e))
    · apply y_b_bool
      apply y_bb_and
      · walk_at "ye"
      · intro h1
        apply y_bb_and
        · walk_at "ye"
        · intro h2
          have h1 : place < e := by have := of_decide_eq_true h1; exact ar463 this
          have h2 : c = 41 := by have := eq_of_beq h2; exact (List.cons.inj this).1
          subst h2
          obtain ⟨vs, u1, u2, u3, u4⟩ := hB e hmem h1
          apply y_bb_1
          apply y_b_call
          apply y_fn (by rfl)
          · apply y_s1
            · apply y_slice rfl
              · walk_at "ye"
              · walk_at "ye"
              · walk_at "ye"
              · exact o_sliceS (b := e + 1) (by exact ar464 hp) (by exact ar465 hel) hr20
            · walk_at "ye"
          · rw [u3, u4]
            apply f_check hR u1 u2
            rw [← u3, List.length_drop, List.length_take]
            exact ar466 hr
    · intro h
      simp only [Bool.and_eq_true, decide_eq_true_eq, beq_iff_eq, List.cons.injEq, and_true] at h
      obtain ⟨h1, h2, h3⟩ := h
      subst h2
      have h1 : place < e := by exact ar463 h1
      apply z_x
      apply z_ret
      · walk_at "ye"
      · rfl
      · show _ = _
        rw [hpre, endF_skip _ _ _ _ _ hi, endF, if_pos ⟨h1, rfl, h3⟩]
        rfl
    · intro h
      apply z_0
      apply z_0
      refine ⟨_, rfl, .inr ⟨_, _, rfl⟩, fun p hp => ?_⟩
      rcases List.mem_append.mp hp with hp | hp
      · exact hi p hp
      · have : p = (e, c) := by simpa using hp
        subst this
        rintro ⟨h1, rfl, h3⟩
        dsimp only at h1 h3
        have : (place : Int) < e := by exact ar467 h1
        simp [this, h3] at h
  · rintro f ρ'' (⟨rfl, tail, rfl, ht, hi⟩ | h)
    · show Xs _ _ _ _ _ _ _
      apply z_x
      apply z_ret
      · rcases ht with rfl | ⟨p', c', rfl⟩
        all_goals
          apply y_call1 (by rfl)
          · walk_at "ye"
          · exact o_lenS hr20
      · rfl
      · show _ = _
        have := endF_skip B place row.length shown [] hi
        rw [List.append_nil] at this
        rw [this]; rfl
    · subst h; rfl
end Mine
end
section
open PySem PySem.W
set_option maxRecDepth 100000
set_option maxHeartbeats 1000000
namespace Mine
noncomputable def one (q : Bool) (k : Nat) : List Nat → List (Nat × Nat)
  | [c] => if q then [] else [(k, c)]
  | _ => []
/-- the signs that stand alone outside of quotation marks -/
noncomputable def shownF : Bool → Nat → List (List Nat) → List (Nat × Nat)
  | _, _, [] => []
  | q, k, u :: r => if u = [34] then shownF (!q) (k + 1) r else one q k u ++ shownF q (k + u.length) r
theorem shownF_app : ∀ (q : Bool) (k : Nat) (a b), shownF q k (a ++ b) = shownF q k a ++ shownF (qend q a) (k + a.flatten.length) b
  | _, _, [], _ => rfl
  | q, k, u :: r, b => by
    simp only [List.cons_append, shownF, qend, List.flatten_cons, List.length_append]
    split
    · rename_i h
      rw [shownF_app, h]
      simp only [List.length_cons, List.length_nil, Nat.add_assoc, Nat.zero_add]
    · rw [shownF_app, List.append_assoc, Nat.add_assoc]
theorem one_ge {q k u} {p : Nat × Nat} (h : p ∈ one q k u) : p.1 = k ∧ u = [p.2] ∧ q = false := by
  unfold one at h
  split at h
  · split at h
    · cases h
    · have := List.mem_singleton.mp h
      subst this
      cases q
      · exact ⟨rfl, rfl, rfl⟩
      · contradiction
  · cases h
/-- where a shown sign comes from -/
theorem shownF_split : ∀ (q : Bool) (k : Nat) (us : List (List Nat)) (s1 : List (Nat × Nat)) (a s2), shownF q k us = s1 ++ a :: s2 →
    ∃ us1 us2, us = us1 ++ [a.2] :: us2 ∧ qend q us1 = false ∧ s1 = shownF q k us1 ∧ a.1 = k + us1.flatten.length ∧ s2 = shownF false (a.1 + 1) us2 ∧ a.2 ≠ 34
  | q, k, [], s1, a, s2, h => by cases s1 <;> cases h
  | q, k, u :: r, s1, a, s2, h => by
    rw [shownF] at h
    split at h
    · rename_i hu
      obtain ⟨us1, us2, e1, e2, e3, e4, e5, e6⟩ := shownF_split _ _ _ _ _ _ h
      refine ⟨u :: us1, us2, by rw [e1]; rfl, by rw [qend, if_pos hu, e2], by rw [shownF, if_pos hu, e3], ?_, e5, e6⟩
      rw [e4, hu]; simp; exact ar8
    · rename_i hu
      cases s1 with
      | nil =>
        cases ho : one q k u with
        | nil =>
          rw [ho, List.nil_append] at h
          obtain ⟨us1, us2, e1, e2, e3, e4, e5, e6⟩ := shownF_split q (k + u.length) r [] _ _ h
          refine ⟨u :: us1, us2, by rw [e1]; rfl, by rw [qend, if_neg hu, e2], by rw [shownF, if_neg hu, ← e3, ho]; rfl, ?_, e5, e6⟩
          rw [e4]; simp; exact ar468
        | cons b l =>
          have hb := one_ge (q := q) (k := k) (u := u) (p := b) (by rw [ho]; simp)
          obtain ⟨h1, h2, h3⟩ := hb
          have hl : l = [] := by rw [h2, h3] at ho; simp [one] at ho; exact ho.2
          rw [ho, hl] at h
          simp only [List.cons_append, List.nil_append, List.cons.injEq] at h
          obtain ⟨rfl, rfl⟩ := h
          exact ⟨[], r, by rw [h2]; rfl, by rw [h3]; rfl, rfl, by rw [h1]; simp, by rw [h1, h2, h3]; rfl, fun e => hu (by rw [h2, e])⟩
      | cons b s1 =>
        cases ho : one q k u with
        | nil =>
          rw [ho, List.nil_append] at h
          obtain ⟨us1, us2, e1, e2, e3, e4, e5, e6⟩ := shownF_split q (k + u.length) r (b :: s1) _ _ h
          refine ⟨u :: us1, us2, by rw [e1]; rfl, by rw [qend, if_neg hu, e2], by rw [shownF, if_neg hu, ← e3, ho]; rfl, ?_, e5, e6⟩
          rw [e4]; simp; exact ar468
        | cons b' l =>
          have hb := one_ge (q := q) (k := k) (u := u) (p := b') (by rw [ho]; simp)
          obtain ⟨h1, h2, h3⟩ := hb
          have hl : l = [] := by rw [h2, h3] at ho; simp [one] at ho; exact ho.2
          rw [ho, hl] at h
          simp only [List.cons_append, List.nil_append, List.cons.injEq] at h
          obtain ⟨hbb, h⟩ := h
          obtain ⟨us1, us2, e1, e2, e3, e4, e5, e6⟩ := shownF_split q (k + u.length) r s1 _ _ h
          refine ⟨u :: us1, us2, by rw [e1]; rfl, by rw [qend, if_neg hu, e2], by rw [shownF, if_neg hu, ho, hl, e3, hbb]; rfl, ?_, e5, e6⟩
          rw [e4]; simp; exact ar468
theorem shownF_ge : ∀ (q : Bool) (k : Nat) (us : List (List Nat)) (p), p ∈ shownF q k us → k ≤ p.1 ∧ p.1 < k + us.flatten.length
  | q, k, us, p, h => by
    obtain ⟨s1, s2, e⟩ := List.append_of_mem h
    obtain ⟨us1, us2, e1, e2, e3, e4, e5, e6⟩ := shownF_split _ _ _ _ _ _ e
    rw [e4, e1]
    simp only [List.flatten_append, List.flatten_cons, List.length_append, List.length_cons, List.length_nil]
    exact ar469
theorem shownF_len : ∀ (q : Bool) (k : Nat) (us : List (List Nat)), (shownF q k us).length ≤ us.length
  | _, _, [] => by simp [shownF]
  | q, k, u :: r => by
    rw [shownF]
    split
    · have := shownF_len (!q) (k + 1) r; simp only [List.length_cons]; exact ar58 this
    · have := shownF_len q (k + u.length) r
      have h1 : (one q k u).length ≤ 1 := by
        unfold one
        split
        · split <;> simp
        · simp
      simp only [List.length_cons, List.length_append]; exact ar470 this h1
/-- the tally of marks -/
noncomputable def chkS : Int → List Nat → Bool
  | h, [] => h == 0
  | h, c :: r => if c = 40 then chkS (h + 1) r else if c = 41 then (if h - 1 < 0 then false else chkS (h - 1) r) else chkS h r
theorem chk_shown {us : List (List Nat)} (hu : Units us) : ∀ (q : Bool) (k : Nat) (h : Int), chk h (unq q us) = chkS h ((shownF q k us).map (·.2)) := by
  induction hu with
  | nil => intro q k h; rfl
  | lone => intro q k h; cases q <;> rfl
  | @ch c r hc _ ih =>
    intro q k h
    rw [unq, shownF]
    by_cases h34 : c = 34
    · rw [if_pos (by rw [h34]), if_pos (by rw [h34])]; exact ih ..
    · have : ¬ ([c] = [34]) := by simpa using h34
      rw [if_neg this, if_neg this]
      cases q
      · simp only [one, Bool.false_eq_true, if_false, List.map_append, List.map_cons, List.map_nil, List.cons_append, List.nil_append, chkS, chk, List.cons.injEq, and_true]
        simp only [ih false (k + [c].length)]
      · simp only [one, if_true, List.nil_append]
        exact ih ..
  | @esc c r _ ih =>
    intro q k h
    have e1 : ¬ ([92, c] = [34]) := by simp
    have e2 : ¬ ([92, c] = [40]) := by simp
    have e3 : ¬ ([92, c] = [41]) := by simp
    cases q
    · simp only [unq, shownF, chk, e1, e2, e3, if_false, Bool.false_eq_true, one, List.nil_append]
      exact ih ..
    · simp only [unq, shownF, e1, if_false, if_true, one, List.nil_append]
      exact ih ..
theorem Units.app1 {a : List (List Nat)} {u : List Nat} {b : List (List Nat)} (hc : u ≠ [92]) (h : Units (a ++ u :: b)) : Units (a ++ [u]) := by
  induction a with
  | nil =>
    cases h with
    | lone => exact absurd rfl hc
    | ch h1 _ => exact .ch h1 .nil
    | esc _ => exact .esc .nil
  | cons v r ih =>
    generalize hg : (v :: r) ++ u :: b = l at h
    cases h with
    | nil => cases hg
    | lone => cases r <;> simp at hg
    | ch h1 h2 => cases hg; exact .ch h1 (ih h2)
    | esc h2 => cases hg; exact .esc (ih h2)
theorem Units.tail {a b : List (List Nat)} (h : Units (a ++ b)) : Units b := by
  induction a with
  | nil => exact h
  | cons v r ih =>
    rw [List.cons_append] at h
    generalize hg : r ++ b = l at h ih
    cases h with
    | lone =>
      have : r = [] ∧ b = [] := by simpa using hg
      rw [this.2]; exact .nil
    | ch h1 h2 => exact ih h2
    | esc h2 => exact ih h2
/-- where the stretch from an opening mark ends -/
noncomputable def matchEnd (len : Nat) : Nat → List (Nat × Nat) → Nat
  | _, [] => len
  | h, (e, c) :: r => if c = 40 then matchEnd len (h + 1) r else if c = 41 then (if h = 1 then e + 1 else matchEnd len (h - 1) r) else matchEnd len h r
/-- a tally that holds so far -/
noncomputable def run : Nat → List Nat → Option Nat
  | h, [] => some h
  | h, c :: r => if c = 40 then run (h + 1) r else if c = 41 then (if h ≤ 1 then none else run (h - 1) r) else run h r
theorem run_app : ∀ (h : Nat) (a b), run h (a ++ b) = (run h a).bind (run · b)
  | _, [], _ => rfl
  | h, c :: r, b => by
    simp only [List.cons_append, run]
    split
    · exact run_app ..
    · split
      · split
        · rfl
        · exact run_app ..
      · exact run_app ..
theorem chkS_run : ∀ (h : Nat) (m : List Nat) (h' : Nat) (b), 0 < h → run h m = some h' → chkS h (m ++ b) = chkS h' b
  | h, [], h', b, _, e => by cases e; rfl
  | h, c :: r, h', b, h0, e => by
    rw [run] at e
    rw [List.cons_append, chkS]
    split at e
    · rename_i hc
      rw [if_pos hc]
      exact chkS_run (h + 1) r h' b (by exact ar3) e
    · rename_i hc
      rw [if_neg hc]
      split at e
      · rename_i hc'
        split at e
        · cases e
        · rename_i h1
          rw [if_pos hc', if_neg (by exact ar471 h1)]
          have := chkS_run (h - 1) r h' b (by exact ar472 h1) e
          rw [← this]
          congr 1
          exact ar473 h1
      · rename_i hc'
        rw [if_neg hc']
        exact chkS_run h r h' b h0 e
theorem run_pos : ∀ (h : Nat) (m : List Nat) (h' : Nat), 0 < h → run h m = some h' → 0 < h'
  | h, [], h', h0, e => by cases e; exact h0
  | h, c :: r, h', h0, e => by
    rw [run] at e
    split at e
    · exact run_pos _ _ _ (by exact ar3) e
    · split at e
      · split at e
        · cases e
        · exact run_pos _ _ _ (by exact ar472 (by assumption)) e
      · exact run_pos _ _ _ h0 e
/-- the search for the end is the tally's first end -/
theorem endF_match (B : Nat → Bool) (place len : Nat) (s2 : List (Nat × Nat)) (hB : ∀ m e r, s2 = m ++ (e, 41) :: r → B e = chkS 0 (40 :: m.map (·.2) ++ [41])) (hp : ∀ p ∈ s2, place < p.1) :
    ∀ (r m : List (Nat × Nat)) (h : Nat), s2 = m ++ r → run 1 (m.map (·.2)) = some h → endF B place len r = matchEnd len h r
  | [], m, h, _, _ => rfl
  | (e, c) :: r, m, h, hs, hr => by
    have h0 := run_pos _ _ _ (by exact ar37) hr
    have hpe : place < e := hp (e, c) (by rw [hs]; simp)
    have go := fun h' hh => endF_match B place len s2 hB hp r (m ++ [(e, c)]) h' (by rw [hs]; simp) (by
      rw [List.map_append, run_app, hr]; exact hh)
    rw [endF, matchEnd]
    by_cases h40 : c = 40
    · rw [if_neg (by exact ar474 h40), if_pos h40]
      exact go _ (by show run h [c] = _; rw [run, if_pos h40]; rfl)
    · by_cases h41 : c = 41
      · rw [if_neg h40, if_pos h41]
        subst h41
        have hb : B e = chkS h [41] := by
          rw [hB _ _ _ hs]
          have := chkS_run 1 (m.map (·.2)) h [41] (by exact ar37) hr
          rw [← this]; rfl
        have hb' : chkS h [41] = decide (h = 1) := by
          rw [chkS, if_neg (by exact ar147), if_pos rfl, if_neg (by exact ar475 h0), chkS]
          rw [Bool.eq_iff_iff]
          simp
          exact ar476
        by_cases h1 : h = 1
        · rw [if_pos h1, if_pos ⟨hpe, rfl, by rw [hb, hb', decide_eq_true h1]⟩]
        · rw [if_neg h1, if_neg (by rw [hb, hb', decide_eq_false h1]; simp)]
          exact go _ (by show run h [41] = _; rw [run, if_neg (by exact ar147), if_pos rfl, if_neg (by exact ar477 h0 h1)]; rfl)
      · rw [if_neg h40, if_neg h41, if_neg (by exact ar478 h41)]
        exact go _ (by show run h [c] = _; rw [run, if_neg h40, if_neg h41]; rfl)
/-- the pieces of what is shown -/
noncomputable def goP (len : Nat) : List (Nat × Nat) → List (Nat × Nat)
  | [] => []
  | (p, c) :: r => (if c = 40 then [(p, matchEnd len 1 r)] else if 256 ≤ c then [(p, p + 1)] else []) ++ goP len r
noncomputable def dotsN (row : List Nat) : Nat := row.length - (stripL [46] row).length
noncomputable def piecesF (us : List (List Nat)) : List (Nat × Nat) := (List.range (dotsN us.flatten)).map (fun k => (k, us.flatten.length)) ++ goP us.flatten.length (shownF false 0 us)
end Mine
end
section
open PySem PySem.W
set_option maxRecDepth 100000
set_option maxHeartbeats 1000000
namespace Mine
theorem o_sliceL0 {l : List D} {b : Nat} (hi : D.ims l = true) (hb : b < 2 ^ 60) (hl : l.length ≤ lim) : sliceD (.list l) none (some b) = some (.list (l.take b)) := by
  simp only [sliceD, hi, if_true, sliceL, Option.getD_some, Option.getD_none, small, hl]
  have h6 : (0 ≤ (b : Int)) := by exact ar321
  simp [h6]; exact ar479 hb
noncomputable def pairD (p : Nat × Nat) : D := .tuple [.int p.1, .int p.2]
theorem ims_pair (l : List (Nat × Nat)) : D.ims (l.map pairD) = true := D.ims_all fun d h => by
  obtain ⟨p, _, rfl⟩ := List.mem_map.mp h
  rfl
theorem o_strip {s cs : List Nat} (h : s.length ≤ lim) (h' : cs.length ≤ lim) : MethR ("lstrip" : Str) (.str s) (.str cs) (.str (stripL cs s)) := .lstrip h h'
theorem stripL_len (cs s : List Nat) : (stripL cs s).length ≤ s.length := by
  unfold stripL
  exact (List.dropWhile_suffix _).length_le
noncomputable def lastsF : Nat → List (List Nat) → List Nat
  | _, [] => []
  | k, u :: r => (k + u.length - 1) :: lastsF (k + u.length) r
theorem tolds_fst : ∀ k us, (tolds k us).map (·.1) = lastsF k us
  | _, [] => rfl
  | k, u :: r => by rw [tolds, List.map_cons, tolds_fst, lastsF]
theorem Units.ne {us : List (List Nat)} (h : Units us) : ∀ u ∈ us, 0 < u.length := by
  induction h with
  | nil => simp
  | lone => simp
  | ch _ _ ih => intro u hu; rcases List.mem_cons.mp hu with rfl | h; simp; exact ih _ h
  | esc _ ih => intro u hu; rcases List.mem_cons.mp hu with rfl | h; simp; exact ih _ h
theorem lastsF_range : ∀ (us : List (List Nat)) (k : Nat), (∀ u ∈ us, 0 < u.length) → (lastsF k us).map (fun n : Nat => (n : Int)) = (List.range us.length).map (fun j => ((k + (us.take (j + 1)).flatten.length : Nat) : Int) - 1)
  | [], _, _ => rfl
  | u :: r, k, h => by
    have h0 := h u (by simp)
    have ih := lastsF_range r (k + u.length) fun v hv => h v (by simp [hv])
    rw [lastsF, List.map_cons, ih, List.length_cons, List.range_succ_eq_map, List.map_cons, List.map_map]
    congr 1
    · simp; exact ar480 h0
    · apply List.map_congr_left
      intro j _
      simp only [Function.comp, List.take_succ_cons, List.flatten_cons, List.length_append]
      exact ar481
local macro_rules | `(tactic| walk_at "ye") => `(tactic| first
  | exact y_c rfl
  | exact y_n rfl rfl rfl
  | exact y_nm rfl rfl rfl
  | exact y_nt rfl
  | exact y_em rfl
  | exact y_s0
  | exact y_o0
  | exact y_dict0
  | exact y_t0
  | (focus apply y_s1; all_goals first | walk_at "ye" | skip)
  | (focus apply y_o1; all_goals first | walk_at "ye" | skip)
  | (focus apply y_bin; all_goals first | walk_at "ye" | rfl | (constructor; done) | skip)
  | (focus apply y_un; all_goals first | walk_at "ye" | rfl | (constructor; done) | skip)
  | (focus apply y_cmp (by rfl); all_goals first | walk_at "ye" | rfl | (constructor; done) | skip)
  | (focus apply y_b_cmp (by rfl); all_goals first | walk_at "ye" | rfl | (constructor; done) | skip)
  | (focus apply y_list; all_goals first | walk_at "ye" | rfl | decide | skip)
  | (focus apply y_t1; all_goals first | walk_at "ye" | decide | skip)
  | (focus apply y_tup; all_goals first | walk_at "ye" | exact Nat.le_of_ble_eq_true rfl | skip)
  | (focus apply y_slice (by rfl); all_goals first | walk_at "ye" | rfl | (constructor; done) | skip)
  | (focus apply y_meth (by rfl); all_goals first | walk_at "ye" | rfl | (constructor; done) | skip)
  | (focus apply y_call1 (by rfl); all_goals first | walk_at "ye" | rfl | (constructor; done) | skip))
theorem f_eof {C : Cx} {k : Nat} (hR : Rm C (k + 1)) (x : Int) : FnC C "ISEOF" [.int x] (.bool (x == 0)) := by
  apply fn_of hR ["x"] [] (by decide +kernel) (by rfl) (binds1 fun _ _ _ _ _ => rfl) (by rfl) (by rfl)
  clear hR C
  intro C hR
  show Xs C _ [] _ _ [(("x" : Str), D.int x)] _
  apply z_x
  apply z_ret
  · walk_at "ye"
  · rfl
  · rfl
theorem f_non {C : Cx} {k : Nat} (hR : Rm C (k + 1)) (x : Int) : FnC C "ISNONTERMINAL" [.int x] (.bool (decide (256 ≤ x))) := by
  apply fn_of hR ["x"] [] (by decide +kernel) (by rfl) (binds1 fun _ _ _ _ _ => rfl) (by rfl) (by rfl)
  clear hR C
  intro C hR
  show Xs C _ [] _ _ [(("x" : Str), D.int x)] _
  apply z_x
  apply z_ret
  · walk_at "ye"
  · rfl
  · rfl
noncomputable def shP (row : List Nat) (pieces shown : List (Nat × Nat)) (quoted : Bool) (us : List (List Nat)) (tail : Store) : Store :=
  (("row" : Str), D.str row) :: (("pieces" : Str), .list (pieces.map pairD)) :: (("shown" : Str), .list (shown.map shownD)) :: (("quoted" : Str), .bool quoted) :: (("told" : Str), .list ((tolds 0 us).map toldD)) :: (("units" : Str), .list (us.map D.str)) :: (("lasts" : Str), .list (((lastsF 0 us).map (fun n : Nat => (n : Int))).map D.int)) :: tail
theorem take_flat (us : List (List Nat)) (j : Nat) : (us.take j).flatten.length ≤ us.flatten.length := by
  conv => rhs; rw [← List.take_append_drop j us]
  rw [List.flatten_append, List.length_append]; exact ar482
theorem takeWhile_split {α : Type} (f : α → Bool) (m : List α) (a : α) (r : List α) (hm : ∀ x ∈ m, f x = true) (ha : f a = false) : (m ++ a :: r).takeWhile f = m := by
  rw [List.takeWhile_append_of_pos hm, List.takeWhile_cons_of_neg (by simp [ha]), List.append_nil]
theorem end_of_shown {us : List (List Nat)} (hu : Units us) {pre : List (Nat × Nat)} {p : Nat} {post} (hs : shownF false 0 us = pre ++ (p, 40) :: post) : ∃ B : Nat → Bool,
    (∀ e, (e, 41) ∈ shownF false 0 us → p < e → ∃ vs, Units vs ∧ qend false vs = false ∧ (us.flatten.take (e + 1)).drop p = vs.flatten ∧ B e = chk 0 (unq false vs)) ∧
    endF B p us.flatten.length (shownF false 0 us) = matchEnd us.flatten.length 1 post := by
  obtain ⟨us1, us2, e1, e2, e3, e4, e5, _⟩ := shownF_split _ _ _ _ _ _ hs
  dsimp only at e1 e4 e5
  have key : ∀ m e r, post = m ++ (e, 41) :: r → ∃ us3 us4, us2 = us3 ++ [41] :: us4 ∧ qend false us3 = false ∧ m = shownF false (p + 1) us3 ∧ e = p + 1 + us3.flatten.length ∧ post.takeWhile (fun x => decide (x.1 < e)) = m := by
    intro m e r h
    rw [e5] at h
    obtain ⟨us3, us4, f1, f2, f3, f4, f5, _⟩ := shownF_split _ _ _ _ _ _ h
    dsimp only at f1 f4
    refine ⟨us3, us4, f1, f2, f3, f4, ?_⟩
    rw [e5, h]
    apply takeWhile_split
    · intro x hx
      rw [f3] at hx
      have := shownF_ge _ _ _ _ hx
      exact decide_eq_true (by exact ar483 f4 this)
    · exact decide_eq_false (by simp)
  have hpre : ∀ x ∈ pre, x.1 < p := by
    intro x hx
    rw [e3] at hx
    have := shownF_ge _ _ _ _ hx
    exact ar484 e4 this
  refine ⟨fun e => chkS 0 (40 :: (post.takeWhile (fun x => decide (x.1 < e))).map (·.2) ++ [41]), ?_, ?_⟩
  · intro e he hpe
    have hm : (e, 41) ∈ post := by
      rw [hs] at he
      rcases List.mem_append.mp he with h | h
      · have := hpre _ h; dsimp only at this; exact (ar485 hpe this).elim
      · rcases List.mem_cons.mp h with h | h
        · cases h
        · exact h
    obtain ⟨m, r, h⟩ := List.append_of_mem hm
    obtain ⟨us3, us4, f1, f2, f3, f4, f5⟩ := key m e r h
    have hvs : Units ([40] :: us3 ++ [[41]]) := by
      rw [e1] at hu
      have := hu.tail
      rw [f1, ← List.cons_append] at this
      exact this.app1 (by simp)
    refine ⟨[40] :: us3 ++ [[41]], hvs, ?_, ?_, ?_⟩
    · rw [List.cons_append, qend, if_neg (by simp), qend_app, f2]; rfl
    · have hfl : us.flatten = us1.flatten ++ (([40] :: us3 ++ [[41]]).flatten ++ us4.flatten) := by
        rw [e1, f1]; simp
      have hl : ([40] :: us3 ++ [[41]]).flatten.length = 1 + us3.flatten.length + 1 := by
        simp only [List.cons_append, List.flatten_cons, List.flatten_append, List.length_append, List.length_cons, List.length_nil, List.flatten_nil]
        exact ar486
      have hp0 : us1.flatten.length = p := by exact ar487 e4
      rw [hfl, ← hp0, List.take_append, List.take_of_length_le (by exact ar488 e4 f4), List.drop_left]
      rw [List.take_append_of_le_length (by rw [hl]; exact ar489 e4 f4), List.take_of_length_le (by rw [hl]; exact ar490 e4 f4)]
    · dsimp only
      rw [f5, chk_shown hvs false p]
      show _ = chkS 0 ((shownF false p ([40] :: (us3 ++ [[41]]))).map (·.2))
      rw [shownF, if_neg (by simp), shownF_app, f2]
      rw [f3]
      simp [one, shownF]
  · rw [hs]
    have h1 : ∀ B, endF B p us.flatten.length (pre ++ (p, 40) :: post) = endF B p us.flatten.length post := by
      intro B
      have := endF_skip B p us.flatten.length (pre ++ [(p, 40)]) post (by
        intro x hx
        rcases List.mem_append.mp hx with h | h
        · have := hpre _ h; exact ar491 this
        · have : x = (p, 40) := by simpa using h
          subst this; simp)
      rw [List.append_assoc] at this
      exact this
    rw [h1]
    refine endF_match _ p _ post ?_ ?_ post [] 1 rfl rfl
    · intro m e r h
      obtain ⟨us3, us4, f1, f2, f3, f4, f5⟩ := key m e r h
      rw [f5]
    · intro x hx
      rw [e5] at hx
      have := shownF_ge _ _ _ _ hx
      exact ar492 this
theorem goP_len (len : Nat) : ∀ l, (goP len l).length ≤ l.length
  | [] => Nat.le_refl _
  | (p, c) :: r => by
    have := goP_len len r
    rw [goP, List.length_append]
    split
    · simp; exact ar43 this
    · split <;> simp <;> (first | exact ar43 this | exact ar58 this)
theorem filter_true {α : Type} (l : List α) : l.filter (fun _ => true) = l := List.filter_eq_self.mpr (by simp)

theorem f_pieces {C : Cx} {k : Nat} (hR : Rm C (k + 5)) {us : List (List Nat)} (hu : Units us) (hl : us.flatten.length ≤ 300) : FnC C "_law_pieces" [.str us.flatten] (.list ((piecesF us).map pairD)) := by
  have hl20 : us.flatten.length ≤ lim := by show _ ≤ 2 ^ 20; exact ar418 hl
  have hn := hu.pos
  have hn20 : us.length ≤ lim := by show _ ≤ 2 ^ 20; exact ar448 hl hn
  have hd20 := stripL_len [46] us.flatten
  apply fn_of hR ["row"] ["pieces", "shown", "quoted", "told", "units", "lasts", "place", "sign"] (by decide +kernel) (by rfl) (binds1 fun _ _ _ _ _ => rfl) (by rfl) (by rfl)
  clear hR C
  intro C hR
  show Xs C _ [] _ _ [(("row" : Str), D.str us.flatten)] _
  apply z_1
  · apply y_as (d := .list (((List.range (dotsN us.flatten)).map (fun k => (k, us.flatten.length))).map pairD)) rfl
    · apply y_comp (by rfl)
      · apply y_i_range1 (by rfl)
        · apply y_bin
          · apply y_call1 (by rfl)
            · walk_at "ye"
            · exact o_lenS hl20
          · apply y_call1 (by rfl)
            · apply y_meth (by rfl)
              · walk_at "ye"
              · walk_at "ye"
              · exact o_strip hl20 (by decide)
            · exact o_lenS (Nat.le_trans (stripL_len _ _) hl20)
          · exact .subI _ _
        · have := stripL_len (Str.ofString ".").cps.toList us.flatten; exact ar493 this
        · have : us.flatten.length ≤ 2 ^ 20 := hl20
          show _ ≤ (((2 ^ 20 : Nat)) : Int)
          exact ar494 hl
      · have : ((us.flatten.length : Int) - ((stripL (Str.ofString ".").cps.toList us.flatten).length : Int)).toNat = dotsN us.flatten := by
          show ((us.flatten.length : Int) - ((stripL [46] us.flatten).length : Int)).toNat = _
          unfold dotsN; exact ar495
        rw [this, rangeD]
        have e2 : ((List.range (dotsN us.flatten)).map (fun k => (k, us.flatten.length))).map pairD = ((List.range (dotsN us.flatten)).filter (fun _ => true)).map (fun k : Nat => D.tuple [.int (0 + (k : Int)), .int us.flatten.length]) := by
          rw [filter_true, List.map_map]
          apply List.map_congr_left
          intro j _
          simp [pairD]
        rw [e2]
        apply y_comp_all _ _ _
        · intro a _
          refine ⟨_, by first | exact .one (by rfl) rfl | exact .two (by rfl) (by rfl) rfl rfl, y_bs0, fun _ => ?_, rfl⟩
          apply Val.of
          apply y_tup
          · apply y_t1
            · walk_at "ye"
            · apply y_t1
              · apply y_call1 (by rfl)
                · walk_at "ye"
                · exact o_lenS hl20
              · walk_at "ye"
              · decide
            · decide
          · exact Nat.le_of_ble_eq_true rfl
        · rfl
      · simp only [List.length_map, List.length_range]
        have : us.flatten.length ≤ 2 ^ 20 := hl20
        show dotsN us.flatten ≤ 2 ^ 20
        unfold dotsN; exact ar496 hl
    · rfl
    · rfl
  -- shown, quoted = [], False
  apply z_1
  · apply y_as_tup (by rfl) (by rfl)
    · walk_at "ye"
    · rfl
    · rfl
  -- told = list(..)
  apply z_1
  · apply y_as (d := .list ((tolds 0 us).map toldD)) rfl
    · apply y_gen (by rfl) (by rfl)
      · walk_at "ye"
      · exact g_told hR hu
      · rw [List.length_map, tolds_length]; exact hn20
      · exact ims_told _
    · rfl
    · rfl
  -- units
  have htold : itemsOf (.list ((tolds 0 us).map toldD)) = some ((tolds 0 us).map toldD) := by
    simp only [itemsOf, List.length_map, tolds_length, hn20, ims_told]
    rfl
  apply z_1
  · apply y_as (d := .list (us.map D.str)) rfl
    · apply y_comp (by rfl)
      · apply y_i_name
        · walk_at "ye"
        · exact htold
      · have e2 : us.map D.str = ((tolds 0 us).filter (fun _ => true)).map (fun p => D.str p.2) := by
          rw [filter_true]
          conv => lhs; rw [← tolds_snd 0 us]
          rw [List.map_map]; rfl
        rw [e2]
        apply y_comp_all _ _ _
        · intro a _
          refine ⟨_, by first | exact .one (by rfl) rfl | exact .two (by rfl) (by rfl) rfl rfl, y_bs0, fun _ => ?_, rfl⟩
          apply Val.of
          walk_at "ye"
        · rfl
      · rw [List.length_map]; exact hn20
    · rfl
    · rfl
  -- lasts
  apply z_1
  · apply y_as (d := .list (((lastsF 0 us).map (fun n : Nat => (n : Int))).map D.int)) rfl
    · apply y_comp (by rfl)
      · apply y_i_range1 (by rfl)
        · apply y_call1 (by rfl)
          · walk_at "ye"
          · exact o_lenL (by rw [List.length_map]; exact hn20)
        · exact ar321
        · rw [List.length_map]; exact Int.ofNat_le.mpr hn20
      · rw [List.length_map, rangeD]
        have e2 : ((lastsF 0 us).map (fun n : Nat => (n : Int))).map D.int = ((List.range us.length).filter (fun _ => true)).map (fun j => D.int (((us.take (j + 1)).flatten.length : Nat) - 1)) := by
          rw [filter_true, lastsF_range _ _ hu.ne, List.map_map]
          apply List.map_congr_left
          intro j _
          simp
        rw [e2]
        apply y_comp_all _ _ _
        · intro a ha
          have ha := List.mem_range.mp ha
          refine ⟨_, by first | exact .one (by rfl) rfl | exact .two (by rfl) (by rfl) rfl rfl, y_bs0, fun _ => ?_, rfl⟩
          apply Val.of
          apply y_bin
          · apply y_call1 (by rfl)
            · apply y_meth (by rfl)
              · walk_at "ye"
              · apply y_slice (by rfl)
                · walk_at "ye"
                · walk_at "ye"
                · walk_at "ye"
                · have : (0 : Int) + a + 1 = ((a + 1 : Nat) : Int) := by exact ar497
                  rw [this]
                  exact o_sliceL0 (ims_str _) (by exact ar498 hl hn ha) (by rw [List.length_map]; exact hn20)
              · rw [← List.map_take]
                apply o_join
                · exact Nat.le_trans (take_flat _ _) hl20
                · exact Nat.le_trans (List.length_take_le' _ _) hn20
            · exact o_lenS (Nat.le_trans (take_flat _ _) hl20)
          · walk_at "ye"
          · exact .subI _ _
        · rfl
      · rw [List.length_map, List.length_map, ← tolds_fst, List.length_map, tolds_length]
        exact hn20
    · rfl
    · rfl
  -- the test
  apply z_x
  apply z_if (c := (us.flatten != us.flatten) || (((lastsF 0 us).map (fun n : Nat => (n : Int))) != ((lastsF 0 us).map (fun n : Nat => (n : Int)))))
  · apply y_b_bool
    apply y_bb_or
    · apply y_b_cmp (by rfl)
      · apply y_meth (by rfl)
        · walk_at "ye"
        · walk_at "ye"
        · exact o_join hl20 hn20
      · walk_at "ye"
      · exact .neS _ _
    · intro _
      apply y_bb_1
      apply y_b_cmp (by rfl)
      · apply y_comp (ds := ((lastsF 0 us).map (fun n : Nat => (n : Int))).map D.int) (by rfl)
        · apply y_i_name
          · walk_at "ye"
          · exact htold
        · have e2 : ((lastsF 0 us).map (fun n : Nat => (n : Int))).map D.int = ((tolds 0 us).filter (fun _ => true)).map (fun p => D.int p.1) := by
            rw [filter_true, ← tolds_fst, List.map_map, List.map_map]; rfl
          rw [e2]
          apply y_comp_all _ _ _
          · intro a _
            refine ⟨_, by first | exact .one (by rfl) rfl | exact .two (by rfl) (by rfl) rfl rfl, y_bs0, fun _ => ?_, rfl⟩
            apply Val.of
            walk_at "ye"
          · rfl
        · rw [List.length_map, List.length_map, ← tolds_fst, List.length_map, tolds_length]; exact hn20
      · walk_at "ye"
      · exact .neL _ _
  · intro h; simp at h
  intro _
  apply z_0
  show Xs _ _ _ _ _ _ _
  -- the first loop
  apply z_x
  apply z_for ["place", "sign", "quoted", "shown"]
  · apply y_i_name
    · walk_at "ye"
    · exact htold
  · rfl
  · rfl
  apply z_loop (tolds 0 us) (fun pre ρ => ∃ (tail : Store), ρ = shP us.flatten ((List.range (dotsN us.flatten)).map (fun k => (k, us.flatten.length))) (shownF false 0 (pre.map (·.2))) (qend false (pre.map (·.2))) us tail ∧ (tail = [] ∨ ∃ p c, tail = twoS "place" "sign" p c)) (fun _ _ => False) toldD
  · rfl
  · exact ⟨[], rfl, .inl rfl⟩
  · rintro pre ⟨p, u⟩ post hpre ρ ⟨tail, rfl, ht⟩
    obtain ⟨us1, us2, f1, rfl, f3⟩ := tolds_split _ _ _ _ _ hpre
    dsimp only at f1 f3
    have hul : us.flatten.length = us1.flatten.length + u.length + us2.flatten.length := by rw [f1]; simp; exact ar449
    simp only [List.map_append, tolds_snd, List.map_cons, List.map_nil, qend_app, shownF_app, Nat.zero_add] at f3 ⊢
    have hsl : (shownF false 0 us1).length ≤ us1.length := shownF_len ..
    have hul2 : us1.length ≤ us.length := by rw [f1]; simp
    generalize qend false us1 = q
    generalize shownF false 0 us1 = S at *
    refine ⟨shP us.flatten ((List.range (dotsN us.flatten)).map (fun k => (k, us.flatten.length))) S q us (twoS "place" "sign" (.int p) (.str u)), ?_, ?_⟩
    · rcases ht with rfl | ⟨p', c', rfl⟩ <;> exact .two (by rfl) (by rfl) rfl rfl
    apply z_x
    apply z_if (c := u == [34])
    · walk_at "ye"
    · intro h
      have h := eq_of_beq h
      subst h
      apply z_1
      · apply y_as rfl
        · walk_at "ye"
        · rfl
        · rfl
      apply z_0
      apply z_0
      exact ⟨twoS "place" "sign" (.int p) (.str [34]), by simp only [shownF, if_true, List.append_nil]; rfl, .inr ⟨_, _, rfl⟩⟩
    · intro h
      have h : u ≠ [34] := fun e => by subst e; cases h
      apply z_x
      apply z_if (c := ((u.length : Int) == 1) && !q)
      · apply y_b_bool
        apply y_bb_and
        · apply y_b_cmp (by rfl)
          · apply y_call1 (by rfl)
            · walk_at "ye"
            · exact o_lenS (by show _ ≤ 2 ^ 20; exact ar499 hl hul)
          · walk_at "ye"
          · exact .eqI _ _
        · intro _
          apply y_bb_1
          apply y_b_not
          apply y_b_name
          walk_at "ye"
      · intro hc
        simp only [Bool.and_eq_true, beq_iff_eq, Bool.not_eq_true'] at hc
        obtain ⟨h1, rfl⟩ := hc
        have h1 : u.length = 1 := by exact ar192 h1
        obtain ⟨c, rfl⟩ := List.length_eq_one_iff.mp h1
        have hp : p = us1.flatten.length := by simp only [List.length_cons, List.length_nil] at f3; exact ar500 f3
        apply z_1
        · apply y_app (by rfl) (by rfl) (by rfl) (by rfl)
          · walk_at "ye"
          · rfl
          · rw [List.length_map]; show _ < 2 ^ 20; exact ar501 hl hn hul2 hsl
        apply z_0
        apply z_0
        apply z_0
        refine ⟨twoS "place" "sign" (.int p) (.str [c]), ?_, .inr ⟨_, _, rfl⟩⟩
        have e1 : shownF false us1.flatten.length [[c]] = [(p, c)] := by
          rw [shownF, if_neg h, hp]; rfl
        rw [e1, qend, if_neg h]
        simp only [shP, List.map_append]
        rfl
      · intro hc
        apply z_0
        apply z_0
        apply z_0
        refine ⟨twoS "place" "sign" (.int p) (.str u), ?_, .inr ⟨_, _, rfl⟩⟩
        have e1 : shownF q us1.flatten.length [u] = [] := by
          rw [shownF, if_neg h, shownF, List.append_nil]
          unfold one
          split
          · cases q
            · simp at hc
            · rfl
          · rfl
        rw [e1, qend, if_neg h, List.append_nil]
        rfl
  intro f ρ'' hh
  obtain ⟨rfl, tail, rfl, ht⟩ := hh.resolve_right (fun h => h)
  show Xs _ _ _ _ _ _ _
  rw [tolds_snd]
  generalize qend false us = q
  have hSl : (shownF false 0 us).length ≤ us.length := shownF_len ..
  have hSg : ∀ p ∈ shownF false 0 us, p.1 < us.flatten.length := fun p hp => by
    have := shownF_ge _ _ _ _ hp; exact ar170 this
  have hdl : dotsN us.flatten ≤ us.flatten.length := by unfold dotsN; exact ar502
  have hend : ∀ (pre : List (Nat × Nat)) (p : Nat) (post), shownF false 0 us = pre ++ (p, 40) :: post → FnC C "_law_end" [D.str us.flatten, .int p, .list ((shownF false 0 us).map shownD)] (.int (matchEnd us.flatten.length 1 post)) := by
    intro pre p post hs
    obtain ⟨B, hB, hm⟩ := end_of_shown hu hs
    rw [← hm]
    exact f_end hR hl (by exact ar503 hl hn hSl) (by have := hSg (p, 40) (by rw [hs]; simp); dsimp only at this; exact ar504 hl this) (fun x hx => by have := hSg x hx; exact ar504 hl this) hB
  have hpf : piecesF us = (List.range (dotsN us.flatten)).map (fun k => (k, us.flatten.length)) ++ goP us.flatten.length (shownF false 0 us) := rfl
  rw [hpf]
  have hDl : ((List.range (dotsN us.flatten)).map (fun k => (k, us.flatten.length))).length ≤ us.flatten.length := by rw [List.length_map, List.length_range]; exact hdl
  generalize (List.range (dotsN us.flatten)).map (fun k => (k, us.flatten.length)) = dots at *
  generalize shownF false 0 us = S at *
  apply z_x
  apply z_for ["place", "sign", "pieces"]
  · apply y_i_name
    · walk_at "ye"
    · have : S.length ≤ lim := by show _ ≤ 2 ^ 20; exact ar505 hl hn hSl
      simp only [itemsOf, List.length_map, this, ims_shown]
      rfl
  · rfl
  · rfl
  apply z_loop S (fun pre ρ => ∃ (acc : List (Nat × Nat)) (tail : Store), ρ = shP us.flatten (dots ++ acc) S q us tail ∧ (tail = [] ∨ ∃ p c, tail = twoS "place" "sign" p c) ∧ acc.length ≤ pre.length ∧ ∀ post, S = pre ++ post → goP us.flatten.length S = acc ++ goP us.flatten.length post) (fun _ _ => False) shownD
  · rfl
  · exact ⟨[], tail, by rw [List.append_nil], ht, by simp, fun post h => by rw [h]; rfl⟩
  · rintro pre ⟨p, c⟩ post hpre ρ ⟨acc, tail, rfl, ht, hal, hi⟩
    have hi := hi _ hpre
    have hprel : pre.length < S.length := by rw [hpre]; simp
    have hinj : ∀ post', S = pre ++ [(p, c)] ++ post' → post = post' := fun post' e => by
      rw [hpre, List.append_assoc] at e
      exact (List.cons.inj (List.append_cancel_left e)).2
    refine ⟨shP us.flatten (dots ++ acc) S q us (twoS "place" "sign" (.int p) (.str [c])), ?_, ?_⟩
    · rcases ht with rfl | ⟨p', c', rfl⟩ <;> exact .two (by rfl) (by rfl) rfl rfl
    have hcap : ((dots ++ acc).map pairD).length < lim := by rw [List.length_map, List.length_append]; show _ < 2 ^ 20; exact ar506 hl hn hDl hSl hal hprel
    apply z_x
    apply z_if (c := ([c] : List Nat) == [40])
    · walk_at "ye"
    · intro h
      have h : c = 40 := by have := eq_of_beq h; exact (List.cons.inj this).1
      subst h
      apply z_1
      · apply y_app (by rfl) (by rfl) (by rfl) (by rfl)
        · apply y_tup
          · apply y_t1
            · walk_at "ye"
            · apply y_t1
              · apply y_fn (by rfl)
                · walk_at "ye"
                · exact hend pre p post hpre
              · walk_at "ye"
              · decide
            · decide
          · exact Nat.le_of_ble_eq_true rfl
        · rfl
        · exact hcap
      apply z_0
      apply z_0
      refine ⟨acc ++ [(p, matchEnd us.flatten.length 1 post)], twoS "place" "sign" (.int p) (.str [40]), ?_, .inr ⟨_, _, rfl⟩, by simp; exact ar179 hal, fun post' e => ?_⟩
      · rw [← List.append_assoc]
        simp only [shP, List.map_append]
        rfl
      · rw [hi, ← hinj _ e, goP, if_pos rfl, ← List.append_assoc]
    · intro h
      have h : c ≠ 40 := fun e => by subst e; cases h
      apply z_x
      apply z_if (c := decide ((256 : Int) ≤ c))
      · apply y_b_call
        apply y_fn (by rfl)
        · apply y_s1
          · apply y_call1 (by rfl)
            · walk_at "ye"
            · exact .ord _
          · walk_at "ye"
        · exact f_non hR _
      · intro hc
        have hc : 256 ≤ c := by have := of_decide_eq_true hc; exact ar507 this
        apply z_1
        · apply y_app (by rfl) (by rfl) (by rfl) (by rfl)
          · walk_at "ye"
          · rfl
          · exact hcap
        apply z_0
        apply z_0
        apply z_0
        refine ⟨acc ++ [(p, p + 1)], twoS "place" "sign" (.int p) (.str [c]), ?_, .inr ⟨_, _, rfl⟩, by simp; exact ar179 hal, fun post' e => ?_⟩
        · rw [← List.append_assoc]
          simp only [shP, List.map_append]
          rfl
        · rw [hi, ← hinj _ e, goP, if_neg h, if_pos hc, ← List.append_assoc]
      · intro hc
        have hc : ¬ 256 ≤ c := by have := of_decide_eq_false hc; exact ar508 this
        apply z_0
        apply z_0
        apply z_0
        refine ⟨acc, twoS "place" "sign" (.int p) (.str [c]), rfl, .inr ⟨_, _, rfl⟩, by simp; exact ar58 hal, fun post' e => ?_⟩
        rw [hi, ← hinj _ e, goP, if_neg h, if_neg hc, List.nil_append]
  · intro f ρ'' hh
    obtain ⟨rfl, acc, tail, rfl, ht, hal, hi⟩ := hh.resolve_right (fun h => h)
    have hi := hi [] (by rw [List.append_nil])
    show Xs _ _ _ _ _ _ _
    apply z_x
    apply z_ret
    · walk_at "ye"
    · rfl
    · show _ = _
      rw [hi, goP, List.append_nil]
end Mine
end
section
open PySem PySem.W
set_option maxRecDepth 100000
set_option maxHeartbeats 1000000
namespace Mine
local macro_rules | `(tactic| walk_at "ye") => `(tactic| first
  | exact y_c rfl
  | exact y_n rfl rfl rfl
  | exact y_nm rfl rfl rfl
  | exact y_s0
  | exact y_o0
  | exact y_dict0
  | exact y_t0
  | (focus apply y_s1; all_goals first | walk_at "ye" | skip)
  | (focus apply y_o1; all_goals first | walk_at "ye" | skip)
  | (focus apply y_bin; all_goals first | walk_at "ye" | rfl | (constructor; done) | skip)
  | (focus apply y_un; all_goals first | walk_at "ye" | rfl | (constructor; done) | skip)
  | (focus apply y_cmp (by rfl); all_goals first | walk_at "ye" | rfl | (constructor; done) | skip)
  | (focus apply y_b_cmp (by rfl); all_goals first | walk_at "ye" | rfl | (constructor; done) | skip)
  | (focus apply y_list; all_goals first | walk_at "ye" | rfl | decide | skip)
  | (focus apply y_t1; all_goals first | walk_at "ye" | decide | skip)
  | (focus apply y_tup; all_goals first | walk_at "ye" | exact Nat.le_of_ble_eq_true rfl | skip)
  | (focus apply y_slice (by rfl); all_goals first | walk_at "ye" | rfl | (constructor; done) | skip)
  | (focus apply y_meth (by rfl); all_goals first | walk_at "ye" | rfl | (constructor; done) | skip)
  | (focus apply y_call1 (by rfl); all_goals first | walk_at "ye" | rfl | (constructor; done) | skip))
noncomputable def idx : Nat → List Nat → List (Nat × Nat)
  | _, [] => []
  | k, c :: r => (k, c) :: idx (k + 1) r
theorem numbered_idx : ∀ k s, numbered k (s.map fun c => D.str [c]) = (idx k s).map shownD
  | _, [] => rfl
  | k, c :: r => by rw [List.map_cons, numbered, numbered_idx]; rfl
theorem idx_length : ∀ k s, (idx k s).length = s.length
  | _, [] => rfl
  | k, c :: r => by simp [idx, idx_length]
theorem idx_split : ∀ (k : Nat) (s : List Nat) pre a post, idx k s = pre ++ a :: post → a.1 = k + pre.length ∧ s.drop pre.length = a.2 :: post.map (·.2)
  | k, [], pre, a, post, h => by cases pre <;> cases h
  | k, c :: r, [], a, post, h => by
    cases h
    refine ⟨rfl, ?_⟩
    have : ∀ k l, (idx k l).map (·.2) = l := by
      intro k l
      induction l generalizing k with
      | nil => rfl
      | cons c r ih => rw [idx, List.map_cons, ih]
    rw [this]; rfl
  | k, c :: r, b :: pre, a, post, h => by
    rw [idx, List.cons_append] at h
    obtain ⟨h1, h2⟩ := List.cons.inj h
    have := idx_split _ _ _ _ _ h2
    refine ⟨by rw [this.1, List.length_cons]; exact ar8, by rw [List.length_cons, List.drop_succ_cons]; exact this.2⟩
/-- a piece with all it bears -/
noncomputable def sizeF (c0 : Nat) : Int → Int → List Nat → Int
  | s, _, [] => s
  | s, h, c :: r => if ((h + b2i ([c] == [40]) - b2i ([c] == [41]) == 0) && ([c0] != [46])) = true then s + b2i ([c] != [41]) else sizeF c0 (s + b2i ([c] != [41])) (h + b2i ([c] == [40]) - b2i ([c] == [41])) r
noncomputable def hooksF : List Nat → List Int
  | [] => []
  | c :: r => (if ([c] != [41]) = true then [sizeF c 0 0 (c :: r)] else []) ++ hooksF r
noncomputable def shH (bush : List Nat) (hooks : List Int) (place : Nat) (sign : Nat) (size height : Int) (tail : Store) : Store :=
  (("bush" : Str), D.str bush) :: (("hooks" : Str), .list (hooks.map D.int)) :: (("place" : Str), .int place) :: (("sign" : Str), .str [sign]) :: (("size" : Str), .int size) :: (("height" : Str), .int height) :: tail
noncomputable def sh2 (bush : List Nat) (hooks : List Int) : Store := [(("bush" : Str), D.str bush), (("hooks" : Str), .list (hooks.map D.int))]
theorem ims_int (l : List Int) : D.ims (l.map D.int) = true := D.ims_all fun d h => by
  obtain ⟨p, _, rfl⟩ := List.mem_map.mp h
  rfl
noncomputable def oneS (x : Str) (d : D) : Store := [(x, d)]
theorem z_ex {C : Cx} {sc : Scope} {ρ ρ' : Store} {fz md : List Str} {Q : Fl → Store → Prop} {st : Stmt} (h : ExC C sc fz md st ρ ρ') (hq : Q .next ρ') : X1 C sc fz md st ρ Q := ⟨ExN.ex h hq⟩
theorem f_hooks {C : Cx} {k : Nat} (hR : Rm C (k + 1)) {bush : List Nat} (hl : bush.length ≤ 100) : FnC C "_law_hooks" [.str bush] (.list ((hooksF bush).map D.int)) := by
  have hl20 : bush.length ≤ lim := by show _ ≤ 2 ^ 20; exact ar509 hl
  apply fn_of hR ["bush"] ["hooks", "place", "sign", "size", "height", "other"] (by decide +kernel) (by rfl) (binds1 fun _ _ _ _ _ => rfl) (by rfl) (by rfl)
  clear hR C
  intro C hR
  show Xs C _ [] _ _ [(("bush" : Str), D.str bush)] _
  apply z_1
  · apply y_as rfl
    · walk_at "ye"
    · rfl
    · rfl
  apply z_x
  apply z_for ["place", "sign", "size", "height", "other", "hooks"]
  · apply y_i_enumS (by rfl)
    walk_at "ye"
  · rfl
  · rfl
  apply z_loop (idx 0 bush) (fun pre ρ => ∃ (acc : List Int), (ρ = sh2 bush acc ∨ ∃ place sign size height other, ρ = shH bush acc place sign size height (oneS "other" other)) ∧ acc.length ≤ pre.length ∧ hooksF bush = acc ++ hooksF (bush.drop pre.length)) (fun _ _ => False) shownD
  · exact numbered_idx 0 bush
  · exact ⟨[], .inl rfl, by simp, rfl⟩
  · rintro pre ⟨p, c⟩ post hpre ρ ⟨acc, hρ, hal, hi⟩
    obtain ⟨h1, h2⟩ := idx_split _ _ _ _ _ hpre
    dsimp only at h1 h2
    have h1 : p = pre.length := by exact ar510 h1
    have hpl : pre.length < bush.length := by
      have := congrArg List.length hpre
      rw [idx_length] at this; simp at this; exact ar334 this
    refine ⟨(ρ.set ("place" : Str) (.int p)).set ("sign" : Str) (.str [c]), .two (by rfl) (by rfl) rfl rfl, ?_⟩
    apply z_mid (fun ρ' => ∃ tail : Store, (tail = [] ∨ ∃ o, tail = oneS "other" o) ∧ ρ' = shH bush acc p c 0 0 tail)
    · rcases hρ with rfl | ⟨_, _, _, _, o, rfl⟩
      · apply z_ex
        · apply y_as_tup (by rfl) (by rfl)
          · walk_at "ye"
          · rfl
          · rfl
        · exact ⟨rfl, [], .inl rfl, rfl⟩
      · apply z_ex
        · apply y_as_tup (by rfl) (by rfl)
          · walk_at "ye"
          · rfl
          · rfl
        · exact ⟨rfl, _, .inr ⟨o, rfl⟩, rfl⟩
    rintro _ ⟨tail, ht, rfl⟩
    have hmem : (bush.drop p).length ≤ lim := by rw [List.length_drop]; exact ar511 hl20
    apply z_mid (fun ρ' => ∃ size height o, ρ' = shH bush acc p c size height (oneS "other" o) ∧ size = sizeF c 0 0 (bush.drop p))
    · apply z_for ["other", "size", "height"]
      · apply y_i_sub
        · apply y_slice (by rfl)
          · walk_at "ye"
          · walk_at "ye"
          · walk_at "ye"
          · exact o_sliceS1 (by omega) hl20
        · simp only [itemsOf, hmem, if_true]; rfl
      · rfl
      · rfl
      apply z_loop (bush.drop p) (fun pre ρ => ∃ (size height : Int) (tail : Store), ρ = shH bush acc p c size height tail ∧ ((tail = [] ∧ pre = []) ∨ ∃ o, tail = oneS "other" o) ∧ ∀ post, bush.drop p = pre ++ post → sizeF c 0 0 (bush.drop p) = sizeF c size height post)
        (fun f ρ => f = .next ∧ ∃ size height o, ρ = shH bush acc p c size height (oneS "other" o) ∧ size = sizeF c 0 0 (bush.drop p)) (fun x => D.str [x])
      · rfl
      · refine ⟨0, 0, tail, rfl, ?_, fun post h => by rw [h]; rfl⟩
        rcases ht with rfl | ht
        · exact .inl ⟨rfl, rfl⟩
        · exact .inr ht
      · rintro pre x post hx ρ ⟨size, height, tail, rfl, ht, hi⟩
        have hi := hi _ hx
        refine ⟨shH bush acc p c size height (oneS "other" (.str [x])), ?_, ?_⟩
        · rcases ht with ⟨rfl, _⟩ | ⟨o, rfl⟩ <;> exact .one (by rfl) rfl
        apply z_1
        · apply y_as rfl
          · walk_at "ye"
          · rfl
          · rfl
        apply z_1
        · apply y_as rfl
          · walk_at "ye"
          · rfl
          · rfl
        apply z_x
        apply z_if (c := (height + b2i ([x] == [40]) - b2i ([x] == [41]) == 0) && ([c] != [46]))
        · apply y_b_bool
          apply y_bb_and
          · walk_at "ye"
          · intro _
            apply y_bb_1
            walk_at "ye"
        · intro hc
          apply z_x
          apply z_brk
          show _ ∧ _
          refine ⟨rfl, _, _, _, rfl, ?_⟩
          rw [hi, sizeF, if_pos hc]
          rfl
        · intro hc
          apply z_0
          apply z_0
          refine ⟨_, _, _, rfl, .inr ⟨_, rfl⟩, fun post' e => ?_⟩
          have e : post = post' := by
            rw [hx, List.append_assoc] at e
            exact (List.cons.inj (List.append_cancel_left e)).2
          rw [hi, sizeF, if_neg (by rw [hc]; simp), e]
          rfl
      · intro f ρ'' hh
        rcases hh with ⟨rfl, size, height, tail, rfl, ht, hi⟩ | hh
        · have hi := hi [] (by rw [List.append_nil])
          rcases ht with ⟨_, h0⟩ | ⟨o, rfl⟩
          · rw [h1, h2] at h0; cases h0
          · exact ⟨rfl, size, height, o, rfl, by rw [hi]; rfl⟩
        · exact hh
    rintro _ ⟨size, height, o, rfl, hs⟩
    rw [h1, h2] at hs
    rw [h2, hooksF] at hi
    have hd : bush.drop (pre ++ [(p, c)]).length = post.map (·.2) := by
      rw [List.length_append, List.length_singleton, ← List.drop_drop, h2]; rfl
    apply z_x
    apply z_if (c := [c] != [41])
    · walk_at "ye"
    · intro hc
      apply z_1
      · apply y_app (by rfl) (by rfl) (by rfl) (by rfl)
        · walk_at "ye"
        · rfl
        · rw [List.length_map]; show _ < 2 ^ 20; exact ar512 hl hal hpl
      apply z_0
      apply z_0
      refine ⟨acc ++ [size], .inr ⟨p, c, size, height, o, ?_⟩, by simp; exact ar179 hal, ?_⟩
      · simp only [shH, List.map_append]
        rfl
      · rw [hd, hi, if_pos hc, hs]; simp
    · intro hc
      apply z_0
      apply z_0
      refine ⟨acc, .inr ⟨p, c, size, height, o, rfl⟩, by simp; exact ar58 hal, ?_⟩
      rw [hd, hi, if_neg (by rw [hc]; simp)]; rfl
  · intro f ρ'' hh
    obtain ⟨rfl, acc, hρ, hal, hi⟩ := hh.resolve_right (fun h => h)
    rw [idx_length, List.drop_length, hooksF, List.append_nil] at hi
    show Xs _ _ _ _ _ _ _
    rcases hρ with rfl | ⟨_, _, _, _, _, rfl⟩
    all_goals
      apply z_x
      apply z_ret
      · walk_at "ye"
      · rfl
      · show _ = _
        rw [hi]
end Mine
end
section
open PySem PySem.W
set_option maxRecDepth 100000
set_option maxHeartbeats 1000000
namespace Mine
/-- 1 + q + .. + q ^ (n - 1) -/
noncomputable def br (q : Nat) : Nat → Nat
  | 0 => 0
  | n + 1 => br q n + q ^ n
theorem br_add (q a : Nat) : ∀ b, br q (a + b) = br q a + q ^ a * br q b
  | 0 => by simp [br]
  | b + 1 => by rw [← Nat.add_assoc, br, br_add q a b, br, Nat.mul_add, Nat.pow_add, Nat.add_assoc]
theorem br_pos (q : Nat) {n : Nat} (hq : 0 < q) (hn : 0 < n) : 0 < br q n := by
  obtain ⟨m, rfl⟩ : ∃ m, n = m + 1 := ⟨n - 1, by exact ar1 hn⟩
  rw [br]
  have := Nat.pow_pos (n := m) hq
  exact ar2 this
theorem br_lt {q : Nat} (hq : 2 ≤ q) : ∀ n, br q n < q ^ n
  | 0 => by simp [br]
  | n + 1 => by
    have := br_lt hq n
    rw [br, Nat.pow_succ]
    have : q ^ n * 2 ≤ q ^ n * q := Nat.mul_le_mul_left _ hq
    omega
/-- the product of 1, 1 + q, .. -/
noncomputable def fac (q : Nat) : Nat → Nat
  | 0 => 1
  | n + 1 => fac q n * br q (n + 1)
theorem fac_pos {q : Nat} (hq : 0 < q) : ∀ n, 0 < fac q n
  | 0 => by simp [fac]
  | n + 1 => Nat.mul_pos (fac_pos hq n) (br_pos q hq (by exact ar3))

structure Bush (n : Nat) (B h : Nat → Nat) : Prop where
  pos : ∀ k, k < n → 0 < h k
  fits : ∀ k, k < n → k + h k ≤ n
  nest : ∀ a k, a < k → k < a + h a → k < n → k + h k ≤ a + h a
  anc : ∀ k, k < n → ∀ a, (B k).testBit a = decide (a < k ∧ k < a + h a)

/-- nothing that bears it is lacking -/
noncomputable def free (B : Nat → Nat) (m k : Nat) : Bool := B k &&& m == B k
theorem free_iff (B : Nat → Nat) (m k : Nat) : free B m k = true ↔ ∀ a, (B k).testBit a = true → m.testBit a = true := by
  unfold free
  rw [beq_iff_eq]
  constructor
  · intro e a h
    have := congrArg (fun x => Nat.testBit x a) e
    simp only [Nat.testBit_and, h, Bool.true_and] at this
    exact this
  · intro h
    apply Nat.eq_of_testBit_eq
    intro a
    rw [Nat.testBit_and]
    cases e : (B k).testBit a
    · rfl
    · rw [h a e]; rfl
noncomputable def lk (m : Nat) : Nat → Nat → Nat
  | _, 0 => 0
  | i, c + 1 => (if m.testBit i then 0 else 1) + lk m (i + 1) c
/-- what the pieces from the i-th on give -/
noncomputable def sf (q : Nat) (B h : Nat → Nat) (m : Nat) : Nat → Nat → Nat → Nat
  | _, _, 0 => 0
  | L, i, c + 1 => if m.testBit i then sf q B h m L (i + 1) c else (if free B m i then q ^ L * br q (h i) else 0) + sf q B h m (L + 1) (i + 1) c
noncomputable def Closed (n : Nat) (B : Nat → Nat) (m : Nat) : Prop := ∀ k, k < n → m.testBit k = true → free B m k = true

theorem sf_skip (q : Nat) (B h : Nat → Nat) (m : Nat) : ∀ (d L i c : Nat), (∀ j, i ≤ j → j < i + d → m.testBit j = false ∧ free B m j = false) → sf q B h m L i (d + c) = sf q B h m (L + d) (i + d) c ∧ lk m i (d + c) = d + lk m (i + d) c
  | 0, L, i, c, _ => by simp
  | d + 1, L, i, c, hj => by
    have h0 := hj i (Nat.le_refl _) (by exact ar4)
    have ih := sf_skip q B h m d (L + 1) (i + 1) c (fun j h1 h2 => hj j (by exact ar5 h1) (by exact ar6 h2))
    rw [show d + 1 + c = (d + c) + 1 by exact ar7, sf, lk, h0.1, h0.2]
    simp only [Bool.false_eq_true, if_false, Nat.zero_add]
    rw [ih.1, ih.2, show L + 1 + d = L + (d + 1) by exact ar8, show i + 1 + d = i + (d + 1) by exact ar8]
    exact ⟨rfl, by exact ar9⟩
theorem sf_eq {n q : Nat} {B h : Nat → Nat} (hb : Bush n B h) {m : Nat} (hm : Closed n B m) : ∀ (c L i : Nat), i + c = n → (∀ a, a < i → m.testBit a = false → a + h a ≤ i) → sf q B h m L i c = q ^ L * br q (lk m i c) := by
  intro c
  induction c using Nat.strongRecOn with
  | ind c ih =>
    intro L i hc hok
    cases c with
    | zero => simp [sf, lk, br]
    | succ c =>
      have hi : i < n := by exact ar10 hc
      cases e : m.testBit i
      · -- lacking: a root
        have hfree : free B m i = true := by
          rw [free_iff]
          intro a ha
          rw [hb.anc i hi, decide_eq_true_eq] at ha
          cases ea : m.testBit a
          · have := hok a ha.1 ea; exact (ar11 ha this).elim
          · rfl
        have hp := hb.pos i hi
        have hf := hb.fits i hi
        have hsub : ∀ j, i + 1 ≤ j → j < i + 1 + (h i - 1) → m.testBit j = false ∧ free B m j = false := by
          intro j h1 h2
          have hbi : (B j).testBit i = true := by rw [hb.anc j (by exact ar12 hp hf h2), decide_eq_true_eq]; exact ar13 h1 h2
          have hnf : free B m j = false := by
            cases ef : free B m j
            · rfl
            · have := (free_iff B m j).mp ef i hbi
              rw [e] at this; cases this
          refine ⟨?_, hnf⟩
          cases ej : m.testBit j
          · rfl
          · have := hm j (by exact ar12 hp hf h2) ej
            rw [hnf] at this; cases this
        obtain ⟨c', hc'⟩ : ∃ c', c = (h i - 1) + c' := ⟨c - (h i - 1), by exact ar14 hc hf⟩
        have hs := sf_skip q B h m (h i - 1) (L + 1) (i + 1) c' hsub
        rw [sf, lk, e, hfree, hc', hs.1, hs.2]
        simp only [Bool.false_eq_true, if_false, if_true]
        rw [show L + 1 + (h i - 1) = L + h i by exact ar15 hp, show i + 1 + (h i - 1) = i + h i by exact ar15 hp]
        rw [ih c' (by exact ar16 hc') (L + h i) (i + h i) (by exact ar17 hc hp hc') ?_]
        · rw [show 1 + (h i - 1 + lk m (i + h i) c') = h i + lk m (i + h i) c' by exact ar18 hp, br_add, Nat.pow_add, Nat.mul_add, Nat.mul_assoc]
        · intro a ha ea
          by_cases h1 : a < i
          · have := hok a h1 ea; exact ar19 this
          · by_cases h2 : a = i
            · subst h2; exact Nat.le_refl _
            · exact hb.nest i a (by exact ar20 h1 h2) ha (by exact ar21 hf ha)
      · rw [sf, lk, e]
        simp only [if_true, Nat.zero_add]
        apply ih c (by exact ar22) L (i + 1) (by exact ar23 hc)
        intro a ha ea
        have : a ≠ i := fun h => by rw [h, e] at ea; cases ea
        have := hok a (by exact ar24 ha this) ea
        exact ar25 this
theorem sf_all {n q : Nat} {B h : Nat → Nat} (hb : Bush n B h) {m : Nat} (hm : Closed n B m) : sf q B h m 0 0 n = br q (lk m 0 n) := by
  rw [sf_eq hb hm n 0 0 (by exact ar26) (fun a ha => by exact ar27 ha), Nat.pow_zero, Nat.one_mul]

-- setting a bit
theorem bit_set {m k : Nat} (h : m.testBit k = false) (j : Nat) : (m + 2 ^ k).testBit j = (m.testBit j || decide (j = k)) := by
  have hm : m = 2 ^ (k + 1) * (m / 2 ^ (k + 1)) + m % 2 ^ (k + 1) := (Nat.div_add_mod _ _).symm
  have hlt : m % 2 ^ (k + 1) < 2 ^ k := by
    rw [Nat.testBit_eq_decide_div_mod_eq, decide_eq_false_iff_not] at h
    rw [Nat.mod_pow_succ]
    have : m / 2 ^ k % 2 = 0 := by exact ar28 h
    rw [this]
    have := Nat.mod_lt m (Nat.two_pow_pos k)
    exact ar29
  generalize ha : m / 2 ^ (k + 1) = a at hm
  generalize hb : m % 2 ^ (k + 1) = b at hm hlt
  have h2 : b + 2 ^ k < 2 ^ (k + 1) := by rw [Nat.pow_succ]; exact ar30 hlt
  have e : m + 2 ^ k = 2 ^ (k + 1) * a + (b + 2 ^ k) := by exact ar31 hm
  rw [e, hm, Nat.testBit_two_pow_mul_add _ h2, Nat.testBit_two_pow_mul_add _ (by exact ar32 hb)]
  by_cases hj : j < k + 1
  · rw [if_pos hj, if_pos hj, Nat.add_comm b]
    by_cases hk : j = k
    · subst hk
      rw [Nat.testBit_two_pow_add_eq, Nat.testBit_lt_two_pow hlt]; simp
    · rw [Nat.testBit_two_pow_add_gt (by exact ar33 hj hk)]; simp [hk]
  · rw [if_neg hj, if_neg hj]
    have : j ≠ k := by exact ar34 hj
    simp [this]
noncomputable def Hm (q : Nat) (h : Nat → Nat) (m : Nat) : Nat → Nat
  | 0 => 1
  | n + 1 => Hm q h m n * (if m.testBit n then br q (h n) else 1)
theorem Hm_set (q : Nat) (h : Nat → Nat) {m k : Nat} (hk : m.testBit k = false) : ∀ n, Hm q h (m + 2 ^ k) n = Hm q h m n * (if k < n then br q (h k) else 1)
  | 0 => by simp [Hm]
  | n + 1 => by
    rw [Hm, Hm, Hm_set q h hk n, bit_set hk]
    by_cases e : n = k
    · subst e
      simp [hk]
    · have : (k < n + 1) = (k < n) := by simp; exact ar35 e
      simp only [e, decide_false, Bool.or_false, this]
      rw [Nat.mul_assoc, Nat.mul_assoc, Nat.mul_comm (ite (k < n) _ _)]
theorem Hm_pos {q : Nat} {h : Nat → Nat} (m : Nat) (hq : 0 < q) : ∀ n, (∀ k, k < n → 0 < h k) → 0 < Hm q h m n
  | 0, _ => by simp [Hm]
  | n + 1, hp => by
    rw [Hm]
    refine Nat.mul_pos (Hm_pos m hq n fun k hk => hp k (by exact ar36 hk)) ?_
    split
    · exact br_pos q hq (hp n (by exact ar22))
    · exact ar37
theorem lk_set {m k : Nat} (hk : m.testBit k = false) : ∀ (c i : Nat), lk (m + 2 ^ k) i c + (if i ≤ k ∧ k < i + c then 1 else 0) = lk m i c
  | 0, i => by simp [lk]
  | c + 1, i => by
    have ih := lk_set hk c (i + 1)
    rw [lk, lk, bit_set hk]
    by_cases e : i = k
    · subst e
      have h1 : ¬ (i + 1 ≤ i ∧ i < i + 1 + c) := by exact ar38
      rw [if_neg h1] at ih
      have h2 : i ≤ i ∧ i < i + (c + 1) := by exact ar39
      rw [if_pos h2]
      simp [hk]; exact ar40 ih
    · have h1 : (i ≤ k ∧ k < i + (c + 1)) ↔ (i + 1 ≤ k ∧ k < i + 1 + c) := by exact ar41 e
      simp only [h1, e, decide_false, Bool.or_false]
      omega
theorem lk_le (m : Nat) : ∀ c i, lk m i c ≤ c
  | 0, _ => by simp [lk]
  | c + 1, i => by
    have := lk_le m c (i + 1)
    rw [lk]
    split <;> (first | exact ar42 this | exact ar43 this)
theorem lk_zero {m : Nat} : ∀ c i, lk m i c = 0 → ∀ j, i ≤ j → j < i + c → m.testBit j = true
  | 0, i, _, j, h1, h2 => by exact (ar44 h1 h2).elim
  | c + 1, i, h, j, h1, h2 => by
    rw [lk] at h
    by_cases e : j = i
    · subst e
      cases e : m.testBit j
      · rw [e] at h; simp at h
      · rfl
    · exact lk_zero c (i + 1) (by omega) j (by exact ar45 h1 e) (by exact ar46 h2)
theorem lk_all {m : Nat} : ∀ c i, (∀ j, i ≤ j → j < i + c → m.testBit j = false) → lk m i c = c
  | 0, _, _ => rfl
  | c + 1, i, h => by
    rw [lk, h i (Nat.le_refl _) (by exact ar4), lk_all c (i + 1) fun j h1 h2 => h j (by exact ar5 h1) (by exact ar6 h2)]
    simp; exact ar47
end Mine
end
section
open PySem PySem.W
set_option maxRecDepth 100000
set_option maxHeartbeats 1000000
namespace Mine
noncomputable abbrev Ways := List (Nat × Nat)
noncomputable def castW (l : Ways) : List (Int × Int) := l.map fun p => ((p.1 : Int), (p.2 : Int))
noncomputable def putN : Ways → Nat → Nat → Ways
  | [], k, v => [(k, v)]
  | (a, b) :: r, k, v => if k == a then (a, v) :: r else (a, b) :: putN r k v
theorem putD_cast : ∀ (l : Ways) (k v : Nat), putD (castW l) k v = castW (putN l k v)
  | [], k, v => rfl
  | (a, b) :: r, k, v => by
    have ih := putD_cast r k v
    simp only [castW, List.map_cons, putD, putN] at ih ⊢
    by_cases h : k = a
    · subst h; simp
    · have : ¬ ((k : Int) = a) := by exact ar48 h
      simp only [beq_iff_eq, this, if_false, h, List.map_cons, ih]
theorem lookup_cast : ∀ (l : Ways) (k : Nat), (castW l).lookup (k : Int) = (l.lookup k).map (fun v : Nat => (v : Int))
  | [], k => rfl
  | (a, b) :: r, k => by
    have ih := lookup_cast r k
    simp only [castW, List.map_cons, List.lookup] at ih ⊢
    by_cases h : k = a
    · subst h; simp
    · have : ((k : Int) == (a : Int)) = false := by rw [beq_eq_false_iff_ne]; exact ar49 h
      have h2 : (k == a) = false := by rw [beq_eq_false_iff_ne]; exact h
      rw [this, h2]
      exact ih
theorem castW_length (l : Ways) : (castW l).length = l.length := by simp [castW]
noncomputable def phi (H : Nat → Nat) : Ways → Nat
  | [] => 0
  | (m, w) :: r => w * H m + phi H r
theorem phi_put (H : Nat → Nat) : ∀ (l : Ways) (k x : Nat), phi H (putN l k ((l.lookup k).getD 0 + x)) = phi H l + x * H k
  | [], k, x => by simp [putN, phi]
  | (a, b) :: r, k, x => by
    by_cases h : k = a
    · subst h
      simp only [List.lookup, beq_self_eq_true, Option.getD_some, putN, if_true, phi]
      rw [Nat.add_mul]; exact ar50
    · have h2 : (k == a) = false := by rw [beq_eq_false_iff_ne]; exact h
      have ih := phi_put H r k x
      simp only [List.lookup, h2, putN, Bool.false_eq_true, if_false, phi]
      rw [ih]; exact ar51
theorem phi_mem (H : Nat → Nat) : ∀ (l : Ways) (p), p ∈ l → p.2 * H p.1 ≤ phi H l
  | [], p, h => by cases h
  | (m, w) :: r, p, h => by
    rw [phi]
    rcases List.mem_cons.mp h with rfl | h
    · exact Nat.le_add_right _ _
    · have := phi_mem H r p h; exact ar52 this
theorem phi_app (H : Nat → Nat) : ∀ (a b : Ways), phi H (a ++ b) = phi H a + phi H b
  | [], b => by simp [phi]
  | (m, w) :: r, b => by rw [List.cons_append, phi, phi, phi_app H r b]; exact ar53
theorem phi_le {H : Nat → Nat} (hH : ∀ m, 0 < H m) : ∀ (l : Ways) (k v : Nat), l.lookup k = some v → v ≤ phi H l
  | [], k, v, h => by cases h
  | (m, w) :: r, k, v, h => by
    simp only [List.lookup] at h
    rw [phi]
    split at h
    · cases h
      have := Nat.le_mul_of_pos_right w (hH m)
      exact ar54 this
    · have := phi_le hH r k v h; exact ar55 this
noncomputable def keysW (l : Ways) : List Nat := l.map (·.1)
theorem keys_put : ∀ (l : Ways) (k v : Nat) (x), x ∈ keysW (putN l k v) → x = k ∨ x ∈ keysW l
  | [], k, v, x, h => by simp [putN, keysW] at h; exact .inl h
  | (a, b) :: r, k, v, x, h => by
    simp only [putN] at h
    split at h
    · exact .inr h
    · simp only [keysW, List.map_cons, List.mem_cons] at h ⊢
      rcases h with h | h
      · exact .inr (.inl h)
      · rcases keys_put r k v x h with h | h
        · exact .inl h
        · exact .inr (.inr h)
theorem nodup_put : ∀ (l : Ways) (k v : Nat), (keysW l).Nodup → (keysW (putN l k v)).Nodup
  | [], k, v, _ => by simp [putN, keysW]
  | (a, b) :: r, k, v, h => by
    simp only [putN]
    split
    · exact h
    · rename_i hk
      simp only [keysW, List.map_cons, List.nodup_cons] at h ⊢
      refine ⟨fun hm => ?_, nodup_put r k v h.2⟩
      rcases keys_put r k v a hm with e | e
      · subst e; simp at hk
      · exact h.1 e
theorem lookup_mem : ∀ (l : Ways) (m w : Nat), (keysW l).Nodup → (m, w) ∈ l → l.lookup m = some w
  | [], m, w, _, h => by cases h
  | (a, b) :: r, m, w, hn, h => by
    simp only [keysW, List.map_cons, List.nodup_cons] at hn
    rcases List.mem_cons.mp h with e | h'
    · cases e; simp [List.lookup]
    · have : (m == a) = false := by
        rw [beq_eq_false_iff_ne]
        rintro rfl
        exact hn.1 (List.mem_map.mpr ⟨(m, w), h', rfl⟩)
      rw [List.lookup, this]
      exact lookup_mem r m w hn.2 h'
theorem nodup_bound : ∀ (N : Nat) (l : List Nat), l.Nodup → (∀ x ∈ l, x < N) → l.length ≤ N
  | 0, l, _, h => by
    cases l with
    | nil => simp
    | cons a r => have := h a (by simp); exact ar56 this
  | N + 1, l, hn, h => by
    by_cases hm : N ∈ l
    · have h1 := nodup_bound N (l.erase N) (hn.erase N) (fun x hx => by
        have h1 := h x (List.mem_of_mem_erase hx)
        have h2 : x ≠ N := by
          rintro rfl
          exact (List.Nodup.not_mem_erase hn) hx
        exact ar24 h1 h2)
      rw [List.length_erase_of_mem hm] at h1; exact ar57 h1
    · have := nodup_bound N l hn (fun x hx => by
        have h1 := h x hx
        have : x ≠ N := by rintro rfl; exact hm hx
        exact ar24 h1 this)
      exact ar58 this
end Mine
end
section
open PySem PySem.W
set_option maxRecDepth 100000
set_option maxHeartbeats 1000000
namespace Mine
variable {C : Cx} {sc csc : Scope} {ρ ρ' L : Store} {fz md J J' : List Str} {Q : Fl → Store → Prop}
theorem get_set (x : Str) (d : D) (y : Str) : ∀ ρ : Store, (ρ.set x d).get y = if y == x then some d else ρ.get y
  | [] => by
    simp only [Store.set, Store.get, List.lookup]
    cases h : y == x <;> rfl
  | (z, e) :: r => by
    simp only [Store.set]
    cases hz : x == z
    · simp only [Bool.false_eq_true, if_false]
      have ih := get_set x d y r
      simp only [Store.get, List.lookup] at ih ⊢
      cases hy : y == z
      · simp only [ih]
      · have h1 : y = z := eq_of_beq hy
        cases hyx : y == x
        · rfl
        · have h2 : y = x := eq_of_beq hyx
          subst h1; subst h2
          rw [beq_self_eq_true] at hz; cases hz
    · have h1 : x = z := eq_of_beq hz
      subst h1
      simp only [if_true, Store.get, List.lookup]
      cases hy : y == x <;> rfl
theorem get_del (x : Str) (y : Str) : ∀ ρ : Store, (ρ.del x).get y = if y == x then none else ρ.get y
  | [] => by
    simp only [Store.del, Store.get, List.lookup]
    cases h : y == x <;> rfl
  | (z, e) :: r => by
    simp only [Store.del]
    have ih := get_del x y r
    cases hz : x == z
    · simp only [Bool.false_eq_true, if_false]
      simp only [Store.get, List.lookup] at ih ⊢
      cases hy : y == z
      · simp only [ih]
      · have h1 : y = z := eq_of_beq hy
        cases hyx : y == x
        · rfl
        · have h2 : y = x := eq_of_beq hyx
          subst h1; subst h2
          rw [beq_self_eq_true] at hz; cases hz
    · have h1 : x = z := eq_of_beq hz
      subst h1
      simp only [if_true, ih]
      cases hy : y == x
      · simp only [Store.get, List.lookup, hy, Bool.false_eq_true, if_false]
      · rfl
/-- a store tells what a list tells, but for some names -/
noncomputable def Sim (ρ L : Store) (J : List Str) : Prop := ∀ x, J.contains x = false → ρ.get x = L.get x
theorem Sim.refl (ρ : Store) : Sim ρ ρ [] := fun _ _ => rfl
theorem Sim.get {x d} (h : Sim ρ L J) (hj : J.contains x = false) (hg : L.get x = some d) : ρ.get x = some d := (h x hj).trans hg
theorem Sim.no {x} (h : Sim ρ L J) (hj : J.contains x = false) (hg : L.get x = none) : ρ.get x = none := (h x hj).trans hg
theorem Sim.tell {x d} (h : Sim ρ L J) (hj : (J.all fun y => y == x || J'.contains y) = true) : Sim (ρ.set x d) (L.set x d) J' := by
  intro y hy
  rw [get_set, get_set]
  cases e : y == x
  · apply h
    cases ej : J.contains y
    · rfl
    · have := List.all_eq_true.mp hj y (by simpa using ej)
      rw [e, hy] at this; cases this
  · rfl
theorem Sim.junk {x d} (h : Sim ρ L J) (hj : J.contains x = true) : Sim (ρ.set x d) L J := by
  intro y hy
  rw [get_set]
  cases e : y == x
  · exact h y hy
  · rw [eq_of_beq e, hj] at hy; cases hy
theorem Sim.del (x) (h : Sim ρ L J) : Sim (ρ.del x) (L.del x) J := by
  intro y hy
  rw [get_del, get_del, h y hy]
theorem Sim.drop (x) (h : Sim ρ L J) (hj : (J'.contains x && J.all J'.contains) = true) : Sim ρ (L.del x) J' := by
  intro y hy
  rw [Bool.and_eq_true] at hj
  rw [get_del]
  cases e : y == x
  · apply h
    cases ej : J.contains y
    · rfl
    · have := List.all_eq_true.mp hj.2 y (by simpa using ej)
      rw [hy] at this; cases this
  · rw [eq_of_beq e, hj.1] at hy; cases hy
theorem lookup_filter (p : Str → Bool) (y : Str) : ∀ ρ : Store, Store.get (ρ.filter fun e => p e.1) y = if p y then ρ.get y else none
  | [] => by cases h : p y <;> rfl
  | (z, e) :: r => by
    have ih := lookup_filter p y r
    rw [List.filter_cons]
    simp only [Store.get, List.lookup] at ih ⊢
    cases hy : y == z
    · split
      · simp only [List.lookup, hy, ih]
      · simp only [ih]
    · have h1 : y = z := eq_of_beq hy
      subst h1
      cases hp : p y
      · simp only [Bool.false_eq_true, if_false]
        rw [hp] at ih
        exact ih
      · simp only [if_true, List.lookup, beq_self_eq_true]
theorem Sim.seen (h : Sim ρ L J) : Sim (seenIn sc csc ρ) (seenIn sc csc L) J := by
  intro y hy
  have := fun r : Store => lookup_filter (fun x => csc.names.lookup x == some .free && sc.names.lookup x == some .cell) y r
  show Store.get (List.filter _ ρ) y = Store.get (List.filter _ L) y
  rw [this ρ, this L, h y hy]
theorem b_one {x p} {d d' : D} (hx : bindOk sc x = true) (hd : d' = d) (hc : d.im = true) : BindR sc (.Name x p) d' ρ (ρ.set x d) := hd ▸ .one hx (hd ▸ hc)
theorem b_zero {x p} {i : Nat} (hx : bindOk sc x = true) : BindR sc (.Name x p) (.int (0 + (i : Int))) ρ (ρ.set x (.int i)) := b_one hx (by rw [Int.zero_add]) rfl
-- statements
theorem s_as {x q v p d b r} (hs : Sim ρ L J) (J' : List Str) (hj : (J.all fun y => y == x || J'.contains y) = true) (hx : (bindOk sc x && md.contains x) = true) (h : EvC C sc v ρ d b) (hd : d.ok = true) (hb : b = []) (hq : ∀ ρ', Sim ρ' (L.set x d) J' → Xs C sc fz md r ρ' Q) : Xs C sc fz md (.Assign [.Name x q] v p :: r) ρ Q :=
  z_1 (y_as hx h hd hb) (hq _ (hs.tell hj))
theorem s_asfn {x q f p' a as p p2 ds r} {Y : D → Prop} (hs : Sim ρ L J) (J' : List Str) (hj : (J.all fun y => y == x || J'.contains y) = true) (hx : (bindOk sc x && md.contains x) = true) (hg : globOk sc f = true) (h : EvsC C sc (a :: as) ρ ds) (hF : FnY C f ds Y) (hq : ∀ d, Y d → d.ok = true ∧ ∀ ρ', Sim ρ' (L.set x d) J' → Xs C sc fz md r ρ' Q) :
    Xs C sc fz md (.Assign [.Name x q] (.Call (.Name f p') (a :: as) [] p2) p :: r) ρ Q := y_asfn hx hg h hF fun d hy => ⟨(hq d hy).1, (hq d hy).2 _ (hs.tell hj)⟩
theorem s_move {x y q v p d r} (hs : Sim ρ L J) (J' : List Str) (hj : (J.all fun y => y == x || J'.contains y) = true) (hx : (bindOk sc x && md.contains x) = true) (h : EvC C sc v ρ d [y]) (hd : d.ok = true) (hf : (!fz.contains y && md.contains y) = true) (hq : ∀ ρ', Sim ρ' ((L.del y).set x d) J' → Xs C sc fz md r ρ' Q) : Xs C sc fz md (.Assign [.Name x q] v p :: r) ρ Q :=
  z_1 (y_as_move hx h hd hf) (hq _ ((hs.del y).tell hj))
theorem setAll_sim : ∀ (xs : List Str) (ds : List D) (ρ L ρ' L' : Store), Sim ρ L J → setAll xs ds ρ = some ρ' → setAll xs ds L = some L' → Sim ρ' L' J
  | [], [], _, _, _, _, h, h1, h2 => by cases h1; cases h2; exact h
  | x :: xs, d :: ds, ρ, L, ρ', L', h, h1, h2 => by
    simp only [setAll] at h1 h2
    split at h1
    · rename_i hd
      rw [if_pos hd] at h2
      exact setAll_sim xs ds _ _ _ _ (h.tell (List.all_eq_true.mpr fun y hy => by simp [hy])) h1 h2
    · cases h1
  | [], _ :: _, _, _, _, _, _, h1, _ => by cases h1
  | _ :: _, [], _, _, _, _, _, h1, _ => by cases h1
theorem setAll_some : ∀ (xs : List Str) (ds : List D) (ρ L L' : Store), setAll xs ds L = some L' → ∃ ρ', setAll xs ds ρ = some ρ'
  | [], [], ρ, _, _, _ => ⟨ρ, rfl⟩
  | x :: xs, d :: ds, ρ, L, L', h => by
    simp only [setAll] at h ⊢
    split at h
    · rename_i hd
      rw [if_pos hd]
      exact setAll_some xs ds _ _ _ h
    · cases h
  | [], _ :: _, _, _, _, h => by cases h
  | _ :: _, [], _, _, _, h => by cases h
theorem s_as_tup {ts k q v p xs ds b r L'} (hs : Sim ρ L J) (hx : namesOf ts = some xs) (hb : (xs.all (bindOk sc) && noDup xs && swapFine v && xs.all md.contains) = true) (h : EvC C sc v ρ (.tuple ds) b) (hbn : b = []) (hL : setAll xs ds L = some L') (hq : ∀ ρ', Sim ρ' L' J → Xs C sc fz md r ρ' Q) : Xs C sc fz md (.Assign [.Tuple ts k q] v p :: r) ρ Q := by
  obtain ⟨ρ', hS⟩ := setAll_some xs ds ρ L L' hL
  exact z_1 (y_as_tup hx hb h hbn hS) (hq _ (setAll_sim _ _ _ _ _ _ hs hS hL))
theorem s_tupfn {ts k q f p' a as p p2 xs ds r} {Y : D → Prop} (hs : Sim ρ L J) (hx : namesOf ts = some xs) (hb : (xs.all (bindOk sc) && noDup xs && xs.all md.contains) = true) (hg : globOk sc f = true) (h : EvsC C sc (a :: as) ρ ds) (hF : FnY C f ds Y)
    (hq : ∀ d, Y d → ∃ ds L', d = .tuple ds ∧ setAll xs ds L = some L' ∧ ∀ ρ', Sim ρ' L' J → Xs C sc fz md r ρ' Q) : Xs C sc fz md (.Assign [.Tuple ts k q] (.Call (.Name f p') (a :: as) [] p2) p :: r) ρ Q :=
  y_tupfn hx hb hg h hF fun d hy => by
    obtain ⟨ds, L', e, hL, go⟩ := hq d hy
    obtain ⟨ρ', hS⟩ := setAll_some xs ds ρ L L' hL
    exact ⟨ds, ρ', e, hS, go _ (setAll_sim _ _ _ _ _ _ hs hS hL)⟩
theorem s_put {x q i q' v p l j d b c r} (hs : Sim ρ L J) (J' : List Str) (hj : (J.all fun y => y == x || J'.contains y) = true) (hf : (!fz.contains x && md.contains x) = true) (hk : kindOk sc x = true) (h : EvC C sc v ρ (.int d) b) (hx : ρ.get x = some (.dict l)) (hi : EvC C sc i ρ (.int j) c) (hl : l.length < lim)
    (hq : ∀ ρ', Sim ρ' (L.set x (.dict (putD l j d))) J' → Xs C sc fz md r ρ' Q) : Xs C sc fz md (.Assign [.Subscript (.Name x q) i q'] v p :: r) ρ Q :=
  z_1 (y_as_put hf hk h hx hi hl) (hq _ (hs.tell hj))
theorem s_setl {x q i q' v p l j d b c r} (hs : Sim ρ L J) (J' : List Str) (hj' : (J.all fun y => y == x || J'.contains y) = true) (hf : (!fz.contains x && md.contains x) = true) (hk : kindOk sc x = true) (h : EvC C sc v ρ d b) (hd : d.im = true) (hx : ρ.get x = some (.list l)) (hi : EvC C sc i ρ (.int j) c) (hsm : small j = true) (j' : Nat) (hr : j' < l.length) (hj : (0 ≤ j ∧ j = j') ∨ (j < 0 ∧ j + l.length = j'))
    (hq : ∀ ρ', Sim ρ' (L.set x (.list (l.set j' d))) J' → Xs C sc fz md r ρ' Q) : Xs C sc fz md (.Assign [.Subscript (.Name x q) i q'] v p :: r) ρ Q :=
  z_1 (y_as_sub hf hk h hd hx hi hsm j' hr hj) (hq _ (hs.tell hj'))
theorem s_as2 {x y q q' v p d b r} (hs : Sim ρ L J) (J' : List Str) (hj : (J.all fun z => z == x || (J'.contains z)) = true) (hx : (bindOk sc x && bindOk sc y && (md.contains x && md.contains y)) = true) (h : EvC C sc v ρ d b) (hd : d.im = true) (J'' : List Str) (hj2 : (J'.all fun z => z == y || (J''.contains z)) = true)
    (hq : ∀ ρ', Sim ρ' ((L.set x d).set y d) J'' → Xs C sc fz md r ρ' Q) : Xs C sc fz md (.Assign [.Name x q, .Name y q'] v p :: r) ρ Q :=
  z_1 (y_as2 hx h hd) (hq _ ((hs.tell hj).tell hj2))
theorem s_app {x np ap a pp p l d b r} (hs : Sim ρ L J) (hm : methFine (.Name x np) ap pp = true) (hf : (!fz.contains x && md.contains x) = true) (hk : kindOk sc x = true) (hg : ρ.get x = some (.list l)) (h : EvC C sc a ρ d b) (hd : d.im = true) (hl : l.length < lim)
    (hq : ∀ ρ', Sim ρ' (L.set x (.list (l ++ [d]))) J → Xs C sc fz md r ρ' Q) : Xs C sc fz md (.Expr (.Call (.Attribute (.Name x np) ("append" : Str) ap) [a] [] pp) p :: r) ρ Q :=
  z_1 (y_app hm hf hk hg h hd hl) (hq _ (hs.tell (List.all_eq_true.mpr fun y hy => by simp [hy])))
end Mine
end
section
open PySem PySem.W
set_option maxRecDepth 100000
set_option maxHeartbeats 1000000
namespace Mine
theorem o_idx {l : List D} {i : Nat} {d : D} (h : l[i]? = some d) (hd : d.im = true) (hi : i < 2 ^ 60) (hl : l.length ≤ lim) : subD (.list l) (.int i) = some d := by
  have hs : small (i : Int) = true := by simp only [small, Bool.and_eq_true, decide_eq_true_eq]; exact ar320 hi
  have h0 : (0 : Int) ≤ i := by exact ar321
  simp only [subD, pickD, hs, hl, decide_true, Bool.and_true, if_true, h0, Int.toNat_natCast, h, Option.bind_some, hd]
theorem o_get {l : Ways} {m w : Nat} (h : l.lookup m = some w) : subD (.dict (castW l)) (.int m) = some (.int w) := by
  simp [subD, lookup_cast, h]
theorem bit_test (m i : Nat) : (Builtin.bitAnd ((m : Int).fdiv (2 ^ i)) 1 == 0) = !m.testBit i := by
  have e : (m : Int).fdiv (2 ^ i) = ((m / 2 ^ i : Nat) : Int) := by
    rw [Int.fdiv_eq_ediv_of_nonneg _ (by exact Int.pow_nonneg (by decide))]
    simp
  rw [e, PyProof.Rows.bitAnd_m1, Nat.testBit_eq_decide_div_mod_eq, Bool.eq_iff_iff]
  simp only [beq_iff_eq, Bool.not_eq_true', decide_eq_false_iff_not]
  exact ar322
theorem free_test (B : Nat → Nat) (m k : Nat) : (Builtin.bitAnd (B k : Int) (-(m : Int) - 1) == 0) = free B m k := by
  have e : Builtin.bitAnd (B k : Int) (-(m : Int) - 1) = (B k : Int) - ((B k &&& m : Nat) : Int) := by
    rw [PyProof.Rows.bitAnd_pn (by exact ar321) (by exact ar323)]
    have : (Builtin.bitNot (-(m : Int) - 1)).toNat = m := by unfold Builtin.bitNot; exact ar324
    rw [this]; rfl
  rw [e]
  unfold free
  rw [Bool.eq_iff_iff]
  simp only [beq_iff_eq]
  have := Nat.and_le_left (n := B k) (m := m)
  exact ar325
theorem pow_cast (k : Nat) : ((2 : Int) ^ k) = ((2 ^ k : Nat) : Int) := by simp
theorem Sim.one {ρ L : Store} {J : List Str} {x : Str} {d : D} (h : Sim ρ L J) (J' : List Str) (hj : (J.all fun y => y == x || J'.contains y) = true) {L' : Store} (hL : L.set x d = L') : Sim (ρ.set x d) L' J' := hL ▸ h.tell hj
local macro_rules | `(tactic| walk_at "se") => `(tactic| first
  | exact y_c rfl
  | exact y_n (Sim.get (by assumption) (by rfl) (by rfl)) rfl rfl
  | exact y_nm (Sim.get (by assumption) (by rfl) (by rfl)) rfl rfl
  | exact y_s0
  | exact y_o0
  | exact y_dict0
  | exact y_t0
  | (focus apply y_s1; all_goals first | walk_at "se" | skip)
  | (focus apply y_o1; all_goals first | walk_at "se" | skip)
  | (focus apply y_bin; all_goals first | walk_at "se" | rfl | (constructor; done) | skip)
  | (focus apply y_un; all_goals first | walk_at "se" | rfl | (constructor; done) | skip)
  | (focus apply y_cmp (by rfl); all_goals first | walk_at "se" | rfl | (constructor; done) | skip)
  | (focus apply y_b_cmp (by rfl); all_goals first | walk_at "se" | rfl | (constructor; done) | skip)
  | (focus apply y_list; all_goals first | walk_at "se" | rfl | decide | skip)
  | (focus apply y_t1; all_goals first | walk_at "se" | decide | skip)
  | (focus apply y_tup; all_goals first | walk_at "se" | exact Nat.le_of_ble_eq_true rfl | skip)
  | (focus apply y_slice (by rfl); all_goals first | walk_at "se" | rfl | (constructor; done) | skip)
  | (focus apply y_sub (by rfl); all_goals first | walk_at "se" | rfl | (constructor; done) | skip)
  | (focus apply y_meth (by rfl); all_goals first | walk_at "se" | rfl | (constructor; done) | skip))
noncomputable def shO (below : List Nat) (q : Nat) (ways : Ways) : Store := [(("below" : Str), D.list (below.map fun b : Nat => .int b)), (("q" : Str), .int q), (("ways" : Str), .dict (castW ways))]
noncomputable def shO1 (below : List Nat) (q : Nat) (ways more : Ways) : Store := [(("below" : Str), D.list (below.map fun b : Nat => .int b)), (("q" : Str), .int q), (("ways" : Str), .dict (castW ways)), (("more" : Str), .dict (castW more))]
noncomputable def shO2 (below : List Nat) (q : Nat) (ways more : Ways) (m : Nat) : Store := [(("below" : Str), D.list (below.map fun b : Nat => .int b)), (("q" : Str), .int q), (("ways" : Str), .dict (castW ways)), (("more" : Str), .dict (castW more)), (("mask" : Str), .int m)]
noncomputable def shO3 (below : List Nat) (q : Nat) (ways more : Ways) (m l : Nat) : Store := [(("below" : Str), D.list (below.map fun b : Nat => .int b)), (("q" : Str), .int q), (("ways" : Str), .dict (castW ways)), (("more" : Str), .dict (castW more)), (("mask" : Str), .int m), (("lacking" : Str), .int l)]
noncomputable def shO4 (below : List Nat) (q : Nat) (ways more : Ways) (m l k : Nat) : Store := [(("below" : Str), D.list (below.map fun b : Nat => .int b)), (("q" : Str), .int q), (("ways" : Str), .dict (castW ways)), (("more" : Str), .dict (castW more)), (("mask" : Str), .int m), (("lacking" : Str), .int l), (("k" : Str), .int k)]
noncomputable def Valid (n : Nat) (B : Nat → Nat) (t m : Nat) : Prop := m < 2 ^ n ∧ Closed n B m ∧ lk m 0 n + t = n
noncomputable def GoodW (n : Nat) (B : Nat → Nat) (t : Nat) (l : Ways) : Prop := (keysW l).Nodup ∧ ∀ m ∈ keysW l, Valid n B t m
theorem GoodW.len {n B t l} (h : GoodW n B t l) (hn : n ≤ 9) : l.length ≤ 512 := by
  have := nodup_bound 512 (keysW l) h.1 (fun m hm => by
    have := (h.2 m hm).1
    have : 2 ^ n ≤ 2 ^ 9 := Nat.pow_le_pow_right (by decide) hn
    omega)
  simpa [keysW] using this
theorem Valid.grow {n : Nat} {B h : Nat → Nat} (hb : Bush n B h) {t m k : Nat} (hv : Valid n B t m) (hk : k < n) (h0 : m.testBit k = false) (hf : free B m k = true) : Valid n B (t + 1) (m + 2 ^ k) := by
  obtain ⟨h1, h2, h3⟩ := hv
  refine ⟨?_, ?_, ?_⟩
  · apply Nat.lt_pow_two_of_testBit
    intro i hi
    rw [bit_set h0, Nat.testBit_lt_two_pow (Nat.lt_of_lt_of_le h1 (Nat.pow_le_pow_right (by decide) hi))]
    simp; exact ar326 hk hi
  · intro j hj hjb
    rw [free_iff]
    intro a ha
    rw [bit_set h0] at hjb ⊢
    rw [Bool.or_eq_true] at hjb ⊢
    rcases hjb with hjb | hjb
    · exact .inl ((free_iff B m j).mp (h2 j hj hjb) a ha)
    · have : j = k := of_decide_eq_true hjb
      subst this
      exact .inl ((free_iff B m j).mp hf a ha)
  · have := lk_set h0 n 0
    rw [if_pos ⟨Nat.zero_le _, by exact ar327 hk⟩] at this
    exact ar328 h3 this
theorem br_le {q : Nat} (hq : 2 ≤ q) (hq' : q ≤ 1000) {n : Nat} (hn : n ≤ 9) : br q n ≤ 2 ^ 90 := by
  have h1 := br_lt hq n
  have h2 : q ^ n ≤ 1000 ^ n := Nat.pow_le_pow_left hq' n
  have h3 : 1000 ^ n ≤ 1000 ^ 9 := Nat.pow_le_pow_right (by decide) hn
  have h4 : 1000 ^ 9 ≤ 2 ^ 90 := by decide
  exact ar329 h1 h2 h3
theorem fac_le {q : Nat} (hq : 2 ≤ q) (hq' : q ≤ 1000) : ∀ n, n ≤ 9 → fac q n ≤ 2 ^ (90 * n)
  | 0, _ => by simp [fac]
  | n + 1, h => by
    have h1 := fac_le hq hq' n (by exact ar330 h)
    have h2 := br_le hq hq' h
    rw [fac, show 90 * (n + 1) = 90 * n + 90 by exact ar331, Nat.pow_add]
    exact Nat.mul_le_mul h1 h2
theorem fac_fits {q : Nat} (hq : 2 ≤ q) (hq' : q ≤ 1000) {n : Nat} (hn : n ≤ 9) {x : Nat} (hx : x ≤ fac q n) : fits (x : Int) = true := by
  have h1 := fac_le hq hq' n hn
  have h2 : 2 ^ (90 * n) ≤ 2 ^ 810 := Nat.pow_le_pow_right (by decide) (by exact ar332 hn)
  have h3 : 2 ^ 810 < 2 ^ 4000 := Nat.pow_lt_pow_right (by decide) (by decide)
  unfold fits bigN
  rw [decide_eq_true_eq, Int.natAbs_natCast]
  exact ar333 hx h1 h2
theorem Hm_zero (q : Nat) (h : Nat → Nat) : ∀ n, Hm q h 0 n = 1
  | 0 => rfl
  | n + 1 => by rw [Hm, Hm_zero q h n]; simp
theorem range_split {n : Nat} {pre : List Nat} {a : Nat} {post : List Nat} (h : List.range n = pre ++ a :: post) : a = pre.length ∧ pre.length < n := by
  have h1 : pre.length < n := by
    have := congrArg List.length h
    simp at this; exact ar334 this
  have h2 : (List.range n)[pre.length]? = some a := by rw [h]; simp
  rw [List.getElem?_range h1] at h2
  exact ⟨(Option.some.inj h2).symm, h1⟩
theorem f_orders {C : Cx} {k : Nat} (hR : Rm C (k + 2)) {below : List Nat} {q : Nat} {h : Nat → Nat} (hq : 2 ≤ q) (hq' : q ≤ 1000) (hn : below.length ≤ 9) (hb : Bush below.length (fun k => below.getD k 0) h) :
    FnY C "_law_orders" [.list (below.map fun b : Nat => .int b), .int q] fun d => ∃ T : Nat, d = .int T ∧ T * Hm q h (2 ^ below.length - 1) below.length = fac q below.length := by
  generalize hnn : below.length = n at *
  generalize hBB : (fun k => below.getD k 0) = B at *
  have hq0 : 0 < q := by exact ar335 hq
  have hnl : (below.map fun b : Nat => D.int b).length ≤ lim := by rw [List.length_map, hnn]; show _ ≤ 2 ^ 20; exact ar336 hn
  have hH : ∀ m, 0 < Hm q h m n := fun m => Hm_pos m hq0 n hb.pos
  apply fn_any hR (xs := ["below", "q"]) (md := ["ways", "turn", "more", "mask", "lacking", "k", "grown"]) (by decide +kernel) (by rfl) (binds2 fun _ _ _ _ _ _ => rfl) (by rfl) (by rfl)
  clear hR C
  intro C hR
  show Xs C _ ["below"] _ _ [(("below" : Str), D.list (below.map fun b : Nat => .int b)), (("q" : Str), .int q)] _
  have s0 := Sim.refl [(("below" : Str), D.list (below.map fun b : Nat => .int b)), (("q" : Str), .int q)]
  apply s_as s0 [] (by rfl) (by rfl)
  · apply y_dict1
    · walk_at "se"
    · walk_at "se"
  · rfl
  · rfl
  intro ρ1 s1
  apply z_x
  apply z_for ["turn", "more", "mask", "lacking", "k", "grown", "ways"]
  · apply y_i_name
    · walk_at "se"
    · have : D.ims (below.map fun b : Nat => D.int b) = true := D.ims_all fun d h => by
        obtain ⟨p, _, rfl⟩ := List.mem_map.mp h; rfl
      simp only [itemsOf, hnl, this, Bool.and_self, decide_true, if_true]
      rfl
  · rfl
  · rfl
  apply z_loop below (fun pre ρ => ∃ ways : Ways, Sim ρ (shO below q ways) ["turn", "more", "mask", "lacking", "k", "grown"] ∧ GoodW n B pre.length ways ∧ phi (fun m => Hm q h m n) ways * fac q (n - pre.length) = fac q n) (fun _ _ => False) (fun b : Nat => .int b)
  · rfl
  · refine ⟨[(0, 1)], fun x hx => s1 x rfl, ⟨by simp [keysW], fun m hm => ?_⟩, ?_⟩
    · have : m = 0 := by simpa [keysW] using hm
      subst this
      refine ⟨Nat.two_pow_pos n, fun j _ hj => by simp at hj, ?_⟩
      rw [lk_all n 0 (fun j _ _ => by simp)]; rfl
    · simp [phi, Hm_zero]
  · rintro pre b post hpre ρ ⟨ways, s2, hw, hphi⟩
    have hpl : pre.length < n := by rw [← hnn, hpre]; simp
    have hwl := hw.len hn
    have hwl20 : (castW ways).length ≤ lim := by rw [castW_length]; show _ ≤ 2 ^ 20; exact ar337 hwl
    refine ⟨ρ.set ("turn" : Str) (.int b), .one (by rfl) rfl, ?_⟩
    have s3 : Sim (ρ.set ("turn" : Str) (.int b)) (shO below q ways) ["turn", "more", "mask", "lacking", "k", "grown"] := s2.junk rfl
    generalize ρ.set ("turn" : Str) (.int b) = ρ3 at s3
    apply s_as s3 ["turn", "mask", "lacking", "k", "grown"] (by rfl) (by rfl)
    · walk_at "se"
    · rfl
    · rfl
    intro ρ4 s4
    apply z_mid (fun ρ' => ∃ more : Ways, Sim ρ' (shO1 below q ways more) ["turn", "mask", "lacking", "k", "grown"] ∧ GoodW n B (pre.length + 1) more ∧ phi (fun m => Hm q h m n) more = phi (fun m => Hm q h m n) ways * br q (n - pre.length))
    · apply z_for ["mask", "lacking", "k", "grown", "more"]
      · apply y_i_name
        · walk_at "se"
        · simp only [itemsOf, hwl20, if_true]; rfl
      · rfl
      · rfl
      apply z_loop ways (fun pre' ρ => ∃ more : Ways, Sim ρ (shO1 below q ways more) ["turn", "mask", "lacking", "k", "grown"] ∧ GoodW n B (pre.length + 1) more ∧ phi (fun m => Hm q h m n) more = phi (fun m => Hm q h m n) pre' * br q (n - pre.length)) (fun _ _ => False) (fun p : Nat × Nat => .int p.1)
      · simp only [castW, List.map_map]; rfl
      · refine ⟨[], s4, ⟨by simp [keysW], fun m hm => by simp [keysW] at hm⟩, by simp [phi]⟩
      · rintro pre' ⟨mk, w⟩ post' hpre' ρ ⟨more, s5, hmore, hmphi⟩
        have hmem : (mk, w) ∈ ways := by rw [hpre']; simp
        have hkey : mk ∈ keysW ways := List.mem_map.mpr ⟨_, hmem, rfl⟩
        have hval := hw.2 mk hkey
        have hlook : ways.lookup mk = some w := lookup_mem _ _ _ hw.1 hmem
        have hwle : w ≤ fac q n := by
          have h1 := phi_le hH ways mk w hlook
          have h2 : 0 < fac q (n - pre.length) := fac_pos hq0 _
          have := Nat.le_mul_of_pos_right (phi (fun m => Hm q h m n) ways) h2
          exact ar338 hphi h1 this
        refine ⟨ρ.set ("mask" : Str) (.int mk), .one (by rfl) rfl, ?_⟩
        have s6 : Sim (ρ.set ("mask" : Str) (.int mk)) (shO2 below q ways more mk) ["turn", "lacking", "k", "grown"] := s5.one _ (by rfl) (by rfl)
        generalize ρ.set ("mask" : Str) (.int mk) = ρ6 at s6
        apply s_as s6 ["turn", "k", "grown"] (by rfl) (by rfl)
        · walk_at "se"
        · rfl
        · rfl
        intro ρ7 s7
        apply z_x
        apply z_for ["k", "grown", "more", "lacking"]
        · apply y_i_range1 (by rfl)
          · apply y_call1 (by rfl)
            · walk_at "se"
            · exact o_lenL hnl
          · exact ar321
          · exact Int.ofNat_le.mpr hnl
        · rfl
        · rfl
        apply z_loop (List.range n) (fun pk ρ => ∃ (more' : Ways) (l : Nat), Sim ρ (shO3 below q ways more' mk l) ["turn", "k", "grown"] ∧ GoodW n B (pre.length + 1) more' ∧ l ≤ pk.length ∧
          phi (fun m => Hm q h m n) more' + w * Hm q h mk n * sf q B h mk l pk.length (n - pk.length) = phi (fun m => Hm q h m n) more + w * Hm q h mk n * br q (n - pre.length)) (fun _ _ => False) (fun k : Nat => .int (0 + (k : Int)))
        · rw [List.length_map, hnn, Int.toNat_natCast, rangeD]
        · refine ⟨more, 0, s7, hmore, Nat.le_refl _, ?_⟩
          show _ + _ * sf q B h mk 0 0 n = _
          rw [sf_all hb hval.2.1]
          have := hval.2.2
          rw [show lk mk 0 n = n - pre.length by exact ar339 this]
        · rintro pk i postk hpk ρ ⟨more', l, s8, hm', hl, hphi'⟩
          obtain ⟨hi0, hin⟩ := range_split hpk
          rw [← hi0] at hin hl hphi'
          have hcm : (castW more').length < lim := by rw [castW_length]; have := hm'.len hn; show _ < 2 ^ 20; exact ar340 this
          refine ⟨ρ.set ("k" : Str) (.int i), b_zero (by rfl), ?_⟩
          have s9 : Sim (ρ.set ("k" : Str) (.int i)) (shO4 below q ways more' mk l i) ["turn", "grown"] := s8.one _ (by rfl) (by rfl)
          generalize ρ.set ("k" : Str) (.int i) = ρ9 at s9
          obtain ⟨c, hc⟩ : ∃ c, n - i = c + 1 := ⟨n - i - 1, by exact ar128 hin⟩
          rw [hc, sf] at hphi'
          have hlen1 : (pk ++ [i]).length = i + 1 := by simp [hi0]
          have hc1 : n - (i + 1) = c := by exact ar206 hc
          show Xs _ _ _ _ _ _ _
          rw [show (pk ++ [i]).length = i + 1 from hlen1, hc1]
          apply z_x
          apply z_if (c := !mk.testBit i)
          · apply y_b_cmp (by rfl)
            · apply y_bin
              · apply y_bin
                · walk_at "se"
                · walk_at "se"
                · exact .shr (by exact ar321)
              · walk_at "se"
              · exact .band _ _
            · walk_at "se"
            · rw [← bit_test]
              exact .eqI _ _
          · intro hbit
            have hbit : mk.testBit i = false := by simpa using hbit
            rw [hbit] at hphi'
            simp only [Bool.false_eq_true, if_false] at hphi'
            apply z_mid (fun ρ' => ∃ more'' : Ways, Sim ρ' (shO4 below q ways more'' mk l i) ["turn", "grown"] ∧ GoodW n B (pre.length + 1) more'' ∧ phi (fun m => Hm q h m n) more'' = phi (fun m => Hm q h m n) more' + (if free B mk i = true then w * Hm q h mk n * (q ^ l * br q (h i)) else 0))
            · apply z_if (c := free B mk i)
              · apply y_b_call
                apply y_fn (by rfl)
                · apply y_s1
                  · apply y_bin
                    · apply y_sub (by rfl)
                      · walk_at "se"
                      · walk_at "se"
                      · apply o_idx (d := .int (B i))
                        · rw [← hBB, List.getElem?_map, List.getElem?_eq_getElem (by exact ar110 hnn hin)]
                          simp [List.getD_eq_getElem?_getD, List.getElem?_eq_getElem (show i < below.length by exact ar110 hnn hin)]
                        · rfl
                        · exact ar341 hn hin
                        · exact hnl
                    · walk_at "se"
                    · exact .band _ _
                  · walk_at "se"
                · rw [← free_test]
                  exact f_eof hR _
              · intro hfree
                rw [if_pos hfree]
                apply s_as (d := .int ((mk + 2 ^ i : Nat) : Int)) s9 ["turn"] (by rfl) (by rfl)
                · apply y_bin
                  · walk_at "se"
                  · apply y_bin
                    · walk_at "se"
                    · walk_at "se"
                    · exact o_pow (by exact ar321) (by exact ar342 hn hin) (by decide)
                  · apply o_add
                    rw [Int.toNat_natCast, pow_cast]; rfl
                · rfl
                · rfl
                intro ρa sa
                have hgb : mk + 2 ^ i < 2 ^ 12 := by
                  have h1 := hval.1
                  have h2 : 2 ^ n ≤ 2 ^ 9 := Nat.pow_le_pow_right (by decide) hn
                  have h3 : 2 ^ i ≤ 2 ^ 9 := Nat.pow_le_pow_right (by decide) (by exact ar343 hn hin)
                  exact ar344 h1 h2 h3
                have hql : q ^ l ≤ 2 ^ 90 := by
                  have h1 : q ^ l ≤ 1000 ^ l := Nat.pow_le_pow_left hq' l
                  have h2 : 1000 ^ l ≤ 1000 ^ 9 := Nat.pow_le_pow_right (by decide) (by exact ar345 hn hl hin)
                  have h4 : 1000 ^ 9 ≤ 2 ^ 90 := by decide
                  exact ar346 h1 h2
                apply s_put (d := (((more'.lookup (mk + 2 ^ i)).getD 0 + w * q ^ l : Nat) : Int)) sa ["turn"] (by rfl) (by rfl) (by rfl)
                · apply y_bin
                  · apply y_get2 (by rfl)
                    · walk_at "se"
                    · walk_at "se"
                    · walk_at "se"
                  · apply y_bin
                    · apply y_sub (by rfl)
                      · walk_at "se"
                      · walk_at "se"
                      · exact o_get hlook
                    · apply y_bin
                      · walk_at "se"
                      · walk_at "se"
                      · apply o_pow (by exact ar321) (by exact ar347 hn hl hin)
                        rw [Int.natAbs_natCast]; exact ar348 hq'
                    · apply o_mul
                      · exact fac_fits hq hq' hn hwle
                      · rw [Int.toNat_natCast]
                        unfold fits bigN
                        rw [decide_eq_true_eq]
                        have e1 : ((q : Int) ^ l) = ((q ^ l : Nat) : Int) := by simp
                        rw [e1, Int.natAbs_natCast]
                        exact Nat.lt_of_le_of_lt hql (Nat.pow_lt_pow_right (by decide) (by decide))
                      · rfl
                  · apply o_add
                    rw [Int.toNat_natCast, lookup_cast]
                    cases more'.lookup (mk + 2 ^ i) <;> simp
                · exact Sim.get (by assumption) (by rfl) (by rfl)
                · walk_at "se"
                · exact hcm
                intro ρb sb
                apply z_0
                refine ⟨rfl, putN more' (mk + 2 ^ i) ((more'.lookup (mk + 2 ^ i)).getD 0 + w * q ^ l), ?_, ⟨nodup_put _ _ _ hm'.1, fun x hx => ?_⟩, ?_⟩
                · rw [putD_cast] at sb
                  exact sb.drop ("grown" : Str) (by rfl)
                · rcases keys_put _ _ _ _ hx with rfl | hx
                  · exact hval.grow hb hin hbit hfree
                  · exact hm'.2 x hx
                · rw [phi_put, Hm_set q h hbit, if_pos hin]
                  congr 1
                  ac_rfl
              · intro hfree
                rw [hfree]
                apply z_0
                exact ⟨rfl, more', s9, hm', by simp⟩
            rintro ρa ⟨more'', sa, hma, hpa⟩
            apply s_as (d := .int ((l + 1 : Nat) : Int)) sa ["turn", "grown"] (by rfl) (by rfl)
            · apply y_bin
              · walk_at "se"
              · walk_at "se"
              · exact o_add rfl
            · rfl
            · rfl
            intro ρb sb
            apply z_0
            apply z_0
            refine ⟨more'', l + 1, sb.drop ("k" : Str) (by rfl), hma, by exact ar135 hl, ?_⟩
            rw [hpa, ← hphi', Nat.mul_add]
            split
            · exact ar349
            · simp
          · intro hbit
            have hbit : mk.testBit i = true := by simpa using hbit
            rw [hbit] at hphi'
            simp only [if_true] at hphi'
            apply z_0
            apply z_0
            exact ⟨more', l, s9.drop ("k" : Str) (by rfl), hm', by exact ar58 hl, hphi'⟩
        · intro f ρ'' hh
          obtain ⟨rfl, more', l, s8, hm', hl, hphi'⟩ := hh.resolve_right (fun h => h)
          apply z_0
          refine ⟨more', (s8.drop (J' := ["turn", "lacking", "k", "grown"]) ("lacking" : Str) (by rfl)).drop ("mask" : Str) (by rfl), hm', ?_⟩
          rw [List.length_range, Nat.sub_self, sf, Nat.mul_zero, Nat.add_zero] at hphi'
          rw [hphi', hmphi, phi_app, Nat.add_mul]
          simp [phi]
      · intro f ρ'' hh
        obtain ⟨rfl, more, s5, hmore, hmphi⟩ := hh.resolve_right (fun h => h)
        exact ⟨rfl, more, s5, hmore, hmphi⟩
    rintro ρ5 ⟨more, s5, hmore, hmphi⟩
    apply s_move s5 ["turn", "mask", "lacking", "k", "grown"] (by rfl) (by rfl)
    · walk_at "se"
    · rfl
    · rfl
    intro ρ6 s6
    apply z_0
    refine ⟨more, ?_, ?_, ?_⟩
    · intro x hx
      have hx2 : (["turn", "mask", "lacking", "k", "grown"] : List Str).contains x = false := by
        simp only [List.contains_cons, Bool.or_eq_false_iff] at hx ⊢
        exact ⟨hx.1, hx.2.2⟩
      rw [s6 x hx2]
      rfl
    · rw [List.length_append, List.length_singleton]; exact hmore
    · rw [hmphi, List.length_append, List.length_singleton]
      obtain ⟨c, hc⟩ : ∃ c, n - pre.length = c + 1 := ⟨n - pre.length - 1, by exact ar128 hpl⟩
      rw [show n - (pre.length + 1) = c by exact ar206 hc, hc]
      rw [hc, fac] at hphi
      rw [← hphi]; ac_rfl
  · intro f ρ'' hh
    obtain ⟨rfl, ways, s2, hw, hphi⟩ := hh.resolve_right (fun h => h)
    rw [hnn, Nat.sub_self, fac, Nat.mul_one] at hphi
    rw [hnn] at hw
    have hwl := hw.len hn
    show Xs _ _ _ _ _ _ _
    apply z_x
    apply z_ret
    · apply y_sumv (by rfl) (by rfl)
      walk_at "se"
    · rfl
    · refine ⟨_, rfl, (ways.map (·.2)).sum, ?_, ?_⟩
      · have : ∀ l : Ways, ((castW l).map (·.2)).sum = (((l.map (·.2)).sum : Nat) : Int) := by
          intro l
          induction l with
          | nil => rfl
          | cons p r ih =>
            simp only [castW, List.map_cons, List.sum_cons] at ih ⊢
            rw [ih]; simp
        rw [this]
      · rw [← hphi]
        have hall : ∀ p ∈ ways, Hm q h p.1 n = Hm q h (2 ^ n - 1) n := by
          intro p hp
          have hv := hw.2 p.1 (List.mem_map.mpr ⟨_, hp, rfl⟩)
          have hz : lk p.1 0 n = 0 := by have := hv.2.2; exact ar350 this
          have he : p.1 = 2 ^ n - 1 := by
            apply Nat.eq_of_testBit_eq
            intro i
            rw [Nat.testBit_two_pow_sub_one]
            by_cases hi : i < n
            · rw [lk_zero n 0 hz i (by exact ar351) (by exact ar327 hi), decide_eq_true hi]
            · rw [Nat.testBit_lt_two_pow (Nat.lt_of_lt_of_le hv.1 (Nat.pow_le_pow_right (by decide) (by exact ar89 hi))), decide_eq_false hi]
          rw [he]
        generalize Hm q h (2 ^ n - 1) n = X at hall
        clear hphi hw hwl s2
        induction ways with
        | nil => simp [phi]
        | cons p r ih =>
          rw [List.map_cons, List.sum_cons, phi, hall p (by simp), Nat.add_mul, ih (fun x hx => hall x (by simp [hx]))]
end Mine
end
section
open PySem PySem.W
set_option maxRecDepth 100000
set_option maxHeartbeats 1000000
namespace Mine
noncomputable def loopsL : List Nat := [256, 846, 848, 6149, 6158, 8202, 8206, 8287, 8289, 65023, 65040, 65278, 65280]
noncomputable def baseL : List Nat := [12, 1, 5, 4, 18, 1, 23]
inductive Tok where
  | sgn (c : Nat)
  | mute (i v : Nat)
noncomputable def muteL (v : Nat) : List (List Nat) := [[92, 40], [92, v, 41], [34, 40, 34], [34, v, 41, 34], [92, 92], [255]]
noncomputable def startL (v : Nat) : List (List Nat) := [[97], [97], [46], [v, 46]]
noncomputable def startB : List (List Nat) := [[], [], [46, 46], [46]]
noncomputable def eols : List (List Nat) := [[92, 10], [13, 10], [13]]
noncomputable def Tok.text : Tok → List Nat
  | sgn c => [c]
  | mute i v => (muteL v).getD i []
noncomputable def Tok.bare : Tok → List Nat
  | sgn c => [c]
  | mute .. => []
noncomputable def Tok.good : Tok → Prop
  | sgn c => c = 40 ∨ c = 41 ∨ c ∈ loopsL
  | mute i v => i < 6 ∧ v ∈ nothingL
structure Row where
  y : Nat
  v : Nat
  toks : List Tok
noncomputable def Row.text (r : Row) : List Nat := (startL r.v).getD r.y [] ++ r.toks.flatMap Tok.text
noncomputable def Row.bush (r : Row) : List Nat := startB.getD r.y [] ++ r.toks.flatMap Tok.bare
structure Row.good (r : Row) : Prop where
  y : r.y < 4
  v : r.v ∈ nothingL
  toks : ∀ t ∈ r.toks, t.good
noncomputable def Row.put (r : Row) (ts : List Tok) : Row := { r with toks := r.toks ++ ts }
theorem Row.put_text (r : Row) (ts) : (r.put ts).text = r.text ++ ts.flatMap Tok.text := by simp [Row.text, Row.put]
theorem Row.put_bush (r : Row) (ts) : (r.put ts).bush = r.bush ++ ts.flatMap Tok.bare := by simp [Row.bush, Row.put]
theorem Row.put_good {r : Row} {ts} (h : r.good) (ht : ∀ t ∈ ts, t.good) : (r.put ts).good := ⟨h.y, h.v, fun t hm => by
  rcases List.mem_append.mp hm with hm | hm
  · exact h.toks t hm
  · exact ht t hm⟩
noncomputable def closers (n : Nat) : List Tok := List.replicate n (.sgn 41)
theorem closers_good (n : Nat) : ∀ t ∈ closers n, t.good := fun t h => by rw [List.eq_of_mem_replicate h]; exact .inr (.inl rfl)
theorem closers_text (n : Nat) : (closers n).flatMap Tok.text = List.replicate n 41 := by
  induction n with
  | zero => rfl
  | succ n ih => rw [closers, List.replicate_succ, List.flatMap_cons, ← closers, ih]; rfl
theorem closers_bare (n : Nat) : (closers n).flatMap Tok.bare = List.replicate n 41 := by
  induction n with
  | zero => rfl
  | succ n ih => rw [closers, List.replicate_succ, List.flatMap_cons, ← closers, ih]; rfl
/-- how many pieces the signs are -/
noncomputable def np (s : List Nat) : Nat := (s.filter (· != 41)).length
theorem np_app (a b : List Nat) : np (a ++ b) = np a + np b := by simp [np]
theorem np_rep (n : Nat) : np (List.replicate n 41) = 0 := by
  rw [np, List.filter_eq_nil_iff.mpr]
  · rfl
  · intro a h; rw [List.eq_of_mem_replicate h]; simp
noncomputable def textOf : Row → Option (Nat × Row) → List Nat
  | r, none => r.text
  | r, some (e, r2) => r.text ++ eols.getD e [] ++ r2.text
noncomputable def bushesOf : Row → Option (Nat × Row) → List (List Nat)
  | r, none => [r.bush]
  | r, some (_, r2) => [r.bush, r2.bush]
theorem Tok.text_len {t : Tok} (h : t.good) : t.text.length ≤ 4 := by
  cases t with
  | sgn c => simp [Tok.text]
  | mute i v =>
    obtain ⟨hi, _⟩ := h
    match i, hi with
    | 0, _ | 1, _ | 2, _ | 3, _ | 4, _ | 5, _ => simp [Tok.text, muteL]
theorem Tok.bare_len (t : Tok) : t.bare.length ≤ 1 := by cases t <;> simp [Tok.bare]
theorem flat_text_len : ∀ (ts : List Tok), (∀ t ∈ ts, t.good) → (ts.flatMap Tok.text).length ≤ 4 * ts.length
  | [], _ => by simp
  | t :: r, h => by
    have h1 := Tok.text_len (h t (by simp))
    have h2 := flat_text_len r fun t ht => h t (by simp [ht])
    rw [List.flatMap_cons, List.length_append, List.length_cons]; exact ar59 h1 h2
theorem flat_bare_len : ∀ (ts : List Tok), (ts.flatMap Tok.bare).length ≤ ts.length
  | [] => by simp
  | t :: r => by
    have h1 := Tok.bare_len t
    have h2 := flat_bare_len r
    rw [List.flatMap_cons, List.length_append, List.length_cons]; exact ar60 h1 h2
theorem start_len {y v : Nat} (h : y < 4) : ((startL v).getD y []).length ≤ 2 ∧ (startB.getD y []).length ≤ 2 := by
  match y, h with
  | 0, _ | 1, _ | 2, _ | 3, _ => simp [startL, startB]
theorem Row.text_len {r : Row} (h : r.good) : r.text.length ≤ 2 + 4 * r.toks.length := by
  have h1 := (start_len (v := r.v) h.y).1
  have h2 := flat_text_len r.toks h.toks
  rw [Row.text, List.length_append]; exact ar61 h1 h2
theorem Row.bush_len {r : Row} (h : r.good) : r.bush.length ≤ 2 + r.toks.length := by
  have h1 := (start_len (v := r.v) h.y).2
  have h2 := flat_bare_len r.toks
  rw [Row.bush, List.length_append]; exact ar62 h1 h2
/-- what holds behind the first k items -/
structure MState (k : Nat) (mail : List Nat) (bushes : List (List Nat)) (depth : Nat) (r : Row) (o : Option (Nat × Row)) : Prop where
  text : mail = textOf r o
  bush : bushes = bushesOf r o
  deep : depth ≤ k
  good : r.good
  one : o = none → r.toks.length + 1 ≤ k ∧ np (r.toks.flatMap Tok.bare) + 1 ≤ k
  two : ∀ e r2, o = some (e, r2) → e < 3 ∧ r2.good ∧ r.toks.length ≤ 14 ∧ r2.toks.length + 2 ≤ k ∧ np (r.toks.flatMap Tok.bare) + np (r2.toks.flatMap Tok.bare) + 2 ≤ k
theorem MState.len {k mail bushes depth r o} (h : MState k mail bushes depth r o) (hk : k ≤ 7) : mail.length ≤ 150 ∧ bushes.length ≤ 2 ∧ 1 ≤ bushes.length ∧ ∀ b ∈ bushes, b.length ≤ 20 := by
  have h1 := Row.text_len h.good
  have h2 := Row.bush_len h.good
  rw [h.text, h.bush]
  cases o with
  | none =>
    have := h.one rfl
    refine ⟨by rw [textOf]; exact ar63 hk h1 this, by simp [bushesOf], by simp [bushesOf], ?_⟩
    intro b hb
    have : b = r.bush := by simpa [bushesOf] using hb
    subst this; exact ar64 hk h2 this
  | some p =>
    obtain ⟨e, r2⟩ := p
    obtain ⟨he, hg, h3, h4, h5⟩ := h.two e r2 rfl
    have h6 := Row.text_len hg
    have h7 := Row.bush_len hg
    have h8 : (eols.getD e []).length ≤ 2 := by
      match e, he with
      | 0, _ | 1, _ | 2, _ => simp [eols]
    refine ⟨by rw [textOf, List.length_append, List.length_append]; exact ar65 hk h1 h3 h4 h6 h8, by simp [bushesOf], by simp [bushesOf], ?_⟩
    intro b hb
    have : b = r.bush ∨ b = r2.bush := by simpa [bushesOf] using hb
    rcases this with rfl | rfl <;> (first | exact ar66 h2 h3 | exact ar67 hk h4 h7)
/-- a further piece of text in the last row -/
theorem MState.item {k mail bushes depth r o} (h : MState k mail bushes depth r o) {t : Tok} (ht : t.good) {d : Nat} (hd : d ≤ depth + 1) :
    ∃ r' o', MState (k + 1) (mail ++ t.text) (bushes.set (bushes.length - 1) (bushes.getD (bushes.length - 1) [] ++ t.bare)) d r' o' := by
  have hnp : np t.bare ≤ 1 := Nat.le_trans (List.length_filter_le ..) (Tok.bare_len t)
  have hts : ∀ t' ∈ [t], t'.good := fun t' h => by rw [List.mem_singleton.mp h]; exact ht
  cases o with
  | none =>
    refine ⟨r.put [t], none, ?_⟩
    have h1 := h.one rfl
    constructor
    · rw [textOf, Row.put_text, h.text, textOf]; simp
    · rw [h.bush]; simp [bushesOf, Row.put_bush]
    · have := h.deep; exact ar68 hd this
    · exact Row.put_good h.good hts
    · intro _
      constructor
      · simp [Row.put]; exact ar69 h1
      · simp only [Row.put, List.flatMap_append, np_app, List.flatMap_singleton]; exact ar70 hnp h1
    · intro e r2 h; cases h
  | some p =>
    obtain ⟨e, r2⟩ := p
    refine ⟨r, some (e, r2.put [t]), ?_⟩
    obtain ⟨he, hg, h3, h4, h5⟩ := h.two e r2 rfl
    constructor
    · rw [textOf, Row.put_text, h.text, textOf]; simp
    · rw [h.bush]; simp [bushesOf, Row.put_bush]
    · have := h.deep; exact ar68 hd this
    · exact h.good
    · intro h; cases h
    · intro e' r2' heq
      cases heq
      refine ⟨he, Row.put_good hg hts, h3, by simp [Row.put]; exact ar71 h4, ?_⟩
      simp only [Row.put, List.flatMap_append, np_app, List.flatMap_singleton]; exact ar72 hnp h5
theorem MState.first {y v : Nat} (hy : y < 4) (hv : v ∈ nothingL) : MState 1 ((startL v).getD y []) [startB.getD y []] 0 ⟨y, v, []⟩ none := by
  constructor
  · simp [textOf, Row.text]
  · simp [bushesOf, Row.bush]
  · exact ar73
  · exact ⟨hy, hv, by simp⟩
  · intro _; simp [np]
  · intro e r2 h; cases h
theorem MState.row {k mail bushes depth r o} (h : MState k mail bushes depth r o) (hk : k ≤ 7) (hb : bushes.length = 1) {y v e : Nat} (hy : y < 4) (hv : v ∈ nothingL) (he : e < 3) :
    ∃ r' o', MState (k + 1) (mail ++ List.replicate depth 41 ++ eols.getD e [] ++ (startL v).getD y []) (bushes.set 0 (bushes.getD 0 [] ++ List.replicate depth 41) ++ [startB.getD y []]) 0 r' o' := by
  cases o with
  | none =>
    have h1 := h.one rfl
    refine ⟨r.put (closers depth), some (e, ⟨y, v, []⟩), ?_⟩
    constructor
    · rw [textOf, Row.put_text, h.text, textOf, closers_text]; simp [Row.text]
    · rw [h.bush, bushesOf, bushesOf, Row.put_bush, closers_bare]; simp [Row.bush]
    · exact ar74
    · exact Row.put_good h.good (closers_good _)
    · intro h; cases h
    · intro e' r2' heq
      cases heq
      have := h.deep
      refine ⟨he, ⟨hy, hv, by simp⟩, by simp [Row.put, closers]; exact ar75 hk h1 this, by simp; exact ar76 h1, ?_⟩
      simp only [Row.put, List.flatMap_append, np_app, closers_bare, np_rep, List.flatMap_nil]
      simp [np] at h1 ⊢; exact ar77 h1
  | some p =>
    obtain ⟨e', r2⟩ := p
    rw [h.bush] at hb; simp [bushesOf] at hb
/-- the finished mail -/
structure MDone (mail : List Nat) (bushes : List (List Nat)) (r : Row) (o : Option (Nat × Row)) : Prop where
  text : mail = textOf r o
  bush : bushes = bushesOf r o
  good : r.good
  len : r.toks.length ≤ 21
  one : o = none → np (r.toks.flatMap Tok.bare) ≤ 6
  two : ∀ e r2, o = some (e, r2) → e < 3 ∧ r2.good ∧ r2.toks.length ≤ 21 ∧ np (r.toks.flatMap Tok.bare) + np (r2.toks.flatMap Tok.bare) ≤ 5
theorem MState.done {mail bushes depth r o} (h : MState 7 mail bushes depth r o) :
    ∃ r' o', MDone (mail ++ List.replicate depth 41) (bushes.set (bushes.length - 1) (bushes.getD (bushes.length - 1) [] ++ List.replicate depth 41)) r' o' := by
  have hd := h.deep
  cases o with
  | none =>
    have h1 := h.one rfl
    refine ⟨r.put (closers depth), none, ?_⟩
    constructor
    · rw [textOf, Row.put_text, h.text, textOf, closers_text]
    · rw [h.bush]; simp [bushesOf, Row.put_bush, closers_bare]
    · exact Row.put_good h.good (closers_good _)
    · simp [Row.put, closers]; exact ar78 hd h1
    · intro _
      simp only [Row.put, List.flatMap_append, np_app, closers_bare, np_rep]; exact ar79 h1
    · intro e r2 h; cases h
  | some p =>
    obtain ⟨e, r2⟩ := p
    obtain ⟨he, hg, h3, h4, h5⟩ := h.two e r2 rfl
    refine ⟨r, some (e, r2.put (closers depth)), ?_⟩
    constructor
    · rw [textOf, Row.put_text, h.text, textOf, closers_text]; simp
    · rw [h.bush]; simp [bushesOf, Row.put_bush, closers_bare]
    · exact h.good
    · exact ar80 h3
    · intro h; cases h
    · intro e' r2' heq
      cases heq
      refine ⟨he, Row.put_good hg (closers_good _), by simp [Row.put, closers]; exact ar81 hd h4, ?_⟩
      simp only [Row.put, List.flatMap_append, np_app, closers_bare, np_rep]; exact ar82 h5
end Mine
end
section
open PySem PySem.W
set_option maxRecDepth 100000
set_option maxHeartbeats 1000000
namespace Mine
theorem o_div {a : Nat} (b : Nat) (h0 : (b != 0) = true) (h : b < 1000000) : OpR .FloorDiv (.int a) (.int b) (.int ((a / b : Nat) : Int)) := by
  have e : (a : Int).fdiv b = ((a / b : Nat) : Int) := by
    rw [Int.fdiv_eq_ediv_of_nonneg _ (by exact ar321)]; simp
  have h0 : b ≠ 0 := by simpa using h0
  rw [← e]
  exact .div (by rw [Int.natAbs_natCast]; exact h) (by exact ar352 h0)
theorem o_mod {a : Nat} (b : Nat) (h0 : (b != 0) = true) : OpR .Mod (.int a) (.int b) (.int ((a % b : Nat) : Int)) := by
  have e : (a : Int).fmod b = ((a % b : Nat) : Int) := by
    rw [Int.fmod_eq_emod_of_nonneg _ (by exact ar321)]; simp
  have h0 : b ≠ 0 := by simpa using h0
  rw [← e]
  exact .mod (by exact ar352 h0)
theorem o_chr {c : Nat} (h : c < 1114112) : Call1R ("chr" : Str) (.int c) (.str [c]) := .chr h
theorem o_sum {l : List Int} : Call1R ("sum" : Str) (.list (l.map D.int)) (.int l.sum) := .sum l
theorem o_rep {n : Nat} (h : n ≤ 1000) : OpR .Mult (.str [41]) (.int n) (.str (List.replicate n 41)) := .rep 41 h
theorem o_pick {l : List (List Nat)} {i : Nat} (hi : i < l.length) (hs : i < 2 ^ 60) (hl : l.length ≤ lim) : subD (.list (l.map D.str)) (.int i) = some (.str (l.getD i [])) := by
  apply o_idx
  · rw [List.getElem?_map, List.getD_eq_getElem?_getD, List.getElem?_eq_getElem hi]; rfl
  · rfl
  · exact hs
  · rw [List.length_map]; exact hl
theorem o_pickI {l : List Nat} {i : Nat} (hi : i < l.length) (hs : i < 2 ^ 60) (hl : l.length ≤ lim) : subD (.list (l.map fun c : Nat => D.int c)) (.int i) = some (.int (l.getD i 0 : Nat)) := by
  apply o_idx
  · rw [List.getElem?_map, List.getD_eq_getElem?_getD, List.getElem?_eq_getElem hi]; rfl
  · rfl
  · exact hs
  · rw [List.length_map]; exact hl
theorem o_pickLast {l : List (List Nat)} (hi : 0 < l.length) (hl : l.length ≤ lim) : subD (.list (l.map D.str)) (.int (-1)) = some (.str (l.getD (l.length - 1) [])) := by
  have h0 : (0 : Int) ≤ -1 + ((l.map D.str).length : Int) := by rw [List.length_map]; exact ar353 hi
  have h1 : (-1 + ((l.map D.str).length : Int)).toNat = l.length - 1 := by rw [List.length_map]; exact ar354
  have h2 : (l.map D.str).length ≤ lim := by rw [List.length_map]; exact hl
  have h3 : (l.map D.str)[l.length - 1]? = some (.str (l.getD (l.length - 1) [])) := by
    rw [List.getElem?_map, List.getD_eq_getElem?_getD, List.getElem?_eq_getElem (by exact ar355 hi)]; rfl
  have h4 : small (-1) = true := by decide +kernel
  simp only [subD, pickD, h4, h2, decide_true, Bool.and_true, if_true, h0, h1, h3, Option.bind_some]
  rfl
theorem o_sliceL {l : List D} {a b : Nat} (hi : D.ims l = true) (ha : a < 2 ^ 60) (hb : b < 2 ^ 60) (hl : l.length ≤ lim) : sliceD (.list l) (some a) (some b) = some (.list ((l.take b).drop a)) := by
  simp only [sliceD, hi, if_true, sliceL, Option.getD_some, small, hl]
  have h5 : (0 ≤ (a : Int)) := by exact ar321
  have h6 : (0 ≤ (b : Int)) := by exact ar321
  simp [h5, h6]; exact ar356 ha hb
theorem getD_all {l : List Nat} {p : Nat → Prop} (h : ∀ c ∈ l, p c) {i : Nat} (hi : i < l.length) : p (l.getD i 0) := by
  rw [List.getD_eq_getElem?_getD, List.getElem?_eq_getElem hi]
  exact h _ (List.getElem_mem hi)
theorem set_str (l : List (List Nat)) (i : Nat) (x : List Nat) : (l.map D.str).set i (.str x) = (l.set i x).map D.str := by rw [List.map_set]
local macro_rules | `(tactic| walk_at "se") => `(tactic| first
  | exact y_c rfl
  | exact y_n (Sim.get (by assumption) (by rfl) (by rfl)) rfl rfl
  | exact y_nm (Sim.get (by assumption) (by rfl) (by rfl)) rfl rfl
  | exact y_s0
  | exact y_o0
  | exact y_dict0
  | exact y_t0
  | (focus apply y_s1; all_goals first | walk_at "se" | skip)
  | (focus apply y_o1; all_goals first | walk_at "se" | skip)
  | (focus apply y_bin; all_goals first | walk_at "se" | rfl | (constructor; done) | exact OpR.cat (Nat.le_of_ble_eq_true rfl) | exact o_add rfl | exact OpR.pow (by decide) (by decide) (by decide) | skip)
  | (focus apply y_un; all_goals first | walk_at "se" | rfl | (constructor; done) | exact OpR.cat (Nat.le_of_ble_eq_true rfl) | exact o_add rfl | exact OpR.pow (by decide) (by decide) (by decide) | skip)
  | (focus apply y_cmp (by rfl); all_goals first | walk_at "se" | rfl | (constructor; done) | exact OpR.cat (Nat.le_of_ble_eq_true rfl) | exact o_add rfl | exact OpR.pow (by decide) (by decide) (by decide) | skip)
  | (focus apply y_b_cmp (by rfl); all_goals first | walk_at "se" | rfl | (constructor; done) | exact OpR.cat (Nat.le_of_ble_eq_true rfl) | exact o_add rfl | exact OpR.pow (by decide) (by decide) (by decide) | skip)
  | (focus apply y_list; all_goals first | walk_at "se" | rfl | exact Nat.le_of_ble_eq_true rfl | skip)
  | (focus apply y_t1; all_goals first | walk_at "se" | decide | skip)
  | (focus apply y_tup; all_goals first | walk_at "se" | exact Nat.le_of_ble_eq_true rfl | skip)
  | (focus apply y_slice (by rfl); all_goals first | walk_at "se" | rfl | skip)
  | (focus apply y_sub (by rfl); all_goals first | walk_at "se" | rfl | skip)
  | (focus apply y_meth (by rfl); all_goals first | walk_at "se" | rfl | (constructor; done) | exact OpR.cat (Nat.le_of_ble_eq_true rfl) | exact o_add rfl | exact OpR.pow (by decide) (by decide) (by decide) | skip))
noncomputable def shM (script : List Int) (mail : List Nat) (bushes : List (List Nat)) (depth : Nat) : Store :=
  [(("script" : Str), D.list (script.map D.int)), (("nothing" : Str), .list (nothingL.map fun c : Nat => D.int c)), (("loops" : Str), .list (loopsL.map fun c : Nat => D.int c)), (("base" : Str), .list (baseL.map fun c : Nat => D.int c)),
   (("mail" : Str), .str mail), (("bushes" : Str), .list (bushes.map D.str)), (("depth" : Str), .int depth)]
noncomputable def shM1 (script : List Int) (mail : List Nat) (bushes : List (List Nat)) (depth k x y v : Nat) : Store :=
  [(("script" : Str), D.list (script.map D.int)), (("nothing" : Str), .list (nothingL.map fun c : Nat => D.int c)), (("loops" : Str), .list (loopsL.map fun c : Nat => D.int c)), (("base" : Str), .list (baseL.map fun c : Nat => D.int c)),
   (("mail" : Str), .str mail), (("bushes" : Str), .list (bushes.map D.str)), (("depth" : Str), .int depth), (("k" : Str), .int k), (("x" : Str), .int x), (("y" : Str), .int y), (("void" : Str), .str [v])]
theorem shM1_drop {ρ : Store} {script mail bushes depth k x y v} (h : Sim ρ (shM1 script mail bushes depth k x y v) ["dressed", "bare"]) : Sim ρ (shM script mail bushes depth) ["k", "x", "y", "void", "dressed", "bare"] :=
  (((h.drop (J' := ["void", "dressed", "bare"]) ("void" : Str) (by rfl)).drop (J' := ["y", "void", "dressed", "bare"]) ("y" : Str) (by rfl)).drop (J' := ["x", "y", "void", "dressed", "bare"]) ("x" : Str) (by rfl)).drop ("k" : Str) (by rfl)
noncomputable def shM2 (script : List Int) (mail : List Nat) (bushes : List (List Nat)) (depth k x y v : Nat) (dr ba : List Nat) : Store :=
  [(("script" : Str), D.list (script.map D.int)), (("nothing" : Str), .list (nothingL.map fun c : Nat => D.int c)), (("loops" : Str), .list (loopsL.map fun c : Nat => D.int c)), (("base" : Str), .list (baseL.map fun c : Nat => D.int c)),
   (("mail" : Str), .str mail), (("bushes" : Str), .list (bushes.map D.str)), (("depth" : Str), .int depth), (("k" : Str), .int k), (("x" : Str), .int x), (("y" : Str), .int y), (("void" : Str), .str [v]), (("dressed" : Str), .str dr), (("bare" : Str), .str ba)]
theorem shM2_drop {ρ : Store} {script mail bushes depth k x y v dr ba} (h : Sim ρ (shM2 script mail bushes depth k x y v dr ba) []) : Sim ρ (shM script mail bushes depth) ["k", "x", "y", "void", "dressed", "bare"] :=
  shM1_drop ((h.drop (J' := ["bare"]) ("bare" : Str) (by rfl)).drop (J' := ["dressed", "bare"]) ("dressed" : Str) (by rfl))
theorem xval (script : List Int) (k : Nat) : ∃ x : Nat, ((baseL.getD k 0 : Nat) : Int) + Int.fmod (((script.take (k + 1)).drop k).sum) (10 ^ 6) = x := by
  have := Int.fmod_nonneg_of_pos (((script.take (k + 1)).drop k).sum) (show (0 : Int) < 10 ^ 6 by decide)
  exact Int.eq_ofNat_of_zero_le (by exact ar357 this)
theorem nothing_cat : OpR .Add (.list [.int 173, .int 847, .int 6150, .int 6155, .int 6156, .int 6157, .int 8203, .int 8204, .int 8205, .int 8288, .int 65279]) (.list (rangeD 65024 ((65040 : Int) - 65024).toNat)) (.list (nothingL.map fun c : Nat => D.int c)) := by
  have e : (nothingL.map fun c : Nat => D.int c) = [.int 173, .int 847, .int 6150, .int 6155, .int 6156, .int 6157, .int 8203, .int 8204, .int 8205, .int 8288, .int 65279] ++ rangeD 65024 ((65040 : Int) - 65024).toNat := by
    unfold nothingL
    rw [List.map_append, List.map_map]
    rfl
  rw [e]
  exact .catL (by decide +kernel)
theorem f_mail {C : Cx} {k : Nat} (hR : Rm C (k + 1)) {script : List Int} (hl : script.length ≤ 63) : FnY C "_law_mail" [.list (script.map D.int)] fun d => ∃ mail bushes r o, MDone mail bushes r o ∧ d = .tuple [.str mail, .list (bushes.map D.str)] := by
  have hsl : (script.map D.int).length ≤ lim := by rw [List.length_map]; show _ ≤ 2 ^ 20; exact ar358 hl
  apply fn_any hR (xs := ["script"]) (md := ["nothing", "loops", "base", "mail", "bushes", "depth", "k", "x", "y", "void", "dressed", "bare"]) (by decide +kernel) (by rfl) (binds1 fun _ _ _ _ _ => rfl) (by rfl) (by rfl)
  clear hR C
  intro C hR
  show Xs C _ ["script"] _ _ [(("script" : Str), D.list (script.map D.int))] _
  have s0 := Sim.refl [(("script" : Str), D.list (script.map D.int))]
  apply s_as (d := .list (nothingL.map fun c : Nat => D.int c)) s0 [] (by rfl) (by rfl)
  · apply y_bin
    · walk_at "se"
    · apply y_range (by rfl) (by rfl)
      · walk_at "se"
      · walk_at "se"
      · decide
      · decide
      · decide
    · exact nothing_cat
  · rfl
  · rfl
  intro ρ1 s1
  apply s_as (d := .list (loopsL.map fun c : Nat => D.int c)) s1 [] (by rfl) (by rfl)
  · walk_at "se"
  · rfl
  · rfl
  intro ρ2 s2
  apply s_as (d := .list (baseL.map fun c : Nat => D.int c)) s2 [] (by rfl) (by rfl)
  · walk_at "se"
  · rfl
  · rfl
  intro ρ3 s3
  apply s_as_tup s3 (by rfl) (by rfl)
  · walk_at "se"
  · rfl
  · rfl
  intro ρ4 s4
  apply z_x
  apply z_for ["k", "x", "y", "void", "mail", "bushes", "depth", "dressed", "bare"]
  · apply y_i_range1 (by rfl)
    · walk_at "se"
    · decide
    · decide
  · rfl
  · rfl
  apply z_loop (List.range 7) (fun pre ρ => ∃ mail bushes depth, Sim ρ (shM script mail bushes depth) ["k", "x", "y", "void", "dressed", "bare"] ∧ ((pre.length = 0 ∧ mail = [] ∧ bushes = [] ∧ depth = 0) ∨ ∃ r o, MState pre.length mail bushes depth r o)) (fun _ _ => False) (fun k : Nat => .int (0 + (k : Int)))
  · rfl
  · exact ⟨[], [], 0, fun x hx => s4 x rfl, .inl ⟨rfl, rfl, rfl, rfl⟩⟩
  · rintro pre i post hpre ρ ⟨mail, bushes, depth, s5, hst⟩
    obtain ⟨hi0, hi7⟩ := range_split hpre
    rw [← hi0] at hi7 hst
    have hlen1 : (pre ++ [i]).length = i + 1 := by simp [hi0]
    refine ⟨ρ.set ("k" : Str) (.int i), b_zero (by rfl), ?_⟩
    have s6 : Sim (ρ.set ("k" : Str) (.int i)) ((shM script mail bushes depth).set ("k" : Str) (.int i)) ["x", "y", "void", "dressed", "bare"] := s5.tell (by rfl)
    generalize ρ.set ("k" : Str) (.int i) = ρ6 at s6
    rw [hlen1]
    obtain ⟨x, hx⟩ := xval script i
    apply s_as (d := .int x) s6 ["y", "void", "dressed", "bare"] (by rfl) (by rfl)
    · apply y_bin
      · apply y_sub (by rfl)
        · walk_at "se"
        · walk_at "se"
        · exact o_pickI (show i < 7 from hi7) (by exact ar359 hi7) (by decide)
      · apply y_bin
        · apply y_call1 (by rfl)
          · apply y_slice (by rfl)
            · walk_at "se"
            · walk_at "se"
            · walk_at "se"
            · exact o_sliceL (b := i + 1) (ims_int _) (by exact ar359 hi7) (by exact ar360 hi7) hsl
          · rw [← List.map_take, ← List.map_drop]
            exact o_sum
        · walk_at "se"
        · exact .mod (by decide)
      · exact o_add (by rw [← hx]; rfl)
    · rfl
    · rfl
    intro ρ7 s7
    clear hx
    apply s_as (d := .int ((x / 6 : Nat) : Int)) s7 ["void", "dressed", "bare"] (by rfl) (by rfl)
    · apply y_bin
      · walk_at "se"
      · walk_at "se"
      · exact o_div 6 (by rfl) (by decide)
    · rfl
    · rfl
    intro ρ8 s8
    generalize hy : x / 6 = y at s8
    have hv27 : y / 6 % 27 < nothingL.length := by have : nothingL.length = 27 := rfl; exact ar361 this
    have hv : nothingL.getD (y / 6 % 27) 0 ∈ nothingL := getD_all (p := (· ∈ nothingL)) (fun c h => h) hv27
    have hv2 : nothingL.getD (y / 6 % 27) 0 < 1114112 := getD_all (p := (· < 1114112)) (by decide) hv27
    apply s_as (d := .str [nothingL.getD (y / 6 % 27) 0]) s8 ["dressed", "bare"] (by rfl) (by rfl)
    · apply y_call1 (by rfl)
      · apply y_sub (by rfl)
        · walk_at "se"
        · apply y_bin
          · apply y_bin
            · walk_at "se"
            · walk_at "se"
            · exact o_div 6 (by rfl) (by decide)
          · walk_at "se"
          · exact o_mod 27 (by rfl)
        · exact o_pickI hv27 (by exact ar362) (by decide)
      · exact o_chr hv2
    · rfl
    · rfl
    intro ρ9 s9
    replace s9 : Sim ρ9 (shM1 script mail bushes depth i x y (nothingL.getD (y / 6 % 27) 0)) ["dressed", "bare"] := s9
    generalize nothingL.getD (y / 6 % 27) 0 = v at hv hv2 s9
    have hB : mail.length ≤ 150 ∧ bushes.length ≤ 2 ∧ depth ≤ i ∧ (∀ b ∈ bushes, b.length ≤ 20) ∧ (0 < i → 1 ≤ bushes.length) := by
      rcases hst with ⟨h0, rfl, rfl, rfl⟩ | ⟨r, o, hM⟩
      · simp; exact ar363 h0
      · obtain ⟨h1, h2, h3, h4⟩ := hM.len (by exact ar364 hi7)
        exact ⟨h1, h2, hM.deep, h4, fun _ => h3⟩
    obtain ⟨hB1, hB2, hB3, hB4, hB5⟩ := hB
    have hbl : (bushes.map D.str).length ≤ lim := by rw [List.length_map]; show _ ≤ 2 ^ 20; exact ar365 hB2
    have hbl' : bushes.length ≤ lim := by show _ ≤ 2 ^ 20; exact ar365 hB2
    clear s0 s1 s2 s3 s4 s5 s6 s7 s8
    apply z_x
    apply z_if (c := ((i : Int) == 0) || ((((x % 6 : Nat) : Int) == 0) && (((bushes.map D.str).length : Int) == 1)))
    · apply y_b_bool
      apply y_bb_or
      · walk_at "se"
      · intro _
        apply y_bb_1
        apply y_b_bool
        apply y_bb_and
        · apply y_b_cmp (by rfl)
          · apply y_bin
            · walk_at "se"
            · walk_at "se"
            · exact o_mod 6 (by rfl)
          · walk_at "se"
          · constructor
        · intro _
          apply y_bb_1
          apply y_b_cmp (by rfl)
          · apply y_call1 (by rfl)
            · walk_at "se"
            · exact o_lenL hbl
          · walk_at "se"
          · constructor
    · intro hc
      have hy4 : y % 4 < 4 := Nat.mod_lt _ (by decide)
      apply z_mid (fun ρ' => ∃ mail' bushes', Sim ρ' (shM1 script mail' bushes' depth i x y v) ["dressed", "bare"] ∧ mail'.length ≤ 200 ∧ bushes'.length ≤ 2 ∧ ∃ r o, MState (i + 1) (mail' ++ (startL v).getD (y % 4) []) (bushes' ++ [startB.getD (y % 4) []]) 0 r o)
      · apply z_if (c := decide ((0 : Int) < i))
        · walk_at "se"
        · intro hi
          have hi : 0 < i := by have := of_decide_eq_true hi; exact ar366 this
          have hb1 := hB5 hi
          have he3 : y / 162 % 3 < eols.length := Nat.mod_lt _ (by decide)
          have hel : (eols.getD (y / 162 % 3) []).length ≤ 2 := by
            have he3 : y / 162 % 3 < 3 := he3
            generalize y / 162 % 3 = e at he3
            match e, he3 with
            | 0, _ | 1, _ | 2, _ => simp [eols]
          have hg0 : (bushes.getD 0 []).length ≤ 20 := by
            rw [List.getD_eq_getElem?_getD, List.getElem?_eq_getElem (by exact ar367 hb1)]
            exact hB4 _ (List.getElem_mem _)
          apply s_as (d := .str (mail ++ List.replicate depth 41 ++ eols.getD (y / 162 % 3) [])) s9 ["dressed", "bare"] (by rfl) (by rfl)
          · apply y_bin
            · apply y_bin
              · walk_at "se"
              · apply y_bin
                · walk_at "se"
                · walk_at "se"
                · exact o_rep (by exact ar368 hi7 hB3)
              · exact o_cat (by rw [List.length_replicate]; show _ ≤ 2 ^ 20; exact ar369 hi7 hB1 hB3)
            · apply y_sub (by rfl)
              · walk_at "se"
              · apply y_bin
                · apply y_bin
                  · walk_at "se"
                  · walk_at "se"
                  · exact o_div 162 (by rfl) (by decide)
                · walk_at "se"
                · exact o_mod 3 (by rfl)
              · exact o_pick (l := eols) he3 (by exact ar370) (by decide)
            · exact o_cat (by rw [List.length_append, List.length_replicate]; show _ ≤ 2 ^ 20; exact ar371 hi7 hB1 hB3 hel)
          · rfl
          · rfl
          intro ρa sa
          apply s_setl (j' := 0) (d := .str (bushes.getD 0 [] ++ List.replicate depth 41)) sa ["dressed", "bare"] (by rfl) (by rfl) (by rfl)
          · apply y_bin
            · apply y_sub (by rfl)
              · walk_at "se"
              · walk_at "se"
              · exact o_pick (l := bushes) (i := 0) (by exact ar367 hb1) (by exact ar372) hbl'
            · apply y_bin
              · walk_at "se"
              · walk_at "se"
              · exact o_rep (by exact ar368 hi7 hB3)
            · exact o_cat (by rw [List.length_replicate]; show _ ≤ 2 ^ 20; exact ar373 hi7 hB3 hg0)
          · rfl
          · exact Sim.get (by assumption) (by rfl) (by rfl)
          · walk_at "se"
          · rfl
          · rw [List.length_map]; exact ar367 hb1
          · exact .inl ⟨by decide, rfl⟩
          intro ρb sb
          apply z_0
          rw [set_str] at sb
          have hx0 : x % 6 = 0 ∧ bushes.length = 1 := by
            have hni : ¬ (i : Int) = 0 := by exact ar374 hi
            simp only [Bool.or_eq_true, Bool.and_eq_true, beq_iff_eq, hni, false_or, List.length_map] at hc
            exact ar375 hc
          rcases hst with ⟨h0, _⟩ | ⟨r, o, hM⟩
          · exact ar376 hi h0
          · exact ⟨rfl, _, _, sb, by rw [List.length_append, List.length_append, List.length_replicate]; exact ar377 hi7 hB1 hB3 hel, by rw [List.length_set]; exact ar378 hx0, hM.row (by exact ar364 hi7) hx0.2 hy4 hv he3⟩
        · intro hi
          have hi : i = 0 := by have := of_decide_eq_false hi; exact ar379 this
          apply z_0
          rcases hst with ⟨h0, rfl, rfl, rfl⟩ | ⟨r, o, hM⟩
          · subst hi
            exact ⟨rfl, _, _, s9, by simp, by simp, _, _, MState.first hy4 hv⟩
          · exfalso
            cases o with
            | none => have := hM.one rfl; exact ar380 hi this
            | some p => have := hM.two p.1 p.2 rfl; exact ar381 hi this
      rintro ρa ⟨mail', bushes', sa, hm', hb', r, o, hM⟩
      clear s9
      apply s_as (d := .int ((0 : Nat) : Int)) sa ["dressed", "bare"] (by rfl) (by rfl)
      · walk_at "se"
      · rfl
      · rfl
      intro ρb sb
      clear sa
      have hs2 := (start_len (v := v) hy4).1
      apply s_as (d := .str (mail' ++ (startL v).getD (y % 4) [])) sb ["dressed", "bare"] (by rfl) (by rfl)
      · apply y_bin
        · walk_at "se"
        · apply y_sub (by rfl)
          · walk_at "se"
          · apply y_bin
            · walk_at "se"
            · walk_at "se"
            · exact o_mod 4 (by rfl)
          · exact o_pick (l := startL v) hy4 (by exact ar382) (Nat.le_of_ble_eq_true rfl)
        · exact o_cat (by show _ ≤ 2 ^ 20; exact ar383 hm' hs2)
      · rfl
      · rfl
      intro ρc sd
      clear sb
      apply s_app (d := .str (startB.getD (y % 4) [])) sd (by rfl) (by rfl) (by rfl)
      · exact Sim.get (by assumption) (by rfl) (by rfl)
      · apply y_sub (by rfl)
        · walk_at "se"
        · apply y_bin
          · walk_at "se"
          · walk_at "se"
          · exact o_mod 4 (by rfl)
        · exact o_pick (l := startB) hy4 (by exact ar382) (by decide)
      · rfl
      · rw [List.length_map]; show _ < 2 ^ 20; exact ar384 hb'
      intro ρe se
      clear sd
      apply z_x
      apply z_cont
      refine ⟨mail' ++ (startL v).getD (y % 4) [], bushes' ++ [startB.getD (y % 4) []], 0, ?_, .inr ⟨r, o, hM⟩⟩
      have e1 : bushes'.map D.str ++ [D.str (startB.getD (y % 4) [])] = (bushes' ++ [startB.getD (y % 4) []]).map D.str := by simp
      rw [e1] at se
      exact shM1_drop se
    · intro hc
      have hi0 : i ≠ 0 := by
        rintro rfl
        simp at hc
      obtain ⟨r, o, hM⟩ := hst.resolve_left (fun h => hi0 h.1)
      have hb1 := hB5 (by exact ar385 hi0)
      clear hc
      have hl13 : y % 13 < loopsL.length := by have : loopsL.length = 13 := rfl; exact ar386 this
      have hlm : loopsL.getD (y % 13) 0 ∈ loopsL := getD_all (p := (· ∈ loopsL)) (fun c h => h) hl13
      have hl2 : loopsL.getD (y % 13) 0 < 1114112 := getD_all (p := (· < 1114112)) (by decide) hl13
      apply z_0
      show Xs _ _ _ _ _ _ _
      apply s_as2 (d := .str [loopsL.getD (y % 13) 0]) s9 ["bare"] (by rfl) (by rfl)
      · apply y_call1 (by rfl)
        · apply y_sub (by rfl)
          · walk_at "se"
          · apply y_bin
            · walk_at "se"
            · walk_at "se"
            · exact o_mod 13 (by rfl)
          · exact o_pickI hl13 (by exact ar387) (by decide)
        · exact o_chr hl2
      · rfl
      · exact (by rfl : (["bare"] : List Str).all (fun z => z == ("bare" : Str) || ([] : List Str).contains z) = true)
      intro ρa sa
      replace sa : Sim ρa (shM2 script mail bushes depth i x y v [loopsL.getD (y % 13) 0] [loopsL.getD (y % 13) 0]) [] := sa
      clear s9
      generalize loopsL.getD (y % 13) 0 = lo at sa hlm hl2
      apply z_mid (fun ρ' => ∃ (t : Tok) (d : Nat), t.good ∧ d ≤ depth + 1 ∧ Sim ρ' (shM2 script mail bushes d i x y v t.text t.bare) [])
      · apply z_if (c := ((x % 6 : Nat) : Int) == 1 || ((x % 6 : Nat) : Int) == 2)
        · apply y_b_bool
          apply y_bb_or
          · apply y_b_cmp (by rfl)
            · apply y_bin
              · walk_at "se"
              · walk_at "se"
              · exact o_mod 6 (by rfl)
            · walk_at "se"
            · constructor
          · intro _
            apply y_bb_1
            apply y_b_cmp (by rfl)
            · apply y_bin
              · walk_at "se"
              · walk_at "se"
              · exact o_mod 6 (by rfl)
            · walk_at "se"
            · constructor
        · intro _
          apply s_as2 (d := .str [40]) sa [] (by rfl) (by rfl)
          · walk_at "se"
          · rfl
          · exact (by rfl : ([] : List Str).all (fun z => z == ("bare" : Str) || ([] : List Str).contains z) = true)
          intro ρb sb
          apply s_as (d := .int ((depth + 1 : Nat) : Int)) sb [] (by rfl) (by rfl)
          · walk_at "se"
          · rfl
          · rfl
          intro ρc sd
          apply z_0
          exact ⟨rfl, .sgn 40, depth + 1, .inl rfl, by exact ar388, sd⟩
        · intro _
          apply z_x
          apply z_if (c := ((x % 6 : Nat) : Int) == 3 && decide ((0 : Int) < depth))
          · apply y_b_bool
            apply y_bb_and
            · apply y_b_cmp (by rfl)
              · apply y_bin
                · walk_at "se"
                · walk_at "se"
                · exact o_mod 6 (by rfl)
              · walk_at "se"
              · constructor
            · intro _
              apply y_bb_1
              walk_at "se"
          · intro hc
            have hd0 : 0 < depth := by
              rw [Bool.and_eq_true] at hc
              have := of_decide_eq_true hc.2; exact ar366 this
            apply s_as2 (d := .str [41]) sa [] (by rfl) (by rfl)
            · walk_at "se"
            · rfl
            · exact (by rfl : ([] : List Str).all (fun z => z == ("bare" : Str) || ([] : List Str).contains z) = true)
            intro ρb sb
            apply s_as (d := .int ((depth - 1 : Nat) : Int)) sb [] (by rfl) (by rfl)
            · apply y_bin
              · walk_at "se"
              · walk_at "se"
              · exact o_sub (by exact ar389 hd0)
            · rfl
            · rfl
            intro ρc sd
            apply z_0
            apply z_0
            exact ⟨rfl, .sgn 41, depth - 1, .inr (.inl rfl), by exact ar390, sd⟩
          · intro _
            apply z_x
            apply z_if (c := ((x % 6 : Nat) : Int) == 5)
            · apply y_b_cmp (by rfl)
              · apply y_bin
                · walk_at "se"
                · walk_at "se"
                · exact o_mod 6 (by rfl)
              · walk_at "se"
              · constructor
            · intro _
              have hy6 : y % 6 < 6 := Nat.mod_lt _ (by decide)
              apply s_as (d := .str ((muteL v).getD (y % 6) [])) sa [] (by rfl) (by rfl)
              · apply y_sub (by rfl)
                · apply y_list
                  · apply y_s1
                    · walk_at "se"
                    · apply y_s1
                      · walk_at "se"
                      · apply y_s1
                        · walk_at "se"
                        · apply y_s1
                          · walk_at "se"
                          · apply y_s1
                            · walk_at "se"
                            · apply y_s1
                              · apply y_call1 (by rfl)
                                · walk_at "se"
                                · exact o_chr (c := 255) (by decide)
                              · walk_at "se"
                  · rfl
                  · exact Nat.le_of_ble_eq_true rfl
                · apply y_bin
                  · walk_at "se"
                  · walk_at "se"
                  · exact o_mod 6 (by rfl)
                · exact o_pick (l := muteL v) hy6 (by exact ar391) (Nat.le_of_ble_eq_true rfl)
              · rfl
              · rfl
              intro ρb sb
              apply s_as (d := .str []) sb [] (by rfl) (by rfl)
              · walk_at "se"
              · rfl
              · rfl
              intro ρc sd
              apply z_0
              apply z_0
              apply z_0
              exact ⟨rfl, .mute (y % 6) v, depth, ⟨hy6, hv⟩, by exact ar129, sd⟩
            · intro _
              apply z_0
              apply z_0
              apply z_0
              exact ⟨rfl, .sgn lo, depth, .inr (.inr hlm), by exact ar129, sa⟩
      clear sa
      rintro ρb ⟨t, d, ht, hd, sb⟩
      have htl := Tok.text_len ht
      have hbl1 := Tok.bare_len t
      have hgl : (bushes.getD (bushes.length - 1) []).length ≤ 20 := by
        rw [List.getD_eq_getElem?_getD, List.getElem?_eq_getElem (by exact ar392 hb1)]
        exact hB4 _ (List.getElem_mem _)
      apply s_as (d := .str (mail ++ t.text)) sb [] (by rfl) (by rfl)
      · apply y_bin
        · walk_at "se"
        · walk_at "se"
        · exact o_cat (by show _ ≤ 2 ^ 20; exact ar393 hB1 htl)
      · rfl
      · rfl
      intro ρc sd
      clear sb
      apply s_setl (j' := bushes.length - 1) (d := .str (bushes.getD (bushes.length - 1) [] ++ t.bare)) sd [] (by rfl) (by rfl) (by rfl)
      · apply y_bin
        · apply y_sub (by rfl)
          · walk_at "se"
          · walk_at "se"
          · exact o_pickLast hb1 hbl'
        · walk_at "se"
        · exact o_cat (by show _ ≤ 2 ^ 20; exact ar394 hbl1 hgl)
      · rfl
      · exact Sim.get (by assumption) (by rfl) (by rfl)
      · walk_at "se"
      · rfl
      · rw [List.length_map]; exact ar392 hb1
      · exact .inr ⟨by decide, by rw [List.length_map]; exact ar395 hb1⟩
      intro ρe se
      apply z_0
      rw [set_str] at se
      obtain ⟨r', o', hM'⟩ := hM.item ht hd
      exact ⟨_, _, d, shM2_drop se, .inr ⟨r', o', hM'⟩⟩
  · intro f ρ'' hh
    obtain ⟨rfl, mail, bushes, depth, s5, hst⟩ := hh.resolve_right (fun h => h)
    rw [List.length_range] at hst
    obtain ⟨r, o, hM⟩ := hst.resolve_left (fun h => by cases h.1)
    obtain ⟨hB1, hB2, hb1, hB4⟩ := hM.len (by exact ar396)
    have hB3 := hM.deep
    have hbl : (bushes.map D.str).length ≤ lim := by rw [List.length_map]; show _ ≤ 2 ^ 20; exact ar365 hB2
    have hbl' : bushes.length ≤ lim := by show _ ≤ 2 ^ 20; exact ar365 hB2
    have hgl : (bushes.getD (bushes.length - 1) []).length ≤ 20 := by
      rw [List.getD_eq_getElem?_getD, List.getElem?_eq_getElem (by exact ar392 hb1)]
      exact hB4 _ (List.getElem_mem _)
    clear s0 s1 s2 s3 s4
    show Xs _ _ _ _ _ _ _
    apply s_setl (j' := bushes.length - 1) (d := .str (bushes.getD (bushes.length - 1) [] ++ List.replicate depth 41)) s5 ["k", "x", "y", "void", "dressed", "bare"] (by rfl) (by rfl) (by rfl)
    · apply y_bin
      · apply y_sub (by rfl)
        · walk_at "se"
        · walk_at "se"
        · exact o_pickLast hb1 hbl'
      · apply y_bin
        · walk_at "se"
        · walk_at "se"
        · exact o_rep (by exact ar397 hB3)
      · exact o_cat (by rw [List.length_replicate]; show _ ≤ 2 ^ 20; exact ar398 hB3 hgl)
    · rfl
    · exact Sim.get (by assumption) (by rfl) (by rfl)
    · walk_at "se"
    · rfl
    · rw [List.length_map]; exact ar392 hb1
    · exact .inr ⟨by decide, by rw [List.length_map]; exact ar395 hb1⟩
    intro ρa sa
    clear s5
    rw [set_str] at sa
    obtain ⟨r', o', hM'⟩ := hM.done
    apply z_x
    apply z_ret
    · apply y_tup
      · apply y_t1
        · apply y_bin
          · walk_at "se"
          · apply y_bin
            · walk_at "se"
            · walk_at "se"
            · exact o_rep (by exact ar397 hB3)
          · exact o_cat (by rw [List.length_replicate]; show _ ≤ 2 ^ 20; exact ar399 hB1 hB3)
        · apply y_t1
          · walk_at "se"
          · walk_at "se"
          · decide
        · decide
      · exact Nat.le_of_ble_eq_true rfl
    · rfl
    · exact ⟨_, rfl, _, _, r', o', hM', rfl⟩
end Mine
end
section
open PySem PySem.W
set_option maxRecDepth 100000
set_option maxHeartbeats 1000000
namespace Mine
noncomputable abbrev Pc := List (Nat × Nat)
structure Spans (S : Pc) : Prop where
  sorted : S.Pairwise (fun a b => a.1 < b.1)
  pos : ∀ s ∈ S, s.1 < s.2
  nest : S.Pairwise (fun a b => b.1 < a.2 → b.2 ≤ a.2)
noncomputable def sizeAt (S : Pc) (p : Nat × Nat) : Nat := (S.filter fun s => decide (p.1 ≤ s.1) && decide (s.1 < p.2)).length
/-- who bears a piece, told by bits -/
noncomputable def gS (p : Nat) : Pc → Nat
  | [] => 0
  | s :: r => (if s.1 < p ∧ p < s.2 then 1 else 0) + 2 * gS p r
theorem gS_bit (p : Nat) : ∀ (S : Pc) (a : Nat), (gS p S).testBit a = decide (a < S.length ∧ (S.getD a (0, 0)).1 < p ∧ p < (S.getD a (0, 0)).2)
  | [], a => by simp [gS]
  | s :: r, 0 => by
    rw [gS, Nat.testBit_zero]
    have : ((if s.1 < p ∧ p < s.2 then 1 else 0) + 2 * gS p r) % 2 = (if s.1 < p ∧ p < s.2 then 1 else 0) := by split <;> (first | exact ar83 | exact ar84)
    rw [this]
    by_cases h : s.1 < p ∧ p < s.2
    · simp [h]
    · rw [if_neg h, Bool.eq_iff_iff]; simp; exact ar85 h
  | s :: r, a + 1 => by
    have ih := gS_bit p r a
    rw [gS, Nat.testBit_succ]
    have : ((if s.1 < p ∧ p < s.2 then 1 else 0) + 2 * gS p r) / 2 = gS p r := by split <;> (first | exact ar86 | exact ar87)
    rw [this, ih]
    simp
theorem below_count : ∀ (post : Pc) (e j : Nat), post.Pairwise (fun a b => a.1 < b.1) → j < post.length → ((post.getD j (0, 0)).1 < e ↔ j < (post.filter fun s => decide (s.1 < e)).length)
  | [], e, j, _, h => by simp at h
  | y :: r, e, j, hs, h => by
    rw [List.pairwise_cons] at hs
    by_cases hy : y.1 < e
    · rw [List.filter_cons_of_pos (by simpa using hy)]
      cases j with
      | zero => simp [hy]
      | succ j =>
        have := below_count r e j hs.2 (by simpa using h)
        simpa using this
    · have h0 : (r.filter fun s => decide (s.1 < e)) = [] := by
        rw [List.filter_eq_nil_iff]
        intro s hs'
        have := hs.1 s hs'
        simp; exact ar88 hy this
      rw [List.filter_cons_of_neg (by simpa using hy), h0]
      cases j with
      | zero => simp; exact ar89 hy
      | succ j =>
        have hj : j < r.length := by simpa using h
        have h1 := hs.1 (r.getD j (0, 0)) (by rw [List.getD_eq_getElem?_getD, List.getElem?_eq_getElem hj]; exact List.getElem_mem hj)
        simp at h1 ⊢; exact ar88 hy h1
theorem split_at (S : Pc) (k : Nat) (hk : k < S.length) : S = S.take k ++ S.getD k (0, 0) :: S.drop (k + 1) := by
  rw [List.getD_eq_getElem?_getD, List.getElem?_eq_getElem hk, Option.getD_some, ← List.drop_eq_getElem_cons hk, List.take_append_drop]
theorem sizeAt_split {S : Pc} (hS : Spans S) {k : Nat} (hk : k < S.length) : sizeAt S (S.getD k (0, 0)) = 1 + ((S.drop (k + 1)).filter fun s => decide (s.1 < (S.getD k (0, 0)).2)).length := by
  have hsp := split_at S k hk
  have hs := hS.sorted
  have hp := hS.pos (S.getD k (0, 0)) (by rw [List.getD_eq_getElem?_getD, List.getElem?_eq_getElem hk]; exact List.getElem_mem hk)
  generalize S.getD k (0, 0) = p at *
  generalize S.take k = pre at *
  generalize S.drop (k + 1) = post at *
  rw [hsp, List.pairwise_append, List.pairwise_cons] at hs
  unfold sizeAt
  conv => lhs; rw [hsp]
  rw [List.filter_append, List.length_append]
  have h0 : (pre.filter fun s => decide (p.1 ≤ s.1) && decide (s.1 < p.2)) = [] := by
    rw [List.filter_eq_nil_iff]
    intro s h
    have := hs.2.2 s h p (by simp)
    simp; exact ar90 this
  rw [h0, List.filter_cons_of_pos (by simp; exact ar91 hp)]
  have h1 : (post.filter fun s => decide (p.1 ≤ s.1) && decide (s.1 < p.2)) = post.filter fun s => decide (s.1 < p.2) := by
    apply List.filter_congr
    intro s h
    have := hs.2.1.1 s h
    have : decide (p.1 ≤ s.1) = true := decide_eq_true (by exact ar92 this)
    rw [this, Bool.true_and]
  rw [h1, List.length_cons, List.length_nil]; exact ar93
theorem getD_drop (S : Pc) (k j : Nat) : (S.drop k).getD j (0, 0) = S.getD (k + j) (0, 0) := by
  rw [List.getD_eq_getElem?_getD, List.getD_eq_getElem?_getD, List.getElem?_drop]
theorem inside {S : Pc} (hS : Spans S) {k j : Nat} (hk : k < j) (hj : j < S.length) : ((S.getD j (0, 0)).1 < (S.getD k (0, 0)).2 ↔ j < k + sizeAt S (S.getD k (0, 0))) := by
  rw [sizeAt_split hS (by exact ar94 hk hj)]
  have h1 := below_count (S.drop (k + 1)) (S.getD k (0, 0)).2 (j - (k + 1)) (hS.sorted.sublist (List.drop_sublist ..)) (by rw [List.length_drop]; exact ar95 hk hj)
  rw [getD_drop, show k + 1 + (j - (k + 1)) = j by exact ar96 hk] at h1
  rw [h1]
  exact ar97 hk
theorem getD_pair {S : Pc} {R : Nat × Nat → Nat × Nat → Prop} (h : S.Pairwise R) {i j : Nat} (hi : i < j) (hj : j < S.length) : R (S.getD i (0, 0)) (S.getD j (0, 0)) := by
  rw [List.getD_eq_getElem?_getD, List.getElem?_eq_getElem (by exact ar94 hi hj), List.getD_eq_getElem?_getD, List.getElem?_eq_getElem hj]
  exact List.pairwise_iff_getElem.mp h i j (by exact ar94 hi hj) hj hi
noncomputable def sizesF (S : Pc) : List Nat := S.map (sizeAt S)
noncomputable def belowF (S : Pc) : List Nat := S.map fun p => gS p.1 S
theorem sizesF_at {S : Pc} {k : Nat} (hk : k < S.length) : (sizesF S).getD k 0 = sizeAt S (S.getD k (0, 0)) := by
  rw [sizesF, List.getD_eq_getElem?_getD, List.getElem?_map, List.getElem?_eq_getElem hk, List.getD_eq_getElem?_getD, List.getElem?_eq_getElem hk]; rfl
theorem belowF_at {S : Pc} {k : Nat} (hk : k < S.length) : (belowF S).getD k 0 = gS (S.getD k (0, 0)).1 S := by
  rw [belowF, List.getD_eq_getElem?_getD, List.getElem?_map, List.getElem?_eq_getElem hk, List.getD_eq_getElem?_getD, List.getElem?_eq_getElem hk]; rfl
theorem spans_bush {S : Pc} (hS : Spans S) : Bush S.length (fun k => (belowF S).getD k 0) (fun k => (sizesF S).getD k 0) := by
  have hpos : ∀ k, k < S.length → 0 < sizeAt S (S.getD k (0, 0)) := fun k hk => by rw [sizeAt_split hS hk]; exact ar98
  have hfit : ∀ k, k < S.length → k + sizeAt S (S.getD k (0, 0)) ≤ S.length := fun k hk => by
    rw [sizeAt_split hS hk]
    have := List.length_filter_le (fun s => decide (s.1 < (S.getD k (0, 0)).2)) (S.drop (k + 1))
    rw [List.length_drop] at this
    exact ar99 hk this
  constructor
  · intro k hk; rw [sizesF_at hk]; exact hpos k hk
  · intro k hk; rw [sizesF_at hk]; exact hfit k hk
  · intro a k h1 h2 h3
    try dsimp only at h2 ⊢
    rw [sizesF_at (k := a) (by exact ar94 h1 h3)] at h2 ⊢
    rw [sizesF_at (k := k) h3]
    have ha := (inside hS h1 h3).mpr h2
    have hn := getD_pair hS.nest h1 h3 ha
    have hp := hpos k h3
    have hf := hfit k h3
    by_cases h : sizeAt S (S.getD k (0, 0)) = 1
    · exact ar100 h2 h
    · have hj : k < k + sizeAt S (S.getD k (0, 0)) - 1 := by exact ar101 hp h
      have h4 := (inside hS hj (by exact ar102 hp hf)).mpr (by exact ar103 hp)
      have h5 := (inside hS (show a < k + sizeAt S (S.getD k (0, 0)) - 1 by exact ar104 h1 hj) (by exact ar102 hp hf)).mp (by exact ar105 hn h4)
      exact ar106 h5
  · intro k hk a
    try dsimp only
    rw [belowF_at hk, gS_bit, Bool.eq_iff_iff, decide_eq_true_eq, decide_eq_true_eq]
    constructor
    · rintro ⟨h1, h2, h3⟩
      have hak : a < k := by
        rcases Nat.lt_trichotomy a k with h | h | h
        · exact h
        · subst h; exact ar107 h2
        · have := getD_pair hS.sorted h h1; exact ar108 h2 this
      rw [sizesF_at h1]
      exact ⟨hak, (inside hS hak hk).mp h3⟩
    · rintro ⟨h1, h2⟩
      rw [sizesF_at (by exact ar109 hk h1)] at h2
      exact ⟨by exact ar109 hk h1, getD_pair hS.sorted h1 hk, (inside hS h1 hk).mpr h2⟩
/-- two rows side by side -/
theorem bush_app {n1 n2 : Nat} {b1 b2 h1 h2 : List Nat} (l1 : b1.length = n1) (l1' : h1.length = n1) (l2 : b2.length = n2) (l2' : h2.length = n2) (H1 : Bush n1 (fun k => b1.getD k 0) (fun k => h1.getD k 0)) (H2 : Bush n2 (fun k => b2.getD k 0) (fun k => h2.getD k 0)) :
    Bush (n1 + n2) (fun k => (b1 ++ b2.map (2 ^ n1 * ·)).getD k 0) (fun k => (h1 ++ h2).getD k 0) := by
  have g1 : ∀ k, k < n1 → (h1 ++ h2).getD k 0 = h1.getD k 0 := fun k hk => by
    rw [List.getD_eq_getElem?_getD, List.getElem?_append_left (by exact ar110 l1' hk), List.getD_eq_getElem?_getD]
  have g2 : ∀ k, n1 ≤ k → (h1 ++ h2).getD k 0 = h2.getD (k - n1) 0 := fun k hk => by
    rw [List.getD_eq_getElem?_getD, List.getElem?_append_right (by exact ar111 l1' hk), l1', List.getD_eq_getElem?_getD]
  have e1 : ∀ k, k < n1 → (b1 ++ b2.map (2 ^ n1 * ·)).getD k 0 = b1.getD k 0 := fun k hk => by
    rw [List.getD_eq_getElem?_getD, List.getElem?_append_left (by exact ar110 l1 hk), List.getD_eq_getElem?_getD]
  have e2 : ∀ k, n1 ≤ k → k < n1 + n2 → (b1 ++ b2.map (2 ^ n1 * ·)).getD k 0 = 2 ^ n1 * b2.getD (k - n1) 0 := fun k hk hk2 => by
    rw [List.getD_eq_getElem?_getD, List.getElem?_append_right (by exact ar111 l1 hk), l1, List.getElem?_map, List.getElem?_eq_getElem (by exact ar112 l2 hk hk2), List.getD_eq_getElem?_getD, List.getElem?_eq_getElem (by exact ar112 l2 hk hk2)]; rfl
  have p1 := H1.pos; have f1 := H1.fits; have m1 := H1.nest; have a1 := H1.anc
  have p2 := H2.pos; have f2 := H2.fits; have m2 := H2.nest; have a2 := H2.anc
  try dsimp only at p1 f1 m1 a1 p2 f2 m2 a2
  constructor
  · intro k hk
    try dsimp only
    by_cases h : k < n1
    · rw [g1 k h]; exact p1 k h
    · rw [g2 k (by exact ar89 h)]; exact p2 _ (by exact ar113 hk h)
  · intro k hk
    try dsimp only
    by_cases h : k < n1
    · rw [g1 k h]; have := f1 k h; exact ar19 this
    · rw [g2 k (by exact ar89 h)]; have := f2 (k - n1) (by exact ar113 hk h); exact ar114 this
  · intro a k hak hk hkn
    try dsimp only at hk ⊢
    by_cases ha : a < n1
    · rw [g1 a ha] at hk ⊢
      have := f1 a ha
      rw [g1 k (by exact ar115 hk this)]
      exact m1 a k hak hk (by exact ar115 hk this)
    · rw [g2 a (by exact ar89 ha)] at hk ⊢
      rw [g2 k (by exact ar116 hak ha)]
      have := m2 (a - n1) (k - n1) (by exact ar117 hak ha) (by exact ar118 hak hk) (by exact ar119 hak hkn ha)
      exact ar120 ha this
  · intro k hk a
    try dsimp only
    by_cases h : k < n1
    · rw [e1 k h, a1 k h a, Bool.eq_iff_iff, decide_eq_true_eq, decide_eq_true_eq]
      by_cases ha : a < n1
      · rw [g1 a ha]
      · exact ar121 h ha
    · rw [e2 k (by exact ar89 h) hk, Nat.testBit_two_pow_mul, a2 (k - n1) (by exact ar113 hk h), Bool.eq_iff_iff]
      simp only [Bool.and_eq_true, decide_eq_true_eq]
      by_cases ha : a < n1
      · rw [g1 a ha]
        have := f1 a ha
        exact ar122 h ha this
      · rw [g2 a (by exact ar89 ha)]
        exact ar123 ha
end Mine
end
section
open PySem PySem.W
set_option maxRecDepth 100000
set_option maxHeartbeats 1000000
namespace Mine
open PySem.StrLaws in
theorem at_crlf (l : List Nat) (c : Nat) : At ⟨l.toArray⟩ ⟨#[13, 10]⟩ (⟨l.toArray⟩ : Str).length c ↔ l[c]? = some 13 ∧ l[c + 1]? = some 10 := by
  have hlen : (⟨l.toArray⟩ : Str).length = l.length := rfl
  have hlen2 : (⟨#[13, 10]⟩ : Str).length = 2 := rfl
  unfold At
  rw [subAt_eq, hlen, hlen2, beq_iff_eq]
  show c + 2 ≤ l.length ∧ (l.drop c).take 2 = [13, 10] ↔ _
  constructor
  · rintro ⟨h1, h2⟩
    have e0 := congrArg (fun z => z[0]?) h2
    have e1 := congrArg (fun z => z[1]?) h2
    simp [List.getElem?_take] at e0 e1
    exact ⟨e0, e1⟩
  · rintro ⟨h1, h2⟩
    obtain ⟨h3, h4⟩ := List.getElem?_eq_some_iff.mp h1
    obtain ⟨h5, h6⟩ := List.getElem?_eq_some_iff.mp h2
    refine ⟨by exact ar124 h5, ?_⟩
    rw [List.drop_eq_getElem_cons h3, List.drop_eq_getElem_cons h5, h4, h6]
    rfl
theorem kind_crlf (l : List Nat) : ¬ Builtin.Str.strKind (⟨l.toArray⟩ : Str) < Builtin.Str.strKind (⟨#[13, 10]⟩ : Str) := by
  have : Builtin.Str.strKind (⟨#[13, 10]⟩ : Str) = 1 := by decide +kernel
  rw [this]
  unfold Builtin.Str.strKind
  split
  · exact ar125
  · split <;> (first | exact ar126 | exact ar127)
open PySem.StrLaws in
theorem split_one {l : List Nat} (h : 13 ∉ l) : (Txt.split ⟨l.toArray⟩ ⟨#[13, 10]⟩).map (fun p => p.cps.toList) = [l] := by
  obtain ⟨f, hG, hn⟩ := occ_tight ⟨l.toArray⟩ ⟨#[13, 10]⟩ (by decide)
  have hat : ∀ c, ¬ At ⟨l.toArray⟩ ⟨#[13, 10]⟩ (⟨l.toArray⟩ : Str).length c := fun c hc => h (List.mem_of_getElem? ((at_crlf l c).mp hc).1)
  unfold Txt.split
  split
  · simp
  · split
    · simp
    · rename_i he
      exfalso
      cases ho : Builtin.Str.occurrences ⟨l.toArray⟩ ⟨#[13, 10]⟩ 0 (⟨l.toArray⟩ : Str).length ((⟨l.toArray⟩ : Str).length + 1) with
      | nil => rw [ho] at he; exact he rfl
      | cons c r => rw [ho] at hG; exact hat c hG.2.1
open PySem.StrLaws in
theorem split_two {a b : List Nat} (ha : 13 ∉ a) (hb : 13 ∉ b) : (Txt.split ⟨(a ++ 13 :: 10 :: b).toArray⟩ ⟨#[13, 10]⟩).map (fun p => p.cps.toList) = [a, b] := by
  generalize hl : a ++ 13 :: 10 :: b = l
  obtain ⟨f, hG, hn⟩ := occ_tight ⟨l.toArray⟩ ⟨#[13, 10]⟩ (by decide)
  have hat : ∀ c, At ⟨l.toArray⟩ ⟨#[13, 10]⟩ (⟨l.toArray⟩ : Str).length c ↔ c = a.length := by
    intro c
    rw [at_crlf, ← hl]
    constructor
    · rintro ⟨h1, h2⟩
      rcases Nat.lt_trichotomy c a.length with h | h | h
      · rw [List.getElem?_append_left h] at h1
        exact absurd (List.mem_of_getElem? h1) ha
      · exact h
      · rw [List.getElem?_append_right (by exact ar92 h)] at h1
        obtain ⟨d, hd⟩ : ∃ d, c - a.length = d + 1 := ⟨c - a.length - 1, by exact ar128 h⟩
        rw [hd] at h1
        cases d with
        | zero => simp at h1
        | succ d =>
          simp only [List.getElem?_cons_succ] at h1
          exact absurd (List.mem_of_getElem? h1) hb
    · rintro rfl
      constructor
      · rw [List.getElem?_append_right (Nat.le_refl _)]; simp
      · rw [List.getElem?_append_right (by exact ar129)]; simp
  have hlen : (⟨l.toArray⟩ : Str).length = l.length := rfl
  have hll : l.length = a.length + 2 + b.length := by rw [← hl]; simp; exact ar130
  have hocc : Builtin.Str.occurrences ⟨l.toArray⟩ ⟨#[13, 10]⟩ 0 (⟨l.toArray⟩ : Str).length ((⟨l.toArray⟩ : Str).length + 1) = [a.length] := by
    cases ho : Builtin.Str.occurrences ⟨l.toArray⟩ ⟨#[13, 10]⟩ 0 (⟨l.toArray⟩ : Str).length ((⟨l.toArray⟩ : Str).length + 1) with
    | nil =>
      rw [ho] at hG
      have hf : f = 0 := hG
      subst hf
      exact absurd ((hat a.length).mpr rfl) (hn _ (Nat.zero_le _))
    | cons c r =>
      rw [ho] at hG
      have hc := (hat c).mp hG.2.1
      cases r with
      | nil => rw [hc]
      | cons c2 r2 =>
        have hG2 := hG.2.2.2
        have hc2 := (hat c2).mp hG2.2.1
        have h1 : c + (⟨#[13, 10]⟩ : Str).length ≤ c2 := hG2.1
        have h2 : (⟨#[13, 10]⟩ : Str).length = 2 := rfl
        exact (ar131 hc hc2 h1 h2).elim
  unfold Txt.split
  split
  · rename_i hc
    exfalso
    rw [Bool.or_eq_true, decide_eq_true_eq, decide_eq_true_eq] at hc
    rcases hc with hc | hc
    · have h2 : (⟨#[13, 10]⟩ : Str).length = 2 := rfl
      rw [hlen, h2] at hc; exact ar132 hll hc
    · exact kind_crlf l hc
  · rw [hocc]
    rw [if_neg (by simp), PySem.StrLaws.partsBetween_eq]
    simp only [partsFrom, List.map_cons, List.map_nil, PySem.StrLaws.strSub_toList]
    have h2 : (⟨#[13, 10]⟩ : Str).length = 2 := rfl
    rw [hlen, h2]
    rw [← hl]
    congr 1
    · simp
    · congr 1
      have : a ++ 13 :: 10 :: b = (a ++ [13, 10]) ++ b := by simp
      rw [this, List.drop_append_of_le_length (by simp), List.drop_of_length_le (by simp), List.nil_append]
      apply List.take_of_length_le
      simp; exact ar133
end Mine
end
section
open PySem PySem.W
set_option maxRecDepth 100000
set_option maxHeartbeats 1000000
namespace Mine
noncomputable def rel (c : Nat) : Prop := c = 40 ∨ c = 41 ∨ 256 ≤ c
noncomputable abbrev Up (v : Pc) : Prop := v.Pairwise (fun a b => a.1 < b.1)
theorem goP_mem (len : Nat) : ∀ (v : Pc) (y), y ∈ goP len v → ∃ c, (y.1, c) ∈ v
  | [], y, h => by cases h
  | (p, c) :: r, y, h => by
    rw [goP] at h
    rcases List.mem_append.mp h with h | h
    · refine ⟨c, ?_⟩
      split at h
      · rw [List.mem_singleton.mp h]; exact List.mem_cons_self ..
      · split at h
        · rw [List.mem_singleton.mp h]; exact List.mem_cons_self ..
        · cases h
    · obtain ⟨c', h'⟩ := goP_mem len r y h
      exact ⟨c', List.mem_cons_of_mem _ h'⟩
theorem matchEnd_le (len : Nat) : ∀ (v : Pc) (h : Nat), (∀ p ∈ v, p.1 < len) → matchEnd len h v ≤ len
  | [], h, _ => Nat.le_refl _
  | (e, c) :: r, h, hv => by
    have h0 := hv (e, c) (List.mem_cons_self ..)
    have ih := fun h' => matchEnd_le len r h' fun p hp => hv p (List.mem_cons_of_mem _ hp)
    rw [matchEnd]
    split
    · exact ih _
    · split
      · split
        · exact h0
        · exact ih _
      · exact ih _
theorem matchEnd_ge (len x : Nat) : ∀ (v : Pc) (h : Nat), x ≤ len → (∀ p ∈ v, x ≤ p.1) → x ≤ matchEnd len h v
  | [], h, hx, _ => hx
  | (e, c) :: r, h, hx, hv => by
    have h0 : x ≤ e := hv (e, c) (List.mem_cons_self ..)
    have ih := fun h' => matchEnd_ge len x r h' hx fun p hp => hv p (List.mem_cons_of_mem _ hp)
    rw [matchEnd]
    split
    · exact ih _
    · split
      · split
        · exact ar58 h0
        · exact ih _
      · exact ih _
theorem matchEnd_mono (len : Nat) : ∀ (v : Pc) (a b : Nat), 1 ≤ a → a ≤ b → Up v → (∀ p ∈ v, p.1 < len) → matchEnd len a v ≤ matchEnd len b v
  | [], a, b, _, _, _, _ => Nat.le_refl _
  | (e, c) :: r, a, b, ha, hab, hu, hv => by
    have h0 : e < len := hv (e, c) (List.mem_cons_self ..)
    replace hu := List.pairwise_cons.mp hu
    have hr := fun p hp => hv p (List.mem_cons_of_mem _ hp)
    have ih := fun a b h1 h2 => matchEnd_mono len r a b h1 h2 hu.2 hr
    rw [matchEnd, matchEnd]
    split
    · exact ih _ _ (by exact ar134) (by exact ar135 hab)
    · split
      · split
        · split
          · exact Nat.le_refl _
          · exact matchEnd_ge len (e + 1) r _ h0 fun p hp => hu.1 p hp
        · rw [if_neg (by exact ar136 ha hab (by assumption))]
          exact ih _ _ (by exact ar137 ha (by assumption)) (by exact ar138 hab)
      · exact ih _ _ ha hab
theorem goP_nest (len : Nat) : ∀ (v : Pc) (h : Nat), 1 ≤ h → Up v → (∀ p ∈ v, p.1 < len) → ∀ y ∈ goP len v, y.1 < matchEnd len h v → y.2 ≤ matchEnd len h v
  | [], h, _, _, _, y, hy, _ => by cases hy
  | (e, c) :: r, h, h1, hu, hv, y, hy, hlt => by
    have h0 : e < len := hv (e, c) (List.mem_cons_self ..)
    replace hu := List.pairwise_cons.mp hu
    have hr := fun p hp => hv p (List.mem_cons_of_mem _ hp)
    have ih := fun h' h1 => goP_nest len r h' h1 hu.2 hr y
    rw [goP] at hy
    rw [matchEnd] at hlt ⊢
    by_cases h40 : c = 40
    · rw [if_pos h40] at hy hlt ⊢
      rcases List.mem_append.mp hy with hy | hy
      · rw [List.mem_singleton.mp hy]
        exact matchEnd_mono len r 1 (h + 1) (Nat.le_refl _) (by exact ar134) hu.2 hr
      · exact ih _ (by exact ar134) hy hlt
    · by_cases h41 : c = 41
      · rw [if_neg h40, if_pos h41] at hlt ⊢
        rw [if_neg h40, if_neg (by exact ar139 h41), List.nil_append] at hy
        by_cases hh : h = 1
        · rw [if_pos hh] at hlt
          obtain ⟨c', hc'⟩ := goP_mem len r y hy
          have := hu.1 (y.1, c') hc'
          dsimp only at this
          exact ar140 hlt this
        · rw [if_neg hh] at hlt ⊢
          exact ih _ (by exact ar137 h1 hh) hy hlt
      · rw [if_neg h40, if_neg h41] at hlt ⊢
        rw [if_neg h40] at hy
        rcases List.mem_append.mp hy with hy | hy
        · split at hy
          · rw [List.mem_singleton.mp hy]
            exact matchEnd_ge len (e + 1) r _ h0 fun p hp => hu.1 p hp
          · cases hy
        · exact ih _ h1 hy hlt
noncomputable def cnt : Nat → List Nat → Nat
  | _, [] => 0
  | h, c :: r => if c = 40 then cnt (h + 1) r + 1 else if c = 41 then (if h = 1 then 0 else cnt (h - 1) r) else cnt h r + 1
theorem goP_cnt (len : Nat) : ∀ (v : Pc) (h : Nat), 1 ≤ h → Up v → (∀ p ∈ v, p.1 < len) → (∀ p ∈ v, rel p.2) → ((goP len v).filter fun s => decide (s.1 < matchEnd len h v)).length = cnt h (v.map (·.2))
  | [], h, _, _, _, _ => rfl
  | (e, c) :: r, h, h1, hu, hv, hrel => by
    have h0 : e < len := hv (e, c) (List.mem_cons_self ..)
    have hc : rel c := hrel (e, c) (List.mem_cons_self ..)
    replace hu := List.pairwise_cons.mp hu
    have hr := fun p hp => hv p (List.mem_cons_of_mem _ hp)
    have hrr := fun p hp => hrel p (List.mem_cons_of_mem _ hp)
    have ih := fun h' h1 => goP_cnt len r h' h1 hu.2 hr hrr
    have hge : ∀ h', e < matchEnd len h' r := fun h' => matchEnd_ge len (e + 1) r h' h0 fun p hp => hu.1 p hp
    rw [goP, matchEnd, List.map_cons, cnt]
    by_cases h40 : c = 40
    · rw [if_pos h40, if_pos h40, if_pos h40, List.singleton_append, List.filter_cons_of_pos (by simpa using hge (h + 1)), List.length_cons, ih _ (by exact ar134)]
    · by_cases h41 : c = 41
      · rw [if_neg h40, if_neg h40, if_neg h40, if_pos h41, if_pos h41, if_neg (show ¬ 256 ≤ c by exact ar139 h41), List.nil_append]
        by_cases hh : h = 1
        · rw [if_pos hh, if_pos hh]
          rw [List.filter_eq_nil_iff.mpr]
          · rfl
          · intro y hy
            obtain ⟨c', hc'⟩ := goP_mem len r y hy
            have := hu.1 (y.1, c') hc'
            simp at this ⊢; exact ar141 this
        · rw [if_neg hh, if_neg hh]
          exact ih _ (by exact ar137 h1 hh)
      · have h256 : 256 ≤ c := by rcases hc with h | h | h <;> (first | exact ar142 h40 h | exact ar143 h41 h | exact ar144 h)
        rw [if_neg h40, if_neg h40, if_neg h40, if_neg h41, if_neg h41, if_pos h256, List.singleton_append, List.filter_cons_of_pos (by simpa using hge h), List.length_cons, ih _ h1]
theorem sizeF_cnt : ∀ (l : List Nat) (h : Nat) (s : Int), 1 ≤ h → (∀ c ∈ l, rel c) → sizeF 40 s h l = s + cnt h l
  | [], h, s, _, _ => by simp [sizeF, cnt]
  | c :: r, h, s, h1, hr => by
    have hc := hr c (by simp)
    have ih := fun h' s' h1 => sizeF_cnt r h' s' h1 fun c hc => hr c (by simp [hc])
    rw [sizeF, cnt]
    by_cases h40 : c = 40
    · subst h40
      have e : ((h : Int) + b2i (([40] : List Nat) == [40]) - b2i (([40] : List Nat) == [41])) = ((h + 1 : Nat) : Int) := by simp [b2i]
      have e2 : b2i (([40] : List Nat) != [41]) = 1 := by rfl
      rw [e, e2, if_neg (by simp; exact ar145), if_pos rfl, ih _ _ (by exact ar134)]
      simp; exact ar146
    · by_cases h41 : c = 41
      · subst h41
        have e : ((h : Int) + b2i (([41] : List Nat) == [40]) - b2i (([41] : List Nat) == [41])) = (h : Int) - 1 := by simp [b2i]
        have e2 : b2i (([41] : List Nat) != [41]) = 0 := by rfl
        rw [e, e2, if_neg (show ¬ (41 = 40) by exact ar147), if_pos rfl]
        by_cases hh : h = 1
        · subst hh
          rw [if_pos (by rfl), if_pos rfl]; simp
        · have : (h : Int) - 1 = ((h - 1 : Nat) : Int) := by exact ar148 h1
          rw [if_neg (by simp; exact ar149 hh), if_neg hh, this, ih _ _ (by exact ar150 hh this)]
          simp
      · have e1 : (([c] : List Nat) == [40]) = false := by simp [h40]
        have e2 : (([c] : List Nat) == [41]) = false := by simp [h41]
        have e3 : b2i (([c] : List Nat) != [41]) = 1 := by simp [bne, e2, b2i]
        rw [e1, e2, e3, if_neg h40, if_neg h41]
        have e : ((h : Int) + b2i false - b2i false) = h := by simp [b2i]
        rw [e, if_neg (by simp; exact ar151 h1), ih _ _ h1]
        simp; exact ar146
theorem sizeF_dot : ∀ (l : List Nat) (h s : Int), sizeF 46 s h l = s + np l
  | [], h, s => by simp [sizeF, np]
  | c :: r, h, s => by
    rw [sizeF, if_neg (by simp), sizeF_dot r]
    have : np (c :: r) = np [c] + np r := np_app [c] r
    rw [this]
    have : b2i (([c] : List Nat) != [41]) = np [c] := by
      by_cases h41 : c = 41
      · subst h41; rfl
      · have e : (([c] : List Nat) != [41]) = true := by simp [h41]
        rw [e]
        simp [b2i, np, h41]
    rw [this]; simp; exact ar152
theorem sizeF_open (r : List Nat) (hr : ∀ c ∈ r, rel c) : sizeF 40 0 0 (40 :: r) = ((1 + cnt 1 r : Nat) : Int) := by
  rw [sizeF, if_neg (by simp [b2i])]
  have e : ((0 : Int) + b2i (([40] : List Nat) == [40]) - b2i (([40] : List Nat) == [41])) = ((1 : Nat) : Int) := by simp [b2i]
  have e2 : (0 : Int) + b2i (([40] : List Nat) != [41]) = 1 := by rfl
  rw [e, e2, sizeF_cnt r 1 1 (Nat.le_refl _) hr]
  simp
theorem sizeF_loop {c : Nat} (r : List Nat) (hc : 256 ≤ c) : sizeF c 0 0 (c :: r) = 1 := by
  have e1 : (([c] : List Nat) == [40]) = false := by simp; exact ar153 hc
  have e2 : (([c] : List Nat) == [41]) = false := by simp; exact ar154 hc
  have e3 : (([c] : List Nat) != [46]) = true := by simp; exact ar155 hc
  rw [sizeF, e1, e2, e3, if_pos (by rfl)]
  simp [bne, e2, b2i]
/-- the drawn hooks are what the spans tell -/
theorem hooks_goP (len : Nat) : ∀ (v A : Pc), Up v → (∀ p ∈ v, p.1 < len) → (∀ p ∈ v, rel p.2) → (∀ a ∈ A, ∀ p ∈ v, a.1 < p.1) →
    hooksF (v.map (·.2)) = (goP len v).map fun p => ((sizeAt (A ++ goP len v) p : Nat) : Int)
  | [], A, _, _, _, _ => rfl
  | (e, c) :: r, A, hu, hv, hrel, hA => by
    have h0 : e < len := hv (e, c) (List.mem_cons_self ..)
    have hc : rel c := hrel (e, c) (List.mem_cons_self ..)
    replace hu := List.pairwise_cons.mp hu
    have hr := fun p hp => hv p (List.mem_cons_of_mem _ hp)
    have hrr := fun p hp => hrel p (List.mem_cons_of_mem _ hp)
    have hAr : ∀ a ∈ A, ∀ p ∈ r, a.1 < p.1 := fun a ha p hp => hA a ha p (List.mem_cons_of_mem _ hp)
    have hAe : ∀ a ∈ A, a.1 < e := fun a ha => hA a ha (e, c) (List.mem_cons_self ..)
    have hgr : ∀ y ∈ goP len r, e < y.1 := fun y hy => by
      obtain ⟨c', hc'⟩ := goP_mem len r y hy
      exact hu.1 (y.1, c') hc'
    rw [List.map_cons, hooksF, goP]
    by_cases h41 : c = 41
    · subst h41
      rw [if_neg (by simp), if_neg (by exact ar147), if_neg (by exact ar156), List.nil_append, List.nil_append]
      exact hooks_goP len r A hu.2 hr hrr hAr
    · have e1 : (([c] : List Nat) != [41]) = true := by simp [h41]
      have key : ∀ e', e < e' → ((if c = 40 then [(e, matchEnd len 1 r)] else if 256 ≤ c then [(e, e + 1)] else []) : Pc) = [(e, e')] → sizeF c 0 0 (c :: r.map (·.2)) = ((1 + ((goP len r).filter fun s => decide (s.1 < e')).length : Nat) : Int) →
          [sizeF c 0 0 (c :: r.map (·.2))] ++ hooksF (r.map (·.2)) = ([(e, e')] ++ goP len r).map fun p => ((sizeAt (A ++ ([(e, e')] ++ goP len r)) p : Nat) : Int) := by
        intro e' hee _ hs
        have ih := hooks_goP len r (A ++ [(e, e')]) hu.2 hr hrr (by
          intro a ha p hp
          rcases List.mem_append.mp ha with ha | ha
          · exact hAr a ha p hp
          · rw [List.mem_singleton.mp ha]; exact hu.1 p hp)
        rw [List.map_append, ih, List.append_assoc]
        congr 1
        rw [List.map_cons, List.map_nil, hs]
        congr 2
        unfold sizeAt
        have hA0 : (A.filter fun s => decide (e ≤ s.1) && decide (s.1 < e')) = [] := List.filter_eq_nil_iff.mpr (fun a ha => by have := hAe a ha; simp; exact ar90 this)
        show _ = ((A ++ ([(e, e')] ++ goP len r)).filter fun s => decide (e ≤ s.1) && decide (s.1 < e')).length
        rw [List.filter_append, hA0, List.nil_append, List.singleton_append, List.filter_cons_of_pos (by simpa using hee), List.length_cons]
        rw [show ((goP len r).filter fun s => decide (e ≤ s.1) && decide (s.1 < e')) = (goP len r).filter fun s => decide (s.1 < e') from List.filter_congr fun y hy => by
          have := hgr y hy
          have : decide (e ≤ y.1) = true := decide_eq_true (by exact ar92 this)
          rw [this, Bool.true_and]]
        exact ar47
      rw [if_pos e1]
      by_cases h40 : c = 40
      · have := key (matchEnd len 1 r) (matchEnd_ge len (e + 1) r 1 h0 fun p hp => hu.1 p hp) (by rw [if_pos h40]) (by
          subst h40
          rw [sizeF_open _ (fun c hc => by obtain ⟨p, hp, rfl⟩ := List.mem_map.mp hc; exact hrr p hp), goP_cnt len r 1 (Nat.le_refl _) hu.2 hr hrr])
        rw [if_pos h40]
        exact this
      · have h256 : 256 ≤ c := by rcases hc with h | h | h <;> (first | exact ar142 h40 h | exact ar143 h41 h | exact ar144 h)
        have := key (e + 1) (by exact ar22) (by rw [if_neg h40, if_pos h256]) (by
          rw [sizeF_loop _ h256, List.filter_eq_nil_iff.mpr (fun y hy => by have := hgr y hy; simp; exact ar141 this)]
          rfl)
        rw [if_neg h40, if_pos h256]
        exact this
theorem goP_np (len : Nat) : ∀ (v : Pc), (∀ p ∈ v, rel p.2) → (goP len v).length = np (v.map (·.2))
  | [], _ => rfl
  | (e, c) :: r, h => by
    have hc : rel c := h (e, c) (List.mem_cons_self ..)
    have ih := goP_np len r fun p hp => h p (List.mem_cons_of_mem _ hp)
    have e0 : np (c :: r.map (·.2)) = np [c] + np (r.map (·.2)) := np_app [c] _
    rw [goP, List.length_append, ih, List.map_cons, e0]
    congr 1
    rcases hc with rfl | rfl | h
    · rfl
    · rfl
    · rw [if_neg (by exact ar153 h), if_pos h]
      have : c ≠ 41 := by exact ar157 h
      simp [np, this]
theorem goP_up (len : Nat) : ∀ (v : Pc), Up v → Up (goP len v)
  | [], _ => .nil
  | (e, c) :: r, hu => by
    replace hu := List.pairwise_cons.mp hu
    have ih := goP_up len r hu.2
    have hgr : ∀ y ∈ goP len r, e < y.1 := fun y hy => by
      obtain ⟨c', hc'⟩ := goP_mem len r y hy
      exact hu.1 (y.1, c') hc'
    rw [goP]
    split
    · exact List.pairwise_cons.mpr ⟨fun y hy => hgr y hy, ih⟩
    · split
      · exact List.pairwise_cons.mpr ⟨fun y hy => hgr y hy, ih⟩
      · exact ih
theorem goP_ends (len : Nat) : ∀ (v : Pc), Up v → (∀ p ∈ v, p.1 < len) → (∀ y ∈ goP len v, y.1 < y.2 ∧ y.2 ≤ len) ∧ (goP len v).Pairwise (fun a b => b.1 < a.2 → b.2 ≤ a.2)
  | [], _, _ => ⟨fun y hy => (by cases hy), .nil⟩
  | (e, c) :: r, hu, hv => by
    have h0 : e < len := hv (e, c) (List.mem_cons_self ..)
    replace hu := List.pairwise_cons.mp hu
    have hr := fun p hp => hv p (List.mem_cons_of_mem _ hp)
    obtain ⟨ih1, ih2⟩ := goP_ends len r hu.2 hr
    have hgr : ∀ y ∈ goP len r, e < y.1 := fun y hy => by
      obtain ⟨c', hc'⟩ := goP_mem len r y hy
      exact hu.1 (y.1, c') hc'
    rw [goP]
    split
    · refine ⟨fun y hy => ?_, List.pairwise_cons.mpr ⟨fun y hy => ?_, ih2⟩⟩
      · rcases List.mem_cons.mp hy with rfl | hy
        · exact ⟨matchEnd_ge len (e + 1) r 1 h0 fun p hp => hu.1 p hp, matchEnd_le len r 1 hr⟩
        · exact ih1 y hy
      · exact goP_nest len r 1 (Nat.le_refl _) hu.2 hr y hy
    · split
      · refine ⟨fun y hy => ?_, List.pairwise_cons.mpr ⟨fun y hy hlt => ?_, ih2⟩⟩
        · rcases List.mem_cons.mp hy with rfl | hy
          · exact ⟨Nat.lt_succ_self _, h0⟩
          · exact ih1 y hy
        · have := hgr y hy; dsimp only at hlt; exact ar158 hlt this
      · exact ⟨ih1, ih2⟩
noncomputable def dotsS (d len : Nat) : Pc := (List.range d).map fun k => (k, len)
theorem row_spans {d len : Nat} {v : Pc} (hd : d ≤ len) (hu : Up v) (hv : ∀ p ∈ v, p.1 < len) (hd' : ∀ p ∈ v, d ≤ p.1) : Spans (dotsS d len ++ goP len v) := by
  obtain ⟨h1, h2⟩ := goP_ends len v hu hv
  have hdm : ∀ a ∈ dotsS d len, a.1 < d ∧ a.2 = len := fun a ha => by
    obtain ⟨k, hk, rfl⟩ := List.mem_map.mp ha
    exact ⟨List.mem_range.mp hk, rfl⟩
  have hgd : ∀ y ∈ goP len v, d ≤ y.1 := fun y hy => by
    obtain ⟨c', hc'⟩ := goP_mem len v y hy
    exact hd' (y.1, c') hc'
  have hup : Up (dotsS d len) := by
    exact List.pairwise_map.mpr List.pairwise_lt_range
  constructor
  · rw [List.pairwise_append]
    refine ⟨hup, goP_up len v hu, fun a ha b hb => ?_⟩
    have := (hdm a ha).1
    have := hgd b hb
    omega
  · intro s hs
    rcases List.mem_append.mp hs with hs | hs
    · have := hdm s hs; exact ar159 hd this
    · exact (h1 s hs).1
  · rw [List.pairwise_append]
    refine ⟨?_, h2, fun a ha b hb _ => ?_⟩
    · refine List.pairwise_map.mpr ?_
      exact List.Pairwise.imp (fun _ _ => Nat.le_refl _) List.pairwise_lt_range
    · rw [(hdm a ha).2]
      exact (h1 b hb).2
theorem hooks_dots (s : List Nat) : ∀ d, hooksF (List.replicate d 46 ++ s) = ((List.range d).map fun k => ((d - k + np s : Nat) : Int)) ++ hooksF s
  | 0 => rfl
  | d + 1 => by
    rw [List.replicate_succ, List.cons_append, hooksF, if_pos (by rfl), hooks_dots s d, sizeF_dot, List.range_succ_eq_map, List.map_cons, List.map_map, List.cons_append, List.nil_append, List.cons_append]
    congr 1
    · have : np (46 :: (List.replicate d 46 ++ s)) = np (List.replicate (d + 1) 46) + np s := by rw [← np_app, List.replicate_succ, List.cons_append]
      rw [this]
      have : np (List.replicate (d + 1) 46) = d + 1 := by
        unfold np
        rw [List.filter_eq_self.mpr]
        · simp
        · intro a ha; rw [List.eq_of_mem_replicate ha]; rfl
      rw [this]; simp
    · congr 1
      apply List.map_congr_left
      intro k _
      simp only [Function.comp]
      congr 2
      exact ar160
theorem row_hooks {d len : Nat} {v : Pc} (hd : d ≤ len) (hu : Up v) (hv : ∀ p ∈ v, p.1 < len) (hd' : ∀ p ∈ v, d ≤ p.1) (hrel : ∀ p ∈ v, rel p.2) :
    hooksF (List.replicate d 46 ++ v.map (·.2)) = (sizesF (dotsS d len ++ goP len v)).map fun n : Nat => (n : Int) := by
  have hdm : ∀ a ∈ dotsS d len, a.1 < d ∧ a.2 = len := fun a ha => by
    obtain ⟨k, hk, rfl⟩ := List.mem_map.mp ha
    exact ⟨List.mem_range.mp hk, rfl⟩
  have hgd : ∀ y ∈ goP len v, d ≤ y.1 ∧ y.1 < len := fun y hy => by
    obtain ⟨c', hc'⟩ := goP_mem len v y hy
    exact ⟨hd' (y.1, c') hc', hv (y.1, c') hc'⟩
  rw [hooks_dots, hooks_goP len v (dotsS d len) hu hv hrel (fun a ha p hp => by have := (hdm a ha).1; have := hd' p hp; omega), sizesF, List.map_map, List.map_append]
  congr 1
  conv => rhs; unfold dotsS
  rw [List.map_map]
  apply List.map_congr_left
  intro k hk
  have hk := List.mem_range.mp hk
  simp only [Function.comp]
  congr 1
  unfold sizeAt
  rw [List.filter_append, List.length_append]
  congr 1
  · dsimp only
    rw [List.filter_map, List.length_map]
    have e : ((List.range d).filter ((fun s : Nat × Nat => decide (k ≤ s.1) && decide (s.1 < len)) ∘ fun k => (k, len))) = (List.range d).filter fun j => decide (k ≤ j) := by
      apply List.filter_congr
      intro j hj
      have hj := List.mem_range.mp hj
      have : decide (j < len) = true := decide_eq_true (by exact ar105 hd hj)
      simp [this]
    rw [e]
    have : ∀ d, ((List.range d).filter fun j => decide (k ≤ j)).length = d - k := by
      intro d
      induction d with
      | zero => simp
      | succ d ih =>
        rw [List.range_succ, List.filter_append, List.length_append, ih]
        by_cases h : k ≤ d
        · rw [List.filter_cons_of_pos (by simpa using h)]; simp; exact ar161 h
        · rw [List.filter_cons_of_neg (by simpa using h)]; simp; exact ar162 h
    rw [this]
  · rw [List.filter_eq_self.mpr]
    · exact (goP_np len v hrel).symm
    · intro y hy
      have := hgd y hy
      simp; exact ar163 hk this
end Mine
end
section
open PySem PySem.W
set_option maxRecDepth 100000
set_option maxHeartbeats 1000000
namespace Mine
noncomputable def muteU : List (List (List Nat)) := [[[92, 40]], [[92, 41]], [[34], [40], [34]], [[34], [41], [34]], [[92, 92]], [[255]]]
noncomputable def Tok.units : Tok → List (List Nat)
  | sgn c => [[c]]
  | mute i _ => muteU.getD i []
noncomputable def startU : List (List (List Nat)) := [[[97]], [[97]], [[46], [46]], [[46]]]
noncomputable def loneU (lone : Bool) : List (List Nat) := if lone then [[92]] else []
noncomputable def Row.units (r : Row) (lone : Bool) : List (List Nat) := startU.getD r.y [] ++ (r.toks.flatMap Tok.units ++ loneU lone)
noncomputable def dotsOf (y : Nat) : Nat := ([0, 0, 2, 1] : List Nat).getD y 0
theorem loops_facts : ∀ c ∈ loopsL, 256 ≤ c ∧ c ∉ nothingL := by decide
theorem nothing_facts : ∀ v ∈ nothingL, v ≠ 13 ∧ v ≠ 10 ∧ v ≠ 46 := by decide
theorem sgn_facts {c : Nat} (h : (Tok.sgn c).good) : rel c ∧ c ≠ 92 ∧ c ≠ 34 ∧ c ≠ 13 ∧ c ≠ 10 ∧ c ≠ 46 ∧ c ∉ nothingL := by
  rcases h with rfl | rfl | h
  · exact ⟨.inl rfl, by decide, by decide, by decide, by decide, by decide, by decide⟩
  · exact ⟨.inr (.inl rfl), by decide, by decide, by decide, by decide, by decide, by decide⟩
  · have := loops_facts c h
    exact ⟨.inr (.inr this.1), by exact ar164 this, by exact ar165 this, by exact ar166 this, by exact ar167 this, by exact ar168 this, this.2⟩
theorem six {P : Nat → Prop} (h0 : P 0) (h1 : P 1) (h2 : P 2) (h3 : P 3) (h4 : P 4) (h5 : P 5) {i : Nat} (hi : i < 6) : P i := by
  match i, hi with
  | 0, _ => exact h0
  | 1, _ => exact h1
  | 2, _ => exact h2
  | 3, _ => exact h3
  | 4, _ => exact h4
  | 5, _ => exact h5
theorem four {P : Nat → Prop} (h0 : P 0) (h1 : P 1) (h2 : P 2) (h3 : P 3) {i : Nat} (hi : i < 4) : P i := by
  match i, hi with
  | 0, _ => exact h0
  | 1, _ => exact h1
  | 2, _ => exact h2
  | 3, _ => exact h3
-- units
theorem tok_units {t : Tok} (h : t.good) {rest : List (List Nat)} (hr : Units rest) : Units (t.units ++ rest) := by
  cases t with
  | sgn c => exact .ch (sgn_facts h).2.1 hr
  | mute i v =>
    revert h
    rintro ⟨hi, _⟩
    refine six (P := fun i => Units (muteU.getD i [] ++ rest)) ?_ ?_ ?_ ?_ ?_ ?_ hi
    · exact .esc hr
    · exact .esc hr
    · exact .ch (by decide) (.ch (by decide) (.ch (by decide) hr))
    · exact .ch (by decide) (.ch (by decide) (.ch (by decide) hr))
    · exact .esc hr
    · exact .ch (by decide) hr
theorem toks_units : ∀ {ts : List Tok}, (∀ t ∈ ts, t.good) → ∀ {rest : List (List Nat)}, Units rest → Units (ts.flatMap Tok.units ++ rest)
  | [], _, _, hr => hr
  | t :: r, h, _, hr => by
    rw [List.flatMap_cons, List.append_assoc]
    exact tok_units (h t (by simp)) (toks_units (fun t ht => h t (by simp [ht])) hr)
theorem lone_units (b : Bool) : Units (loneU b) := by cases b; exact .nil; exact .lone
theorem Row.units_ok {r : Row} (h : r.good) (b : Bool) : Units (r.units b) := by
  have hr := toks_units h.toks (lone_units b)
  unfold Row.units
  generalize r.toks.flatMap Tok.units ++ loneU b = rest at hr
  refine four (P := fun i => Units (startU.getD i [] ++ rest)) ?_ ?_ ?_ ?_ h.y
  · exact .ch (by decide) hr
  · exact .ch (by decide) hr
  · exact .ch (by decide) (.ch (by decide) hr)
  · exact .ch (by decide) hr
-- what is shown
noncomputable def relB (p : Nat × Nat) : Bool := p.2 == 40 || p.2 == 41 || decide (256 ≤ p.2)
theorem relB_iff (p : Nat × Nat) : relB p = true ↔ rel p.2 := by
  unfold relB rel
  simp only [Bool.or_eq_true, beq_iff_eq, decide_eq_true_eq, or_assoc]
theorem matchEnd_filter (len : Nat) : ∀ (v : Pc) (h : Nat), matchEnd len h (v.filter relB) = matchEnd len h v
  | [], _ => rfl
  | (e, c) :: r, h => by
    have ih := fun h' => matchEnd_filter len r h'
    by_cases hb : relB (e, c) = true
    · rw [List.filter_cons_of_pos hb, matchEnd, matchEnd, ih, ih, ih]
    · have hr : ¬ rel c := fun h => hb ((relB_iff (e, c)).mpr h)
      rw [List.filter_cons_of_neg hb, ih]
      conv => rhs; rw [matchEnd]
      rw [if_neg (fun h => hr (.inl h)), if_neg (fun h => hr (.inr (.inl h)))]
theorem goP_filter (len : Nat) : ∀ (v : Pc), goP len (v.filter relB) = goP len v
  | [] => rfl
  | (e, c) :: r => by
    have ih := goP_filter len r
    by_cases hb : relB (e, c) = true
    · rw [List.filter_cons_of_pos hb, goP, goP, ih, matchEnd_filter]
    · have hr : ¬ rel c := fun h => hb ((relB_iff (e, c)).mpr h)
      rw [List.filter_cons_of_neg hb, ih]
      conv => rhs; rw [goP]
      rw [if_neg (fun h => hr (.inl h)), if_neg (fun h => hr (.inr (.inr h))), List.nil_append]
theorem shownF_up : ∀ (q : Bool) (k : Nat) (us : List (List Nat)), Up (shownF q k us)
  | _, _, [] => .nil
  | q, k, u :: r => by
    rw [shownF]
    split
    · exact shownF_up ..
    · refine List.pairwise_append.mpr ⟨?_, shownF_up .., fun a ha b hb => ?_⟩
      · unfold one
        split
        · split
          · exact .nil
          · exact List.pairwise_singleton ..
        · exact .nil
      · obtain ⟨h1, h2, _⟩ := one_ge ha
        have := (shownF_ge _ _ _ _ hb).1
        rw [h1]
        rw [h2] at this
        simp at this
        exact ar169 this
theorem tok_shown {t : Tok} (h : t.good) (k : Nat) : ((shownF false k t.units).filter relB).map (·.2) = t.bare ∧ qend false t.units = false := by
  cases t with
  | sgn c =>
    obtain ⟨h1, h2, h3, _⟩ := sgn_facts h
    have hne : ¬ ([c] = [34]) := by simpa using h3
    refine ⟨?_, by rw [Tok.units, qend, if_neg hne]; rfl⟩
    rw [Tok.units, shownF, if_neg hne]
    show ((([(k, c)] ++ [] : Pc)).filter relB).map (·.2) = [c]
    rw [List.append_nil, List.filter_cons_of_pos ((relB_iff (k, c)).mpr h1)]
    rfl
  | mute i v =>
    obtain ⟨hi, _⟩ := h
    refine six (P := fun i => ((shownF false k (muteU.getD i [])).filter relB).map (·.2) = [] ∧ qend false (muteU.getD i []) = false) ?_ ?_ ?_ ?_ ?_ ?_ hi
    all_goals exact ⟨rfl, rfl⟩
theorem toks_shown : ∀ {ts : List Tok}, (∀ t ∈ ts, t.good) → ∀ (k : Nat), ((shownF false k (ts.flatMap Tok.units)).filter relB).map (·.2) = ts.flatMap Tok.bare ∧ qend false (ts.flatMap Tok.units) = false
  | [], _, _ => ⟨rfl, rfl⟩
  | t :: r, h, k => by
    have h1 := tok_shown (h t (by simp)) k
    have h2 := fun k => toks_shown (ts := r) (fun t ht => h t (by simp [ht])) k
    rw [List.flatMap_cons, shownF_app, qend_app, h1.2, List.filter_append, List.map_append, h1.1, (h2 _).1, (h2 0).2, List.flatMap_cons]
    exact ⟨rfl, rfl⟩
theorem lone_shown (b : Bool) (k : Nat) : (shownF false k (loneU b)).filter relB = [] := by cases b <;> rfl
theorem start_shown {y : Nat} (hy : y < 4) : (shownF false 0 (startU.getD y [])).filter relB = [] ∧ qend false (startU.getD y []) = false ∧ dotsOf y ≤ (startU.getD y []).flatten.length ∧ startB.getD y [] = List.replicate (dotsOf y) 46 := by
  refine four (P := fun y => (shownF false 0 (startU.getD y [])).filter relB = [] ∧ qend false (startU.getD y []) = false ∧ dotsOf y ≤ (startU.getD y []).flatten.length ∧ startB.getD y [] = List.replicate (dotsOf y) 46) ?_ ?_ ?_ ?_ hy
  all_goals exact ⟨rfl, rfl, by decide, rfl⟩
noncomputable def Row.vis (r : Row) (b : Bool) : Pc := (shownF false 0 (r.units b)).filter relB
theorem Row.vis_facts {r : Row} (h : r.good) (b : Bool) : (r.vis b).map (·.2) = r.toks.flatMap Tok.bare ∧ Up (r.vis b) ∧ (∀ p ∈ r.vis b, p.1 < (r.units b).flatten.length) ∧ (∀ p ∈ r.vis b, dotsOf r.y ≤ p.1) ∧ (∀ p ∈ r.vis b, rel p.2) := by
  obtain ⟨s1, s2, s3, _⟩ := start_shown h.y
  have e : r.vis b = (shownF false (startU.getD r.y []).flatten.length (r.toks.flatMap Tok.units ++ loneU b)).filter relB := by
    unfold Row.vis Row.units
    rw [shownF_app, s2, List.filter_append, s1, List.nil_append, Nat.zero_add]
  refine ⟨?_, List.Pairwise.filter _ (shownF_up ..), fun p hp => ?_, fun p hp => ?_, fun p hp => ?_⟩
  · have ht := fun k => toks_shown h.toks k
    rw [e, shownF_app, (ht 0).2, List.filter_append, lone_shown, List.append_nil, (ht _).1]
  · have := shownF_ge _ _ _ _ (List.mem_filter.mp hp).1
    exact ar170 this
  · rw [e] at hp
    have := shownF_ge _ _ _ _ (List.mem_filter.mp hp).1
    exact ar171 s3 this
  · exact (relB_iff p).mp (List.mem_filter.mp hp).2
theorem tok_first {t : Tok} (h : t.good) : ∃ c r, t.units.flatten = c :: r ∧ c ≠ 46 := by
  cases t with
  | sgn c => exact ⟨c, [], rfl, (sgn_facts h).2.2.2.2.2.1⟩
  | mute i v =>
    obtain ⟨hi, _⟩ := h
    refine six (P := fun i => ∃ c r, (muteU.getD i []).flatten = c :: r ∧ c ≠ 46) ?_ ?_ ?_ ?_ ?_ ?_ hi
    all_goals exact ⟨_, _, rfl, by decide⟩
theorem strip_rest {ts : List Tok} (h : ∀ t ∈ ts, t.good) (b : Bool) : stripL [46] (ts.flatMap Tok.units ++ loneU b).flatten = (ts.flatMap Tok.units ++ loneU b).flatten := by
  have key : ∀ {c : Nat} {r : List Nat}, c ≠ 46 → stripL [46] (c :: r) = c :: r := fun {c r} hc => by
    unfold stripL
    rw [List.dropWhile_cons_of_neg (by simp [hc])]
  cases ts with
  | nil => cases b <;> rfl
  | cons t r =>
    obtain ⟨c, r', e, hc⟩ := tok_first (h t (by simp))
    rw [List.flatMap_cons, List.append_assoc, List.flatten_append, e, List.cons_append]
    exact key hc
theorem Row.dots {r : Row} (h : r.good) (b : Bool) : dotsN (r.units b).flatten = dotsOf r.y := by
  have hs := strip_rest h.toks b
  unfold dotsN Row.units
  rw [List.flatten_append]
  generalize (r.toks.flatMap Tok.units ++ loneU b).flatten = R at hs
  refine four (P := fun y => ((startU.getD y []).flatten ++ R).length - (stripL [46] ((startU.getD y []).flatten ++ R)).length = dotsOf y) ?_ ?_ ?_ ?_ h.y
  · show (97 :: R).length - (stripL [46] (97 :: R)).length = 0
    unfold stripL; rw [List.dropWhile_cons_of_neg (by decide)]; exact ar172
  · show (97 :: R).length - (stripL [46] (97 :: R)).length = 0
    unfold stripL; rw [List.dropWhile_cons_of_neg (by decide)]; exact ar172
  · show (46 :: 46 :: R).length - (stripL [46] (46 :: 46 :: R)).length = 2
    unfold stripL at hs ⊢; rw [List.dropWhile_cons_of_pos (by decide), List.dropWhile_cons_of_pos (by decide), hs]; simp only [List.length_cons]; exact ar173
  · show (46 :: R).length - (stripL [46] (46 :: R)).length = 1
    unfold stripL at hs ⊢; rw [List.dropWhile_cons_of_pos (by decide), hs]; simp only [List.length_cons]; exact ar174
theorem Row.pieces {r : Row} (h : r.good) (b : Bool) : piecesF (r.units b) = dotsS (dotsOf r.y) (r.units b).flatten.length ++ goP (r.units b).flatten.length (r.vis b) := by
  unfold piecesF
  rw [Row.dots h, ← goP_filter]
  rfl
theorem Row.dots_le {r : Row} (h : r.good) (b : Bool) : dotsOf r.y ≤ (r.units b).flatten.length := by
  have := (start_shown h.y).2.2.1
  unfold Row.units
  rw [List.flatten_append, List.length_append]; exact ar175 this
theorem Row.spans {r : Row} (h : r.good) (b : Bool) : Spans (piecesF (r.units b)) := by
  obtain ⟨v1, v2, v3, v4, v5⟩ := Row.vis_facts h b
  rw [Row.pieces h]
  exact row_spans (Row.dots_le h b) v2 v3 v4
theorem Row.hooks {r : Row} (h : r.good) (b : Bool) : hooksF r.bush = (sizesF (piecesF (r.units b))).map fun n : Nat => (n : Int) := by
  obtain ⟨v1, v2, v3, v4, v5⟩ := Row.vis_facts h b
  rw [Row.pieces h, ← row_hooks (Row.dots_le h b) v2 v3 v4 v5, v1, Row.bush, (start_shown h.y).2.2.2]
theorem Row.count {r : Row} (h : r.good) (b : Bool) : (piecesF (r.units b)).length ≤ 2 + np (r.toks.flatMap Tok.bare) := by
  obtain ⟨v1, v2, v3, v4, v5⟩ := Row.vis_facts h b
  have hd : dotsOf r.y ≤ 2 := four (P := fun y => dotsOf y ≤ 2) (by decide) (by decide) (by decide) (by decide) h.y
  rw [Row.pieces h, List.length_append, goP_np _ _ v5, v1]
  simp [dotsS]; exact ar176 hd
-- the text on its way
noncomputable def Clean (a : List Nat) : Prop := ∀ c ∈ a, c ≠ 13 ∧ c ≠ 10
theorem Clean.app {a b : List Nat} (ha : Clean a) (hb : Clean b) : Clean (a ++ b) := fun c h => (List.mem_append.mp h).elim (ha c) (hb c)
theorem normF_step {c : Nat} (l : List Nat) (h : c ≠ 13 ∧ c ≠ 10) : normF (c :: l) = c :: normF l := by
  rw [normF]
  · rw [if_neg (by simp [h])]
  · intro r h'; exact absurd h' h.1
theorem normF_app : ∀ {a : List Nat} (b : List Nat), Clean a → normF (a ++ b) = a ++ normF b
  | [], b, _ => rfl
  | c :: r, b, h => by
    rw [List.cons_append, List.cons_append, ← normF_app (a := r) b fun x hx => h x (by simp [hx]), normF_step _ (h c (by simp))]
theorem normF_clean {a : List Nat} (h : Clean a) : normF a = a := by
  have := normF_app [] h
  rw [List.append_nil] at this
  rw [this]; simp [normF]
theorem dotF_app : ∀ {a : List Nat} (b : List Nat), Clean a → dotF false (a ++ b) = a ++ dotF false b
  | [], b, _ => rfl
  | c :: r, b, h => by
    have hc := h c (by simp)
    rw [List.cons_append, dotF, if_neg (by simp), show (c == 10) = false by simp [hc.2], dotF_app b fun x hx => h x (by simp [hx]), List.cons_append]
theorem dotF_clean {a : List Nat} (h : Clean a) : dotF false a = a := by
  have := dotF_app [] h
  rw [List.append_nil] at this
  rw [this]; simp [dotF]
noncomputable def seenF (s : List Nat) : List Nat := (quoteF s).filter fun c => !nothingL.contains c
noncomputable def nv (s : List Nat) : List Nat := s.filter fun c => !nothingL.contains c
theorem nv_app (a b : List Nat) : nv (a ++ b) = nv a ++ nv b := List.filter_append ..
theorem nv_drop {v : Nat} (hv : v ∈ nothingL) (r : List Nat) : nv (v :: r) = nv r := by
  unfold nv; rw [List.filter_cons_of_neg (by simpa using hv)]
theorem nv_keep {c : Nat} (hc : c ∉ nothingL) (r : List Nat) : nv (c :: r) = c :: nv r := by
  unfold nv; rw [List.filter_cons_of_pos (by simpa using hc)]
theorem tok_clean {t : Tok} (h : t.good) : Clean t.text ∧ nv t.text = t.units.flatten ∧ Clean t.units.flatten := by
  cases t with
  | sgn c =>
    obtain ⟨_, _, _, h1, h2, _, h3⟩ := sgn_facts h
    refine ⟨fun x hx => ?_, ?_, fun x hx => ?_⟩
    · rw [List.mem_singleton.mp hx]; exact ⟨h1, h2⟩
    · show nv [c] = [c]
      rw [nv_keep h3]; rfl
    · have : x = c := by simpa [Tok.units] using hx
      rw [this]; exact ⟨h1, h2⟩
  | mute i v =>
    obtain ⟨hi, hv⟩ := h
    have hvc := nothing_facts v hv
    refine six (P := fun i => Clean ((muteL v).getD i []) ∧ nv ((muteL v).getD i []) = (muteU.getD i []).flatten ∧ Clean (muteU.getD i []).flatten) ?_ ?_ ?_ ?_ ?_ ?_ hi
    · exact ⟨by show Clean [92, 40]; unfold Clean; decide, rfl, by unfold Clean; decide⟩
    · refine ⟨fun x hx => ?_, ?_, by unfold Clean; decide⟩
      · have : x = 92 ∨ x = v ∨ x = 41 := by simpa [muteL] using hx
        rcases this with rfl | rfl | rfl
        · decide
        · exact ⟨hvc.1, hvc.2.1⟩
        · decide
      · show nv [92, v, 41] = [92, 41]
        rw [nv_keep (by decide), nv_drop hv]; rfl
    · exact ⟨by show Clean [34, 40, 34]; unfold Clean; decide, rfl, by unfold Clean; decide⟩
    · refine ⟨fun x hx => ?_, ?_, by unfold Clean; decide⟩
      · have : x = 34 ∨ x = v ∨ x = 41 ∨ x = 34 := by simpa [muteL] using hx
        rcases this with rfl | rfl | rfl | rfl
        · decide
        · exact ⟨hvc.1, hvc.2.1⟩
        · decide
        · decide
      · show nv [34, v, 41, 34] = [34, 41, 34]
        rw [nv_keep (by decide), nv_drop hv]; rfl
    · exact ⟨by show Clean [92, 92]; unfold Clean; decide, rfl, by unfold Clean; decide⟩
    · exact ⟨by show Clean [255]; unfold Clean; decide, rfl, by unfold Clean; decide⟩
theorem toks_clean : ∀ {ts : List Tok}, (∀ t ∈ ts, t.good) → Clean (ts.flatMap Tok.text) ∧ nv (ts.flatMap Tok.text) = (ts.flatMap Tok.units).flatten ∧ Clean (ts.flatMap Tok.units).flatten
  | [], _ => ⟨(by intro c h; cases h), rfl, (by intro c h; cases h)⟩
  | t :: r, h => by
    have h1 := tok_clean (h t (by simp))
    have h2 := toks_clean (ts := r) fun t ht => h t (by simp [ht])
    rw [List.flatMap_cons, List.flatMap_cons, List.flatten_append, nv_app, h1.2.1, h2.2.1]
    exact ⟨h1.1.app h2.1, rfl, h1.2.2.app h2.2.2⟩
theorem start_clean {y v : Nat} (hy : y < 4) (hv : v ∈ nothingL) : Clean ((startL v).getD y []) ∧ (∀ R, Clean R → nv (dotF true ((startL v).getD y [] ++ R)) = (startU.getD y []).flatten ++ nv R) ∧ (∀ R S, Clean R → dotF true ((startL v).getD y [] ++ R ++ S) = dotF true ((startL v).getD y [] ++ R) ++ dotF false S) ∧ Clean (startU.getD y []).flatten ∧
    (∃ c r, (startL v).getD y [] = c :: r ∧ c ≠ 10) := by
  have hvc := nothing_facts v hv
  have key : ∀ (c : Nat) (R S : List Nat), c ≠ 46 → c ≠ 10 → Clean R → dotF true (c :: (R ++ S)) = c :: (R ++ dotF false S) := fun c R S h1 h2 hR => by
    rw [dotF, if_neg (by simp [h1]), show (c == 10) = false by simp [h2], dotF_app S hR]
  have key2 : ∀ (R S : List Nat), Clean R → dotF true (46 :: (R ++ S)) = 46 :: 46 :: (R ++ dotF false S) := fun R S hR => by
    rw [dotF, if_pos (by rfl), dotF_app S hR]
  refine four (P := fun y => Clean ((startL v).getD y []) ∧ (∀ R, Clean R → nv (dotF true ((startL v).getD y [] ++ R)) = (startU.getD y []).flatten ++ nv R) ∧ (∀ R S, Clean R → dotF true ((startL v).getD y [] ++ R ++ S) = dotF true ((startL v).getD y [] ++ R) ++ dotF false S) ∧ Clean (startU.getD y []).flatten ∧
    (∃ c r, (startL v).getD y [] = c :: r ∧ c ≠ 10)) ?_ ?_ ?_ ?_ hy
  · refine ⟨by show Clean [97]; unfold Clean; decide, fun R hR => ?_, fun R S hR => ?_, by unfold Clean; decide, ⟨97, [], rfl, by decide⟩⟩
    · have := key 97 R [] (by decide) (by decide) hR
      rw [List.append_nil] at this
      show nv (dotF true (97 :: R)) = 97 :: nv R
      rw [this, nv_keep (by decide)]; simp [dotF]
    · show dotF true (97 :: (R ++ S)) = dotF true (97 :: R) ++ dotF false S
      have := key 97 R [] (by decide) (by decide) hR
      rw [List.append_nil] at this
      rw [key 97 R S (by decide) (by decide) hR, this]; simp [dotF]
  · refine ⟨by show Clean [97]; unfold Clean; decide, fun R hR => ?_, fun R S hR => ?_, by unfold Clean; decide, ⟨97, [], rfl, by decide⟩⟩
    · have := key 97 R [] (by decide) (by decide) hR
      rw [List.append_nil] at this
      show nv (dotF true (97 :: R)) = 97 :: nv R
      rw [this, nv_keep (by decide)]; simp [dotF]
    · show dotF true (97 :: (R ++ S)) = dotF true (97 :: R) ++ dotF false S
      have := key 97 R [] (by decide) (by decide) hR
      rw [List.append_nil] at this
      rw [key 97 R S (by decide) (by decide) hR, this]; simp [dotF]
  · refine ⟨by show Clean [46]; unfold Clean; decide, fun R hR => ?_, fun R S hR => ?_, by unfold Clean; decide, ⟨46, [], rfl, by decide⟩⟩
    · have := key2 R [] hR
      rw [List.append_nil] at this
      show nv (dotF true (46 :: R)) = 46 :: 46 :: nv R
      rw [this, nv_keep (by decide), nv_keep (by decide)]; simp [dotF]
    · show dotF true (46 :: (R ++ S)) = dotF true (46 :: R) ++ dotF false S
      have := key2 R [] hR
      rw [List.append_nil] at this
      rw [key2 R S hR, this]; simp [dotF]
  · have hR46 : ∀ {R : List Nat}, Clean R → Clean (46 :: R) := fun {R} hR c hc => by
      rcases List.mem_cons.mp hc with rfl | hc
      · decide
      · exact hR c hc
    refine ⟨?_, fun R hR => ?_, fun R S hR => ?_, by unfold Clean; decide, ⟨v, [46], rfl, hvc.2.1⟩⟩
    · intro c hc
      have : c = v ∨ c = 46 := by simpa [startL] using hc
      rcases this with rfl | rfl
      · exact ⟨hvc.1, hvc.2.1⟩
      · decide
    · have := key v (46 :: R) [] hvc.2.2 hvc.2.1 (hR46 hR)
      rw [List.append_nil] at this
      show nv (dotF true (v :: 46 :: R)) = 46 :: nv R
      rw [this, nv_drop hv, List.cons_append, nv_keep (by decide)]; simp [dotF]
    · show dotF true (v :: (46 :: R ++ S)) = dotF true (v :: 46 :: R) ++ dotF false S
      have := key v (46 :: R) [] hvc.2.2 hvc.2.1 (hR46 hR)
      rw [List.append_nil] at this
      rw [key v (46 :: R) S hvc.2.2 hvc.2.1 (hR46 hR), this]; simp [dotF]
theorem Row.text_clean {r : Row} (h : r.good) : Clean r.text := (start_clean h.y h.v).1.app (toks_clean h.toks).1
theorem Row.sent {r : Row} (h : r.good) : nv (dotF true r.text) = (r.units false).flatten := by
  obtain ⟨h1, h2, h3, h4, _⟩ := start_clean h.y h.v
  obtain ⟨t1, t2, t3⟩ := toks_clean h.toks
  unfold Row.text Row.units
  rw [h2 _ t1, t2]; simp [loneU]
theorem lone_flat (r : Row) : (r.units true).flatten = (r.units false).flatten ++ [92] := by
  unfold Row.units loneU
  simp
theorem Row.units_clean {r : Row} (h : r.good) (b : Bool) : Clean (r.units b).flatten := by
  obtain ⟨_, _, _, h4, _⟩ := start_clean h.y h.v
  obtain ⟨_, _, t3⟩ := toks_clean h.toks
  unfold Row.units
  rw [List.flatten_append, List.flatten_append]
  exact h4.app (t3.app (by cases b <;> (unfold Clean; decide)))
theorem seen_one {r : Row} (h : r.good) : seenF (textOf r none) = (r.units false).flatten := by
  show nv (dotF true (normF r.text)) = _
  rw [normF_clean (Row.text_clean h), Row.sent h]
theorem seen_two {r r2 : Row} (h : r.good) (h2 : r2.good) {e : Nat} (he : e < 3) : seenF (textOf r (some (e, r2))) = (r.units (e == 0)).flatten ++ 13 :: 10 :: (r2.units false).flatten := by
  obtain ⟨c1, _, d1, _⟩ := start_clean h.y h.v
  obtain ⟨_, _, _, _, c, l, hcl, hc10⟩ := start_clean h2.y h2.v
  obtain ⟨t1, _⟩ := toks_clean h.toks
  have hr := Row.text_clean h
  have hr2 := Row.text_clean h2
  have hdot : ∀ S, dotF true (r.text ++ S) = dotF true r.text ++ dotF false S := fun S => d1 _ S t1
  have hcr : dotF false (13 :: 10 :: r2.text) = 13 :: 10 :: dotF true r2.text := by
    rw [dotF, if_neg (by simp), dotF, if_neg (by simp)]; rfl
  have h13 : nv (13 :: 10 :: dotF true r2.text) = 13 :: 10 :: (r2.units false).flatten := by
    rw [nv_keep (by decide), nv_keep (by decide), Row.sent h2]
  have hn10 : normF (10 :: r2.text) = 13 :: 10 :: r2.text := by
    have : normF (10 :: r2.text) = 13 :: 10 :: normF r2.text := by
      rw [normF]
      · rw [if_pos (by rfl)]
      · intro r h'; cases h'
    rw [this, normF_clean hr2]
  have hn13 : normF (13 :: r2.text) = 13 :: 10 :: r2.text := by
    have : normF (13 :: r2.text) = 13 :: 10 :: normF r2.text := by
      rw [normF]
      · rw [if_pos (by rfl)]
      · intro r h' h''
        unfold Row.text at h''
        rw [hcl] at h''
        have : c = 10 := (List.cons.inj h'').1
        exact hc10 this
    rw [this, normF_clean hr2]
  have hn1310 : normF (13 :: 10 :: r2.text) = 13 :: 10 :: r2.text := by
    rw [normF, normF_clean hr2]
  show nv (dotF true (normF (r.text ++ eols.getD e [] ++ r2.text))) = _
  rw [List.append_assoc, normF_app _ hr]
  match e, he with
  | 0, _ =>
    show nv (dotF true (r.text ++ normF (92 :: 10 :: r2.text))) = (r.units true).flatten ++ _
    rw [normF_step _ (by decide), hn10, hdot, nv_app, Row.sent h, lone_flat]
    rw [dotF, if_neg (by simp), show ((92 : Nat) == 10) = false by rfl, hcr, nv_keep (by decide), h13]
    simp
  | 1, _ =>
    show nv (dotF true (r.text ++ normF (13 :: 10 :: r2.text))) = (r.units false).flatten ++ _
    rw [hn1310, hdot, nv_app, Row.sent h, hcr, h13]
  | 2, _ =>
    show nv (dotF true (r.text ++ normF (13 :: r2.text))) = (r.units false).flatten ++ _
    rw [hn13, hdot, nv_app, Row.sent h, hcr, h13]
theorem normF_len : ∀ (n : Nat) (s : List Nat), s.length ≤ n → (normF s).length ≤ 2 * s.length
  | 0, s, h => by
    have : s = [] := List.length_eq_zero_iff.mp (by exact ar177 h)
    subst this; simp [normF]
  | n + 1, s, h => by
    unfold normF
    split
    · simp
    · rename_i r
      have := normF_len n r (by simp at h; exact ar5 h)
      simp; exact ar178 this
    · rename_i c r _
      have := normF_len n r (by simp at h; exact ar179 h)
      split <;> (simp; (first | exact ar180 this | exact ar181 this))
theorem dotF_len : ∀ (s : List Nat) (b : Bool), (dotF b s).length ≤ 2 * s.length
  | [], _ => by simp [dotF]
  | c :: r, b => by
    have h1 := dotF_len r false
    have h2 := dotF_len r (c == 10)
    rw [dotF]
    split <;> (simp; (first | exact ar180 h1 | exact ar181 h2))
end Mine
end
section
open PySem PySem.W
set_option maxRecDepth 100000
set_option maxHeartbeats 1000000
namespace Mine
theorem o_split {s : List Nat} (h : s.length ≤ lim) : MethR ("split" : Str) (.str s) (.str [13, 10]) (.list ((Txt.split ⟨s.toArray⟩ ⟨#[13, 10]⟩).map fun p => .str p.cps.toList)) := .split h
theorem o_sumE {l : List Int} {z : Int} (h : l.sum = z) : Call1R ("sum" : Str) (.list (l.map D.int)) (.int z) := h ▸ .sum l
theorem o_lenE {s : List D} {z : Int} (h : s.length ≤ lim) (e : (s.length : Int) = z) : Call1R ("len" : Str) (.list s) (.int z) := e ▸ .lenL h
theorem fresh_sim {sc : Scope} {t : Expr} {ρ L : Store} {J : List Str} (h : Sim ρ L J) (hj : (tnames t).all (fun x => !J.contains x) = true) (hL : freshT sc t L = true) : freshT sc t ρ = true := by
  unfold freshT at hL ⊢
  rw [List.all_eq_true] at hj hL ⊢
  intro x hx
  have h1 := hj x hx
  have h2 := hL x hx
  rw [h x (by simpa using h1)]
  exact h2
noncomputable def idxS : Nat → Pc → List (Nat × (Nat × Nat))
  | _, [] => []
  | k, s :: r => (k, s) :: idxS (k + 1) r
noncomputable def itemS (e : Nat × (Nat × Nat)) : D := .tuple [.int e.1, pairD e.2]
theorem numbered_idxS : ∀ k (S : Pc), numbered k (S.map pairD) = (idxS k S).map itemS
  | _, [] => rfl
  | k, c :: r => by rw [List.map_cons, numbered, numbered_idxS]; rfl
theorem idxS_length : ∀ k (S : Pc), (idxS k S).length = S.length
  | _, [] => rfl
  | k, c :: r => by simp [idxS, idxS_length]
theorem idxS_fst : ∀ k (S : Pc), ∀ e ∈ idxS k S, e.1 < k + S.length
  | _, [], e, h => by cases h
  | k, c :: r, e, h => by
    rcases List.mem_cons.mp h with rfl | h
    · simp
    · have := idxS_fst (k + 1) r e h
      simp at this ⊢; exact ar6 this
theorem sum_gS (first p : Nat) : ∀ (k : Nat) (S : Pc), (((idxS k S).filter fun e => decide ((e.2.1 : Int) < p) && decide ((p : Int) < e.2.2)).map fun e => (2 : Int) ^ ((first : Int) + (e.1 : Int)).toNat).sum = ((2 ^ (first + k) * gS p S : Nat) : Int)
  | k, [] => by simp [idxS, gS]
  | k, s :: r => by
    have ih := sum_gS first p (k + 1) r
    have e0 : ((first : Int) + (k : Int)).toNat = first + k := by exact ar400
    rw [idxS, gS]
    by_cases h : s.1 < p ∧ p < s.2
    · have h1 : (decide ((s.1 : Int) < p) && decide ((p : Int) < s.2)) = true := by simp; exact ar401 h
      rw [List.filter_cons_of_pos (p := fun e : Nat × (Nat × Nat) => decide ((e.2.1 : Int) < p) && decide ((p : Int) < e.2.2)) (a := (k, s)) h1, List.map_cons, List.sum_cons, ih, if_pos h, e0, pow_cast, ← Int.natCast_add]
      congr 1
      rw [Nat.mul_add, show first + (k + 1) = first + k + 1 by exact ar402, Nat.pow_succ, Nat.mul_one, Nat.mul_assoc]
    · have h1 : ¬ (decide ((s.1 : Int) < p) && decide ((p : Int) < s.2)) = true := by simp; exact ar85 h
      rw [List.filter_cons_of_neg (p := fun e : Nat × (Nat × Nat) => decide ((e.2.1 : Int) < p) && decide ((p : Int) < e.2.2)) (a := (k, s)) h1, ih, if_neg h]
      congr 1
      rw [Nat.zero_add, show first + (k + 1) = first + k + 1 by exact ar402, Nat.pow_succ, Nat.mul_assoc]
theorem sum_br (q : Nat) : ∀ n : Nat, ((List.range n).map fun i : Nat => (q : Int) ^ (0 + (i : Int)).toNat).sum = ((br q n : Nat) : Int)
  | 0 => rfl
  | n + 1 => by
    rw [List.range_succ, List.map_append, List.sum_append, sum_br q n, br]
    simp
noncomputable def PH (q : Nat) : List Nat → Nat
  | [] => 1
  | s :: r => br q s * PH q r
theorem PH_app (q : Nat) : ∀ a b, PH q (a ++ b) = PH q a * PH q b
  | [], b => by simp [PH]
  | s :: r, b => by rw [List.cons_append, PH, PH, PH_app q r b, Nat.mul_assoc]
theorem Hm_PH (q : Nat) (l : List Nat) : ∀ n, n ≤ l.length → Hm q (fun k => l.getD k 0) (2 ^ l.length - 1) n = PH q (l.take n)
  | 0, _ => by simp [Hm, PH]
  | n + 1, h => by
    have hn : n < l.length := by exact ar169 h
    rw [Hm, Hm_PH q l n (by exact ar5 h), Nat.testBit_two_pow_sub_one, decide_eq_true hn, if_pos rfl, List.take_succ_eq_append_getElem hn, PH_app, PH, PH, Nat.mul_one]
    congr 2
    rw [List.getD_eq_getElem?_getD, List.getElem?_eq_getElem hn]; rfl
theorem PH_pos {q : Nat} (hq : 0 < q) : ∀ l : List Nat, (∀ s ∈ l, 0 < s) → 0 < PH q l
  | [], _ => by simp [PH]
  | s :: r, h => Nat.mul_pos (br_pos q hq (h s (by simp))) (PH_pos hq r fun x hx => h x (by simp [hx]))
noncomputable def bAll (l : List (List (List Nat))) : List Nat := l.foldl (fun b u => b ++ (belowF (piecesF u)).map (2 ^ b.length * ·)) []
noncomputable def sAll (l : List (List (List Nat))) : List Nat := l.flatMap fun u => sizesF (piecesF u)
theorem bAll_snoc (l u) : bAll (l ++ [u]) = bAll l ++ (belowF (piecesF u)).map (2 ^ (bAll l).length * ·) := by
  unfold bAll; rw [List.foldl_append]; rfl
theorem sAll_snoc (l u) : sAll (l ++ [u]) = sAll l ++ sizesF (piecesF u) := by simp [sAll]
noncomputable def rowsOf : Row → Option (Nat × Row) → List (List (List Nat))
  | r, none => [r.units false]
  | r, some (e, r2) => [r.units (e == 0), r2.units false]
theorem Row.flat_len {r : Row} (h : r.good) (hl : r.toks.length ≤ 21) (b : Bool) : (r.units b).flatten.length ≤ 100 := by
  have h1 := toks_clean h.toks
  have h2 := flat_text_len r.toks h.toks
  have h3 : (r.toks.flatMap Tok.units).flatten.length ≤ (r.toks.flatMap Tok.text).length := by rw [← h1.2.1]; exact List.length_filter_le ..
  have h4 : (startU.getD r.y []).flatten.length ≤ 2 := four (P := fun y => (startU.getD y []).flatten.length ≤ 2) (by decide) (by decide) (by decide) (by decide) h.y
  have h5 : (loneU b).flatten.length ≤ 1 := by cases b <;> decide
  unfold Row.units
  rw [List.flatten_append, List.flatten_append, List.length_append, List.length_append]; exact ar403 hl h2 h3 h4 h5
theorem rows_facts {mail bushes r o} (h : MDone mail bushes r o) : seenF mail = (match rowsOf r o with | [a, b] => a.flatten ++ 13 :: 10 :: b.flatten | [a] => a.flatten | _ => []) ∧
    (Txt.split ⟨(seenF mail).toArray⟩ ⟨#[13, 10]⟩).map (fun p => D.str p.cps.toList) = (rowsOf r o).map (fun us => D.str us.flatten) ∧
    (∀ us ∈ rowsOf r o, Units us ∧ us.flatten.length ≤ 100 ∧ (piecesF us).length ≤ 8) ∧ (rowsOf r o).length ≤ 2 ∧
    (sAll (rowsOf r o)).map (fun n : Nat => (n : Int)) = bushes.flatMap hooksF ∧
    (bAll (rowsOf r o)).length = (sAll (rowsOf r o)).length ∧ (sAll (rowsOf r o)).length ≤ 9 ∧ Bush (sAll (rowsOf r o)).length (fun k => (bAll (rowsOf r o)).getD k 0) (fun k => (sAll (rowsOf r o)).getD k 0) ∧
    mail.length ≤ 174 ∧ (seenF mail).length ≤ 300 ∧ ∀ b ∈ bushes, b.length ≤ 23 := by
  have hcl : ∀ (r : Row) (b : Bool), r.good → 13 ∉ (r.units b).flatten := fun r b h hm => (Row.units_clean h b 13 hm).1 rfl
  have hsl : ∀ S : Pc, (sizesF S).length = S.length := fun S => by simp [sizesF]
  have hbl : ∀ S : Pc, (belowF S).length = S.length := fun S => by simp [belowF]
  have hg := h.good
  cases o with
  | none =>
    have h1 := h.one rfl
    have hc := Row.count hg false
    have hf := Row.flat_len hg h.len false
    have hs1 := seen_one hg
    rw [← h.text] at hs1
    have e1 : bAll (rowsOf r none) = belowF (piecesF (r.units false)) := by simp [bAll, rowsOf]
    have e2 : sAll (rowsOf r none) = sizesF (piecesF (r.units false)) := by simp [sAll, rowsOf]
    refine ⟨hs1, ?_, ?_, by simp [rowsOf], ?_, ?_, ?_, ?_, ?_, ?_, ?_⟩
    · rw [hs1]
      have := congrArg (List.map D.str) (split_one (hcl r false hg))
      rw [List.map_map] at this
      exact this
    · intro us hu
      have : us = r.units false := by simpa [rowsOf] using hu
      subst this
      exact ⟨Row.units_ok hg _, hf, by exact ar404 h1 hc⟩
    · rw [e2, ← Row.hooks hg, h.bush]; simp [bushesOf]
    · rw [e1, e2, hsl, hbl]
    · rw [e2, hsl]; exact ar405 h1 hc
    · rw [e1, e2, hsl]; exact spans_bush (Row.spans hg false)
    · rw [h.text]; have := Row.text_len hg; have := h.len; show r.text.length ≤ _; omega
    · rw [hs1]; exact ar406 hf
    · intro b hb
      rw [h.bush] at hb
      have : b = r.bush := by simpa [bushesOf] using hb
      subst this
      have := Row.bush_len hg; have := h.len; omega
  | some p =>
    obtain ⟨e, r2⟩ := p
    obtain ⟨he, hg2, hl2, hnp⟩ := h.two e r2 rfl
    have hc := Row.count hg (e == 0)
    have hc2 := Row.count hg2 false
    have hf := Row.flat_len hg h.len (e == 0)
    have hf2 := Row.flat_len hg2 hl2 false
    have hs1 := seen_two hg hg2 he
    rw [← h.text] at hs1
    have e1 : bAll (rowsOf r (some (e, r2))) = belowF (piecesF (r.units (e == 0))) ++ (belowF (piecesF (r2.units false))).map (2 ^ (piecesF (r.units (e == 0))).length * ·) := by
      rw [rowsOf, show [r.units (e == 0), r2.units false] = [r.units (e == 0)] ++ [r2.units false] from rfl, bAll_snoc]
      have : bAll [r.units (e == 0)] = belowF (piecesF (r.units (e == 0))) := by simp [bAll]
      rw [this, hbl]
    have e2 : sAll (rowsOf r (some (e, r2))) = sizesF (piecesF (r.units (e == 0))) ++ sizesF (piecesF (r2.units false)) := by simp [sAll, rowsOf]
    refine ⟨hs1, ?_, ?_, by simp [rowsOf], ?_, ?_, ?_, ?_, ?_, ?_, ?_⟩
    · rw [hs1]
      have := congrArg (List.map D.str) (split_two (hcl r (e == 0) hg) (hcl r2 false hg2))
      rw [List.map_map] at this
      exact this
    · intro us hu
      have : us = r.units (e == 0) ∨ us = r2.units false := by simpa [rowsOf] using hu
      rcases this with rfl | rfl
      · exact ⟨Row.units_ok hg _, hf, by exact ar407 hnp hc⟩
      · exact ⟨Row.units_ok hg2 _, hf2, by exact ar408 hnp hc2⟩
    · rw [e2, List.map_append, ← Row.hooks hg, ← Row.hooks hg2, h.bush]; simp [bushesOf]
    · rw [e1, e2, List.length_append, List.length_append, List.length_map, hsl, hbl, hsl, hbl]
    · rw [e2, List.length_append, hsl, hsl]; exact ar409 hnp hc hc2
    · rw [e1, e2, List.length_append, hsl, hsl]
      exact bush_app (hbl _) (hsl _) (hbl _) (hsl _) (spans_bush (Row.spans hg _)) (spans_bush (Row.spans hg2 _))
    · rw [h.text]
      have := Row.text_len hg; have := Row.text_len hg2; have := h.len
      have h8 : (eols.getD e []).length ≤ 2 := by
        match e, he with
        | 0, _ | 1, _ | 2, _ => simp [eols]
      rw [textOf, List.length_append, List.length_append]; omega
    · rw [hs1]; simp only [List.length_append, List.length_cons]; exact ar410 hf hf2
    · intro b hb
      rw [h.bush] at hb
      have : b = r.bush ∨ b = r2.bush := by simpa [bushesOf] using hb
      have := Row.bush_len hg; have := Row.bush_len hg2; have := h.len
      rcases ‹b = r.bush ∨ b = r2.bush› with rfl | rfl <;> omega
end Mine
end
section
open PySem PySem.W
set_option maxRecDepth 100000
set_option maxHeartbeats 1000000
namespace Mine
local macro_rules | `(tactic| walk_at "se") => `(tactic| first
  | exact y_c rfl
  | exact y_n (Sim.get (by assumption) (by rfl) (by rfl)) rfl rfl
  | exact y_nm (Sim.get (by assumption) (by rfl) (by rfl)) rfl rfl
  | exact y_s0
  | exact y_o0
  | exact y_dict0
  | exact y_t0
  | (focus apply y_s1; all_goals first | walk_at "se" | skip)
  | (focus apply y_o1; all_goals first | walk_at "se" | skip)
  | (focus apply y_bin; all_goals first | walk_at "se" | rfl | (constructor; done) | exact OpR.cat (Nat.le_of_ble_eq_true rfl) | exact o_add rfl | exact OpR.pow (by decide) (by decide) (by decide) | skip)
  | (focus apply y_un; all_goals first | walk_at "se" | rfl | (constructor; done) | exact OpR.cat (Nat.le_of_ble_eq_true rfl) | exact o_add rfl | exact OpR.pow (by decide) (by decide) (by decide) | skip)
  | (focus apply y_cmp (by rfl); all_goals first | walk_at "se" | rfl | (constructor; done) | exact OpR.cat (Nat.le_of_ble_eq_true rfl) | exact o_add rfl | exact OpR.pow (by decide) (by decide) (by decide) | skip)
  | (focus apply y_b_cmp (by rfl); all_goals first | walk_at "se" | rfl | (constructor; done) | exact OpR.cat (Nat.le_of_ble_eq_true rfl) | exact o_add rfl | exact OpR.pow (by decide) (by decide) (by decide) | skip)
  | (focus apply y_list; all_goals first | walk_at "se" | rfl | exact Nat.le_of_ble_eq_true rfl | skip)
  | (focus apply y_t1; all_goals first | walk_at "se" | decide | skip)
  | (focus apply y_tup; all_goals first | walk_at "se" | exact Nat.le_of_ble_eq_true rfl | skip)
  | (focus apply y_slice (by rfl); all_goals first | walk_at "se" | rfl | (constructor; done) | exact OpR.cat (Nat.le_of_ble_eq_true rfl) | exact o_add rfl | exact OpR.pow (by decide) (by decide) (by decide) | skip)
  | (focus apply y_sub (by rfl); all_goals first | walk_at "se" | rfl | (constructor; done) | exact OpR.cat (Nat.le_of_ble_eq_true rfl) | exact o_add rfl | exact OpR.pow (by decide) (by decide) (by decide) | skip)
  | (focus apply y_meth (by rfl); all_goals first | walk_at "se" | rfl | (constructor; done) | exact OpR.cat (Nat.le_of_ble_eq_true rfl) | exact o_add rfl | exact OpR.pow (by decide) (by decide) (by decide) | skip))
theorem bind_sim {sc : Scope} {t : Expr} {d : D} {ρ L L' : Store} {J : List Str} (h : Sim ρ L J) (hb : BindR sc t d L L') : ∃ ρ', BindR sc t d ρ ρ' ∧ Sim ρ' L' J := by
  have hJ : ∀ x : Str, (J.all fun y => y == x || J.contains y) = true := fun x => List.all_eq_true.mpr fun y hy => by simp [hy]
  cases hb with
  | one hx hc => exact ⟨_, .one hx hc, h.tell (hJ _)⟩
  | two hx hy h1 h2 => exact ⟨_, .two hx hy h1 h2, (h.tell (hJ _)).tell (hJ _)⟩
theorem s_comp_all {C : Cx} {sc sc0 csc : Scope} {ρ L : Store} {J : List Str} (hs : Sim ρ L J) {elt t : Expr} {ifs : List Expr} {α : Type} (it : α → D) (keep : α → Bool) (f : α → D) {l : List α} (Lb : α → Store) (hL : ∀ a, BindR sc t (it a) (seenIn sc0 csc L) (Lb a))
    (step : ∀ a ∈ l, ∀ ρ', Sim ρ' (Lb a) J → EvfC C sc ifs ρ' (keep a) ∧ (keep a = true → Val C sc elt ρ' (f a))) (him : ∀ a, (f a).im = true) (hJ : (tnames t).all (fun x => !J.contains x) = true) (hf : freshT sc t (seenIn sc0 csc L) = true) :
    CompC C sc elt t ifs (l.map it) (seenIn sc0 csc ρ) ((l.filter keep).map f) := by
  have hs' : Sim (seenIn sc0 csc ρ) (seenIn sc0 csc L) J := hs.seen
  apply y_comp_all it keep f l
  · intro a ha
    obtain ⟨ρ', h1, h2⟩ := bind_sim hs' (hL a)
    obtain ⟨h3, h4⟩ := step a ha ρ' h2
    exact ⟨ρ', h1, h3, h4, him a⟩
  · exact fresh_sim hs' hJ hf
theorem s_comp_in {C : Cx} {sc : Scope} {ρ L : Store} {J : List Str} (hs : Sim ρ L J) {elt t : Expr} {ifs : List Expr} {α : Type} (it : α → D) (keep : α → Bool) (f : α → D) {l : List α} (Lb : α → Store) (hL : ∀ a, BindR sc t (it a) L (Lb a))
    (step : ∀ a ∈ l, ∀ ρ', Sim ρ' (Lb a) J → EvfC C sc ifs ρ' (keep a) ∧ (keep a = true → Val C sc elt ρ' (f a))) (him : ∀ a, (f a).im = true) (hJ : (tnames t).all (fun x => !J.contains x) = true) (hf : freshT sc t L = true) :
    CompC C sc elt t ifs (l.map it) ρ ((l.filter keep).map f) := by
  apply y_comp_all it keep f l
  · intro a ha
    obtain ⟨ρ', h1, h2⟩ := bind_sim hs (hL a)
    obtain ⟨h3, h4⟩ := step a ha ρ' h2
    exact ⟨ρ', h1, h3, h4, him a⟩
  · exact fresh_sim hs hJ hf
theorem s_comp2_all {C : Cx} {sc sc0 csc : Scope} {ρ L : Store} {J : List Str} (hs : Sim ρ L J) {elt t t' it' : Expr} {α : Type} (it : α → D) (h f : α → List D) {l : List α} (Lb : α → Store) (hL : ∀ a, BindR sc t (it a) (seenIn sc0 csc L) (Lb a))
    (step : ∀ a ∈ l, ∀ ρ', Sim ρ' (Lb a) J → (∃ b, EviC C sc (isTupleT t') it' ρ' (h a) b) ∧ CompC C sc elt t' [] (h a) ρ' (f a)) (hJ : (tnames t).all (fun x => !J.contains x) = true) (hf : freshT sc t (seenIn sc0 csc L) = true) :
    Comp2C C sc elt t t' it' (l.map it) (seenIn sc0 csc ρ) (l.flatMap f) := by
  have hs' : Sim (seenIn sc0 csc ρ) (seenIn sc0 csc L) J := hs.seen
  apply y_comp2_all it h f l
  · intro a ha
    obtain ⟨ρ', h1, h2⟩ := bind_sim hs' (hL a)
    obtain ⟨h3, h4⟩ := step a ha ρ' h2
    exact ⟨ρ', h1, h3, h4⟩
  · exact fresh_sim hs' hJ hf
theorem ev_some {C : Cx} {sc : Scope} {tup e ρ l b} (h : EviC C sc tup e ρ l b) : ∃ b, EviC C sc tup e ρ l b := ⟨b, h⟩
theorem hooksF_len : ∀ b, (hooksF b).length ≤ b.length
  | [] => by simp [hooksF]
  | c :: r => by
    have := hooksF_len r
    rw [hooksF, List.length_append, List.length_cons]
    split <;> simp <;> (first | exact ar43 this | exact ar58 this)
theorem numbered_nat : ∀ k (l : List Nat), numbered k (l.map fun n : Nat => D.int n) = (idx k l).map pairD
  | _, [] => rfl
  | k, c :: r => by rw [List.map_cons, numbered, numbered_nat]; rfl
theorem idx_snd : ∀ k (l : List Nat), (idx k l).map (·.2) = l
  | _, [] => rfl
  | k, c :: r => by rw [idx, List.map_cons, idx_snd]
noncomputable def natsD (l : List Nat) : D := .list (l.map fun n : Nat => D.int n)
theorem ims_nat (l : List Nat) : D.ims (l.map fun n : Nat => D.int n) = true := D.ims_all fun d h => by
  obtain ⟨p, _, rfl⟩ := List.mem_map.mp h
  rfl
noncomputable def shL (script : List Int) (mail : List Nat) (bushes : List (List Nat)) (seen b s : List Nat) : Store :=
  [(("script" : Str), D.list (script.map D.int)), (("letter" : Str), .str mail), (("bushes" : Str), .list (bushes.map D.str)), (("seen" : Str), .str seen), (("below" : Str), natsD b), (("sizes" : Str), natsD s)]
noncomputable def shL1 (script : List Int) (mail : List Nat) (bushes : List (List Nat)) (seen b s row : List Nat) (S : Pc) (first : Nat) : Store :=
  [(("script" : Str), D.list (script.map D.int)), (("letter" : Str), .str mail), (("bushes" : Str), .list (bushes.map D.str)), (("seen" : Str), .str seen), (("below" : Str), natsD b), (("sizes" : Str), natsD s),
   (("row" : Str), .str row), (("spans" : Str), .list (S.map pairD)), (("first" : Str), .int first)]
noncomputable def shL2 (script : List Int) (mail : List Nat) (bushes : List (List Nat)) (seen b s row : List Nat) (S : Pc) (first : Nat) (p : Nat × Nat) : Store :=
  [(("script" : Str), D.list (script.map D.int)), (("letter" : Str), .str mail), (("bushes" : Str), .list (bushes.map D.str)), (("seen" : Str), .str seen), (("below" : Str), natsD b), (("sizes" : Str), natsD s),
   (("row" : Str), .str row), (("spans" : Str), .list (S.map pairD)), (("first" : Str), .int first), (("place" : Str), .int p.1), (("end" : Str), .int p.2)]
theorem natsD_snoc (l : List Nat) (n : Nat) : D.list (l.map (fun n : Nat => D.int n) ++ [.int n]) = natsD (l ++ [n]) := by simp [natsD]
theorem o_lenN {l : List Nat} (h : l.length ≤ lim) : Call1R ("len" : Str) (natsD l) (.int l.length) := by
  have := o_lenL (s := l.map fun n : Nat => D.int n) (by rw [List.length_map]; exact h)
  rw [List.length_map] at this
  exact this
theorem keep_size (S : Pc) (p : Nat × Nat) : (S.filter fun s => decide ((p.1 : Int) ≤ s.1) && decide ((s.1 : Int) < p.2)).length = sizeAt S p := by
  unfold sizeAt
  congr 1
  apply List.filter_congr
  intro s _
  rw [Bool.eq_iff_iff]
  simp
theorem shL1_drop {ρ : Store} {script mail bushes seen b s row S first} (h : Sim ρ (shL1 script mail bushes seen b s row S first) ["place", "end"]) : Sim ρ (shL script mail bushes seen b s) ["row", "spans", "first", "place", "end"] :=
  ((h.drop (J' := ["first", "place", "end"]) ("first" : Str) (by rfl)).drop (J' := ["spans", "first", "place", "end"]) ("spans" : Str) (by rfl)).drop ("row" : Str) (by rfl)
noncomputable def shF (script : List Int) (mail : List Nat) (bushes : List (List Nat)) (seen b s : List Nat) (q t d : Nat) : Store :=
  [(("script" : Str), D.list (script.map D.int)), (("letter" : Str), .str mail), (("bushes" : Str), .list (bushes.map D.str)), (("seen" : Str), .str seen), (("below" : Str), natsD b), (("sizes" : Str), natsD s),
   (("q" : Str), .int q), (("told" : Str), .int t), (("due" : Str), .int d)]
theorem br_fits {q : Nat} (hq : 2 ≤ q) (hq' : q ≤ 1000) {n : Nat} (hn : n ≤ 9) : fits ((br q n : Nat) : Int) = true := by
  have h1 := br_le hq hq' hn
  unfold fits bigN
  rw [decide_eq_true_eq, Int.natAbs_natCast]
  exact Nat.lt_of_le_of_lt h1 (Nat.pow_lt_pow_right (by decide) (by decide))
theorem mod_val (script : List Int) : ∃ q : Nat, (2 : Int) + Int.fmod (((script.take 8).drop 7).sum) 998 = q ∧ 2 ≤ q ∧ q ≤ 1000 := by
  have h1 := Int.fmod_nonneg_of_pos (((script.take 8).drop 7).sum) (show (0 : Int) < 998 by decide)
  have h2 := Int.fmod_lt_of_pos (((script.take 8).drop 7).sum) (show (0 : Int) < 998 by decide)
  obtain ⟨q, hq⟩ := Int.eq_ofNat_of_zero_le (show 0 ≤ (2 : Int) + Int.fmod (((script.take 8).drop 7).sum) 998 by exact ar411 h1)
  exact ⟨q, hq, by exact ar412 h1 hq, by exact ar413 h2 hq⟩
theorem f_law {C : Cx} {k : Nat} (hR : Rm C (k + 7)) {script : List Int} (hl : script.length ≤ 63) : FnC C "law" [.list (script.map D.int)] (.bool true) := by
  apply fn_of hR ["script"] ["letter", "bushes", "seen", "below", "sizes", "row", "spans", "first", "place", "end", "q", "told", "due", "k", "size"] (by decide +kernel) (by rfl) (binds1 fun _ _ _ _ _ => rfl) (by rfl) (by rfl)
  clear hR C
  intro C hR
  show Xs C _ ["script"] _ _ [(("script" : Str), D.list (script.map D.int))] _
  have s0 := Sim.refl [(("script" : Str), D.list (script.map D.int))]
  apply s_tupfn s0 (by rfl) (by rfl) (by rfl)
  · walk_at "se"
  · exact f_mail hR hl
  rintro d ⟨mail, bushes, r, o, hM, rfl⟩
  refine ⟨[.str mail, .list (bushes.map D.str)], _, rfl, rfl, ?_⟩
  obtain ⟨_, hsplit, hU, hU2, hhooks, hbs, hs9, hbush, hml, hsl, hbl⟩ := rows_facts hM
  have hb2 : bushes.length ≤ 2 := by
    rw [hM.bush]
    cases o with
    | none => simp [bushesOf]
    | some p => simp [bushesOf]
  clear hM
  have hscl : (script.map D.int).length ≤ lim := by rw [List.length_map]; show _ ≤ 2 ^ 20; exact ar358 hl
  generalize rowsOf r o = U at *
  intro ρ1 s1
  have hnf : (normF mail).length ≤ 2 * mail.length := normF_len _ _ (Nat.le_refl _)
  have hqf : (quoteF mail).length ≤ 2 * (normF mail).length := dotF_len _ _
  apply s_as (d := .str (seenF mail)) s1 [] (by rfl) (by rfl)
  · apply y_meth (by rfl)
    · walk_at "se"
    · apply y_comp (ds := ((quoteF mail).filter (fun c => !nothingL.contains c)).map fun c => D.str [c]) (by rfl)
      · apply y_i_fn
        · apply y_fn (by rfl)
          · walk_at "se"
          · have h1 : mail.length ≤ lim := by show _ ≤ 2 ^ 20; exact ar414 hml
            have h2 : (normF mail).length ≤ lim := by show _ ≤ 2 ^ 20; exact ar415 hml hnf
            have h3 : (quoteF mail).length ≤ lim := by show _ ≤ 2 ^ 20; exact ar416 hml hnf hqf
            exact f_quote hR h1 h2 h3
        · have h3 : (quoteF mail).length ≤ lim := by show _ ≤ 2 ^ 20; exact ar416 hml hnf hqf
          simp only [itemsOf, h3, if_true]
          rfl
      · refine s_comp_all s1 (fun c : Nat => D.str [c]) (fun c => !nothingL.contains c) (fun c => D.str [c]) _ (fun _ => by first | exact .one (by rfl) rfl | exact .two (by rfl) (by rfl) rfl rfl) ?_ (fun _ => rfl) (by rfl) (by rfl)
        intro c hc ρ' s2
        refine ⟨?_, fun _ => ?_⟩
        · apply y_bs1
          apply y_b_not
          apply y_b_call
          apply y_fn (by rfl)
          · walk_at "se"
          · exact f_b1 hR c
        · apply Val.of
          walk_at "se"
      · rw [List.length_map]
        have := List.length_filter_le (fun c => !nothingL.contains c) (quoteF mail)
        show _ ≤ 2 ^ 20; exact ar417 hml hnf hqf this
    · have e1 : ((quoteF mail).filter (fun c => !nothingL.contains c)).map (fun c => D.str [c]) = ((seenF mail).map fun c => [c]).map D.str := by rw [List.map_map]; rfl
      have e2 : ((seenF mail).map fun c => [c]).flatten = seenF mail := by
        generalize seenF mail = l
        induction l with
        | nil => rfl
        | cons c r ih => rw [List.map_cons, List.flatten_cons, ih]; rfl
      rw [e1]
      have h1 : (seenF mail).length ≤ 2 ^ 20 := by exact ar418 hsl
      have := o_join (ss := (seenF mail).map fun c => [c]) (by rw [e2]; exact h1) (by rw [List.length_map]; exact h1)
      rw [e2] at this
      exact this
  · rfl
  · rfl
  intro ρ2 s2
  have hsl20 : (seenF mail).length ≤ lim := by show _ ≤ 2 ^ 20; exact ar418 hsl
  generalize seenF mail = seen at *
  apply s_as (d := natsD []) s2 [] (by rfl) (by rfl)
  · walk_at "se"
  · rfl
  · rfl
  intro ρ3 s3
  apply s_as (d := natsD []) s3 [] (by rfl) (by rfl)
  · walk_at "se"
  · rfl
  · rfl
  intro ρ4 s4
  clear s0 s1 s2 s3
  apply z_mid (fun ρ' => Sim ρ' (shL script mail bushes seen (bAll U) (sAll U)) ["row", "spans", "first", "place", "end"])
  · apply z_for ["row", "spans", "first", "place", "end", "below", "sizes"]
    · apply y_i_fn
      · apply y_meth (by rfl)
        · walk_at "se"
        · walk_at "se"
        · exact o_split hsl20
      · rw [hsplit]
        have h1 : D.ims (U.map fun us => D.str us.flatten) = true := D.ims_all fun d h => by
          obtain ⟨p, _, rfl⟩ := List.mem_map.mp h; rfl
        have h2 : U.length ≤ lim := by show _ ≤ 2 ^ 20; exact ar365 hU2
        simp only [itemsOf, List.length_map, h1, h2, decide_true, Bool.and_self, if_true]
        rfl
    · rfl
    · rfl
    apply z_loop U (fun pre ρ => Sim ρ (shL script mail bushes seen (bAll pre) (sAll pre)) ["row", "spans", "first", "place", "end"] ∧ (bAll pre).length ≤ 8 * pre.length ∧ (sAll pre).length ≤ 8 * pre.length) (fun _ _ => False) (fun us => D.str us.flatten)
    · rfl
    · exact ⟨fun x hx => s4 x rfl, by simp [bAll], by simp [sAll]⟩
    · rintro pre us post hpre ρ ⟨s5, hb8, hs8⟩
      clear s4
      have hplen : pre.length < 2 := by
        have := congrArg List.length hpre
        simp at this; exact ar419 hU2 this
      obtain ⟨hu, hul, hup⟩ := hU us (by rw [hpre]; simp)
      rw [bAll_snoc, sAll_snoc]
      generalize bAll pre = b at *
      generalize sAll pre = s at *
      refine ⟨ρ.set ("row" : Str) (.str us.flatten), .one (by rfl) rfl, ?_⟩
      have s6 : Sim (ρ.set ("row" : Str) (.str us.flatten)) ((shL script mail bushes seen b s).set ("row" : Str) (.str us.flatten)) ["spans", "first", "place", "end"] := s5.tell (by rfl)
      generalize ρ.set ("row" : Str) (.str us.flatten) = ρ6 at s6
      clear s5
      apply s_as (d := .list ((piecesF us).map pairD)) s6 ["first", "place", "end"] (by rfl) (by rfl)
      · apply y_fn (by rfl)
        · walk_at "se"
        · exact f_pieces hR hu (by exact ar406 hul)
      · rfl
      · rfl
      intro ρ7 s7
      clear s6
      have hS1 : (belowF (piecesF us)) = (piecesF us).map fun p => gS p.1 (piecesF us) := rfl
      have hS2 : (sizesF (piecesF us)) = (piecesF us).map (sizeAt (piecesF us)) := rfl
      rw [hS1, hS2]
      generalize piecesF us = S at *
      have hSl : (S.map pairD).length ≤ lim := by rw [List.length_map]; show _ ≤ 2 ^ 20; exact ar420 hup
      apply s_as (d := .int b.length) s7 ["place", "end"] (by rfl) (by rfl)
      · apply y_call1 (by rfl)
        · walk_at "se"
        · exact o_lenN (by show _ ≤ 2 ^ 20; exact ar421 hplen hb8)
      · rfl
      · rfl
      intro ρ8 s8
      replace s8 : Sim ρ8 (shL1 script mail bushes seen b s us.flatten S b.length) ["place", "end"] := s8
      clear s7
      apply z_x
      apply z_for ["place", "end", "below", "sizes"]
      · apply y_i_name
        · walk_at "se"
        · simp only [itemsOf, hSl, ims_pair, decide_true, Bool.and_self, if_true]
          rfl
      · rfl
      · rfl
      apply z_loop S (fun pre' ρ => Sim ρ (shL1 script mail bushes seen (b ++ pre'.map fun p => 2 ^ b.length * gS p.1 S) (s ++ pre'.map (sizeAt S)) us.flatten S b.length) ["place", "end"] ∧ pre'.length ≤ S.length) (fun _ _ => False) pairD
      · rfl
      · exact ⟨by simpa using s8, Nat.zero_le _⟩
      · rintro pre' p post' hpre' ρ ⟨s9, hl9⟩
        clear s8
        have hp'len : pre'.length < S.length := by rw [hpre']; simp
        rw [List.map_append, List.map_append, List.map_singleton, List.map_singleton, ← List.append_assoc, ← List.append_assoc]
        have hb20 : (b ++ pre'.map fun p => 2 ^ b.length * gS p.1 S).length < 100 := by rw [List.length_append, List.length_map]; exact ar422 hplen hb8 hup hp'len
        have hs20 : (s ++ pre'.map (sizeAt S)).length < 100 := by rw [List.length_append, List.length_map]; exact ar422 hplen hs8 hup hp'len
        generalize (b ++ pre'.map fun p => 2 ^ b.length * gS p.1 S) = b' at *
        generalize (s ++ pre'.map (sizeAt S)) = s' at *
        refine ⟨(ρ.set ("place" : Str) (.int p.1)).set ("end" : Str) (.int p.2), .two (by rfl) (by rfl) rfl rfl, ?_⟩
        have s10 : Sim ((ρ.set ("place" : Str) (.int p.1)).set ("end" : Str) (.int p.2)) (shL2 script mail bushes seen b' s' us.flatten S b.length p) [] := (s9.tell (x := ("place" : Str)) (J' := ["end"]) (by rfl)).tell (by rfl)
        generalize (ρ.set ("place" : Str) (.int p.1)).set ("end" : Str) (.int p.2) = ρ10 at s10
        clear s9
        apply s_app (d := .int ((2 ^ b.length * gS p.1 S : Nat) : Int)) s10 (by rfl) (by rfl) (by rfl)
        · exact Sim.get (by assumption) (by rfl) (by rfl)
        · apply y_call1 (by rfl)
          · apply y_comp (ds := (((idxS 0 S).filter fun e => decide ((e.2.1 : Int) < p.1) && decide ((p.1 : Int) < e.2.2)).map fun e => (2 : Int) ^ ((b.length : Int) + (e.1 : Int)).toNat).map D.int) (by rfl)
            · apply y_i_enumL (by rfl)
              · walk_at "se"
              · exact ims_pair _
            · rw [numbered_idxS, List.map_map]
              refine s_comp_all s10 itemS (fun e => decide ((e.2.1 : Int) < p.1) && decide ((p.1 : Int) < e.2.2)) (fun e => D.int ((2 : Int) ^ ((b.length : Int) + (e.1 : Int)).toNat)) _ (fun _ => by first | exact .one (by rfl) rfl | exact .two (by rfl) (by rfl) rfl rfl) ?_ (fun _ => rfl) (by rfl) (by rfl)
              intro e he ρ' s11
              have hel := idxS_fst _ _ e he
              refine ⟨?_, fun _ => ?_⟩
              · apply y_bs1
                apply y_b_cmp2 (by rfl) (by rfl)
                · walk_at "se"
                · walk_at "se"
                · walk_at "se"
                · constructor
                · constructor
              · apply Val.of
                apply y_bin
                · walk_at "se"
                · walk_at "se"
                · exact o_pow (by exact ar423) (by exact ar424 hplen hb8 hup hel) (by decide)
            · rw [List.length_map, List.length_map]
              have h1 := List.length_filter_le (fun e : Nat × (Nat × Nat) => decide ((e.2.1 : Int) < p.1) && decide ((p.1 : Int) < e.2.2)) (idxS 0 S)
              rw [idxS_length] at h1
              show _ ≤ 2 ^ 20; exact ar425 hup h1
          · have h1 := List.length_filter_le (fun e : Nat × (Nat × Nat) => decide ((e.2.1 : Int) < p.1) && decide ((p.1 : Int) < e.2.2)) (idxS 0 S)
            rw [idxS_length] at h1
            exact o_sumE (sum_gS _ _ 0 S)
        · rfl
        · rw [List.length_map]; show _ < 2 ^ 20; exact ar426 hb20
        intro ρ11 s11
        rw [natsD_snoc] at s11
        clear s10
        apply s_app (d := .int (sizeAt S p : Int)) s11 (by rfl) (by rfl) (by rfl)
        · exact Sim.get (by assumption) (by rfl) (by rfl)
        · apply y_call1 (by rfl)
          · apply y_comp (ds := (S.filter fun s => decide ((p.1 : Int) ≤ s.1) && decide ((s.1 : Int) < p.2)).map pairD) (by rfl)
            · apply y_i_name
              · walk_at "se"
              · simp only [itemsOf, hSl, ims_pair, decide_true, Bool.and_self, if_true]
                rfl
            · refine s_comp_all s11 pairD (fun s => decide ((p.1 : Int) ≤ s.1) && decide ((s.1 : Int) < p.2)) pairD _ (fun _ => by first | exact .one (by rfl) rfl | exact .two (by rfl) (by rfl) rfl rfl) ?_ (fun _ => rfl) (by rfl) (by rfl)
              intro e he ρ' s12
              refine ⟨?_, fun _ => ?_⟩
              · apply y_bs1
                apply y_b_cmp2 (by rfl) (by rfl)
                · walk_at "se"
                · walk_at "se"
                · walk_at "se"
                · constructor
                · constructor
              · apply Val.of
                walk_at "se"
            · rw [List.length_map, keep_size]
              have := List.length_filter_le (fun s : Nat × Nat => decide (p.1 ≤ s.1) && decide (s.1 < p.2)) S
              show sizeAt S p ≤ 2 ^ 20
              unfold sizeAt; exact ar425 hup this
          · refine o_lenE ?_ (by rw [List.length_map, keep_size])
            rw [List.length_map, keep_size]
            have := List.length_filter_le (fun s : Nat × Nat => decide (p.1 ≤ s.1) && decide (s.1 < p.2)) S
            show sizeAt S p ≤ 2 ^ 20
            unfold sizeAt; exact ar425 hup this
        · rfl
        · rw [List.length_map]; show _ < 2 ^ 20; exact ar426 hs20
        intro ρ12 s12
        rw [natsD_snoc] at s12
        clear s11
        apply z_0
        refine ⟨?_, by simp; exact ar141 hp'len⟩
        exact (s12.drop (J' := ["end"]) ("end" : Str) (by rfl)).drop ("place" : Str) (by rfl)
      · intro f ρ'' hh
        obtain ⟨rfl, s9, _⟩ := hh.resolve_right (fun h => h)
        apply z_0
        rw [List.map_map]
        refine ⟨shL1_drop s9, ?_, ?_⟩
        · simp only [List.length_append, List.length_map, List.length_singleton]; exact ar427 hb8 hup
        · simp only [List.length_append, List.length_map, List.length_singleton]; exact ar427 hs8 hup
    · intro f ρ'' hh
      obtain ⟨rfl, s9, _⟩ := hh.resolve_right (fun h => h)
      exact ⟨rfl, s9⟩
  intro ρ5 s5
  clear s4
  generalize bAll U = below at *
  generalize sAll U = sizes at *
  have hslen : sizes.length ≤ lim := by show _ ≤ 2 ^ 20; exact ar336 hs9
  -- the test
  apply z_x
  apply z_if (c := bushes.flatMap hooksF != bushes.flatMap hooksF)
  · apply y_b_cmp (by rfl)
    · walk_at "se"
    · apply y_comp2 (ds := (bushes.flatMap hooksF).map D.int) (by rfl)
      · apply y_i_name
        · walk_at "se"
        · have h2 : bushes.length ≤ lim := by show _ ≤ 2 ^ 20; exact ar365 hb2
          simp only [itemsOf, List.length_map, h2, ims_str, decide_true, Bool.and_self, if_true]
          rfl
      · have e1 : (bushes.flatMap hooksF).map D.int = bushes.flatMap fun b => (hooksF b).map D.int := by rw [List.map_flatMap]
        rw [e1]
        refine s_comp2_all s5 D.str (fun b => (hooksF b).map D.int) (fun b => (hooksF b).map D.int) _ (fun _ => by first | exact .one (by rfl) rfl | exact .two (by rfl) (by rfl) rfl rfl) ?_ (by rfl) (by rfl)
        intro b hb ρ' s6
        have hb23 := hbl b hb
        have hhl := hooksF_len b
        refine ⟨?_, ?_⟩
        · apply ev_some
          apply y_i_fn
          · apply y_fn (by rfl)
            · walk_at "se"
            · exact f_hooks hR (by exact ar428 hb23)
          · have h2 : (hooksF b).length ≤ lim := by show _ ≤ 2 ^ 20; exact ar429 hb23 hhl
            simp only [itemsOf, List.length_map, h2, ims_int, decide_true, Bool.and_self, if_true]
        · have e2 : (hooksF b).map D.int = ((hooksF b).filter fun _ => true).map D.int := by rw [filter_true]
          conv => rhs; rw [e2]
          refine s_comp_in s6 D.int (fun _ => true) D.int _ (fun _ => by first | exact .one (by rfl) rfl | exact .two (by rfl) (by rfl) rfl rfl) ?_ (fun _ => rfl) (by rfl) (by rfl)
          intro x hx ρ2 s7
          refine ⟨y_bs0, fun _ => ?_⟩
          apply Val.of
          walk_at "se"
      · rw [List.length_map, ← hhooks, List.length_map]; exact hslen
    · have e1 : natsD sizes = .list ((bushes.flatMap hooksF).map D.int) := by
        rw [← hhooks, List.map_map]; rfl
      rw [e1]
      have h2 : (bushes.flatMap hooksF).length ≤ lim := by rw [← hhooks, List.length_map]; exact hslen
      exact .neL _ _
  · intro h; simp at h
  intro _
  apply z_0
  show Xs _ _ _ _ _ _ _
  obtain ⟨q, hq, hq2, hq3⟩ := mod_val script
  apply s_as (d := .int q) s5 ["row", "spans", "first", "place", "end"] (by rfl) (by rfl)
  · apply y_bin
    · walk_at "se"
    · apply y_bin
      · apply y_call1 (by rfl)
        · apply y_slice (by rfl)
          · walk_at "se"
          · walk_at "se"
          · walk_at "se"
          · exact o_sliceL (a := 7) (b := 8) (ims_int _) (by decide) (by decide) hscl
        · rw [← List.map_take, ← List.map_drop]
          exact o_sum
      · walk_at "se"
      · exact .mod (by decide)
    · exact o_add (by rw [← hq])
  · rfl
  · rfl
  intro ρ6 s6
  clear s5 hq
  rw [← hbs] at hbush
  have hfit := hbush.fits
  have hpos := hbush.pos
  apply s_asfn s6 ["row", "spans", "first", "place", "end"] (by rfl) (by rfl) (by rfl)
  · walk_at "se"
  · exact f_orders hR hq2 hq3 (by exact ar430 hs9 hbs) hbush
  rintro _ ⟨T, rfl, hTp⟩
  rw [hbs] at hTp hfit hpos
  rw [Hm_PH q sizes sizes.length (Nat.le_refl _), List.take_length] at hTp
  refine ⟨rfl, ?_⟩
  intro ρ7 s7
  clear s6
  apply s_as (d := .int ((1 : Nat) : Int)) s7 ["row", "spans", "first", "place", "end"] (by rfl) (by rfl)
  · walk_at "se"
  · rfl
  · rfl
  intro ρ8 s8
  replace s8 : Sim ρ8 (shF script mail bushes seen below sizes q T 1) ["row", "spans", "first", "place", "end"] := s8
  clear s7
  have hq0 : 0 < q := by exact ar335 hq2
  have hmem : ∀ s ∈ sizes, 0 < s ∧ s ≤ 9 := by
    intro s hs
    obtain ⟨i, hi, rfl⟩ := List.getElem_of_mem hs
    have h1 := hfit i hi
    have h2 := hpos i hi
    simp only [List.getD_eq_getElem?_getD, List.getElem?_eq_getElem hi, Option.getD_some] at h1 h2
    exact ar431 hs9 h1 h2
  apply z_x
  apply z_for ["k", "size", "told", "due"]
  · apply y_i_enumL (by rfl)
    · walk_at "se"
    · exact ims_nat _
  · rfl
  · rfl
  apply z_loop (idx 0 sizes) (fun pre ρ => Sim ρ (shF script mail bushes seen below sizes q (T * PH q (pre.map (·.2))) (fac q pre.length)) ["row", "spans", "first", "place", "end", "k", "size"]) (fun _ _ => False) pairD
  · exact numbered_nat 0 sizes
  · intro x hx
    have hx2 : (["row", "spans", "first", "place", "end"] : List Str).contains x = false := by
      simp only [List.contains_cons, Bool.or_eq_false_iff] at hx ⊢
      exact ⟨hx.1, hx.2.1, hx.2.2.1, hx.2.2.2.1, hx.2.2.2.2.1, rfl⟩
    rw [s8 x hx2]
    simp [PH, fac]
  · rintro pre ⟨i, sz⟩ post hpre ρ s9
    clear s8
    obtain ⟨hi, hdr⟩ := idx_split _ _ _ _ _ hpre
    dsimp only at hi hdr
    rw [Nat.zero_add] at hi
    have hsplit2 : sizes = pre.map (·.2) ++ sz :: post.map (·.2) := by
      have := congrArg (List.map (·.2)) hpre
      rw [idx_snd, List.map_append, List.map_cons] at this
      exact this
    have hlen : pre.length < sizes.length := by rw [hsplit2]; simp
    have hsz := hmem sz (by rw [hsplit2]; simp)
    have hTle : T * PH q (pre.map (·.2)) ≤ fac q sizes.length := by
      rw [← hTp]
      conv => rhs; rw [hsplit2, PH_app, ← Nat.mul_assoc]
      apply Nat.le_mul_of_pos_right
      apply PH_pos hq0
      intro s hs
      exact (hmem s (by rw [hsplit2]; exact List.mem_append_right _ hs)).1
    rw [← hi] at s9 hlen
    rw [List.length_append, List.length_singleton, ← hi, List.map_append, List.map_singleton, PH_app, PH, PH, Nat.mul_one, ← Nat.mul_assoc]
    generalize T * PH q (pre.map (·.2)) = t at *
    refine ⟨(ρ.set ("k" : Str) (.int i)).set ("size" : Str) (.int sz), .two (by rfl) (by rfl) rfl rfl, ?_⟩
    have s10 := (s9.tell (x := ("k" : Str)) (d := .int i) (J' := ["row", "spans", "first", "place", "end", "size"]) (by rfl)).tell (x := ("size" : Str)) (d := .int sz) (J' := ["row", "spans", "first", "place", "end"]) (by rfl)
    generalize (ρ.set ("k" : Str) (.int i)).set ("size" : Str) (.int sz) = ρ10 at s10
    clear s9
    apply s_as (d := .int ((t * br q sz : Nat) : Int)) s10 ["row", "spans", "first", "place", "end"] (by rfl) (by rfl)
    · apply y_bin
      · walk_at "se"
      · apply y_call1 (by rfl)
        · apply y_comp (ds := ((List.range sz).map fun i : Nat => (q : Int) ^ (0 + (i : Int)).toNat).map D.int) (by rfl)
          · apply y_i_range1 (by rfl)
            · walk_at "se"
            · exact ar321
            · show _ ≤ (((2 ^ 20 : Nat)) : Int); exact ar432 hsz
          · have e2 : ((List.range sz).map fun i : Nat => (q : Int) ^ (0 + (i : Int)).toNat).map D.int = ((List.range sz).filter fun _ => true).map fun i : Nat => D.int ((q : Int) ^ (0 + (i : Int)).toNat) := by rw [filter_true, List.map_map]; rfl
            rw [e2, Int.toNat_natCast, rangeD]
            refine s_comp_all s10 (fun i : Nat => D.int (0 + (i : Int))) (fun _ => true) (fun i : Nat => D.int ((q : Int) ^ (0 + (i : Int)).toNat)) _ (fun _ => by first | exact .one (by rfl) rfl | exact .two (by rfl) (by rfl) rfl rfl) ?_ (fun _ => rfl) (by rfl) (by rfl)
            intro j hj ρ' s11
            have hj := List.mem_range.mp hj
            refine ⟨y_bs0, fun _ => ?_⟩
            apply Val.of
            apply y_bin
            · walk_at "se"
            · walk_at "se"
            · exact o_pow (by exact ar433) (by exact ar434 hsz hj) (by rw [Int.natAbs_natCast]; exact ar348 hq3)
          · rw [List.length_map, List.length_map, List.length_range]; show _ ≤ 2 ^ 20; exact ar435 hsz
        · exact o_sumE (sum_br ..)
      · exact o_mul (fac_fits hq2 hq3 hs9 hTle) (br_fits hq2 hq3 hsz.2) (by simp)
    · rfl
    · rfl
    intro ρ11 s11
    clear s10
    apply s_as (d := .int ((fac q (i + 1) : Nat) : Int)) s11 ["row", "spans", "first", "place", "end"] (by rfl) (by rfl)
    · apply y_bin
      · walk_at "se"
      · apply y_call1 (by rfl)
        · apply y_comp (ds := ((List.range (i + 1)).map fun i : Nat => (q : Int) ^ (0 + (i : Int)).toNat).map D.int) (by rfl)
          · apply y_i_range1 (by rfl)
            · walk_at "se"
            · exact ar436
            · show _ ≤ (((2 ^ 20 : Nat)) : Int); exact ar437 hs9 hlen
          · have e2 : ((List.range (i + 1)).map fun i : Nat => (q : Int) ^ (0 + (i : Int)).toNat).map D.int = ((List.range (i + 1)).filter fun _ => true).map fun i : Nat => D.int ((q : Int) ^ (0 + (i : Int)).toNat) := by rw [filter_true, List.map_map]; rfl
            have e3 : ((i : Int) + 1).toNat = i + 1 := by exact ar438
            rw [e2, e3, rangeD]
            refine s_comp_all s11 (fun i : Nat => D.int (0 + (i : Int))) (fun _ => true) (fun i : Nat => D.int ((q : Int) ^ (0 + (i : Int)).toNat)) _ (fun _ => by first | exact .one (by rfl) rfl | exact .two (by rfl) (by rfl) rfl rfl) ?_ (fun _ => rfl) (by rfl) (by rfl)
            intro j hj ρ' s12
            have hj := List.mem_range.mp hj
            refine ⟨y_bs0, fun _ => ?_⟩
            apply Val.of
            apply y_bin
            · walk_at "se"
            · walk_at "se"
            · exact o_pow (by exact ar433) (by exact ar439 hs9 hlen hj) (by rw [Int.natAbs_natCast]; exact ar348 hq3)
          · rw [List.length_map, List.length_map, List.length_range]; show _ ≤ 2 ^ 20; exact ar440 hs9 hlen
        · exact o_sumE (sum_br ..)
      · exact o_mul (fac_fits hq2 hq3 (show i ≤ 9 by exact ar343 hs9 hlen) (Nat.le_refl _)) (br_fits hq2 hq3 (show i + 1 ≤ 9 by exact ar441 hs9 hlen)) (by rw [fac]; simp)
    · rfl
    · rfl
    intro ρ12 s12
    clear s11
    apply z_0
    exact (s12.drop (J' := ["row", "spans", "first", "place", "end", "size"]) ("size" : Str) (by rfl)).drop ("k" : Str) (by rfl)
  · intro f ρ'' hh'
    obtain ⟨rfl, s9⟩ := hh'.resolve_right (fun h => h)
    rw [idx_snd, idx_length, hTp] at s9
    show Xs _ _ _ _ _ _ _
    apply z_x
    apply z_ret
    · walk_at "se"
    · rfl
    · show _ = _
      simp
end Mine
end
section
open PySem PySem.W PyProof.Rows
set_option maxRecDepth 100000
set_option maxHeartbeats 4000000
namespace Mine
theorem nsMap_keep {h h' : Heap} (hk : ∀ b o, h.get? b = some o → h'.get? b = some o) {a : Addr} {x : Str} {v : Value} (e : h.nsMap a x = some v) : h'.nsMap a x = some v := by
  unfold Heap.nsMap at e ⊢
  cases ho : h.get? a with
  | none => rw [ho] at e; cases e
  | some o => rw [ho] at e; rw [hk a o ho]; exact e
structure Says (h : Heap) : Prop where
  p1 : h.get? 57 = some pat1
  p2 : h.get? 62 = some pat2
  b1 : ∃ led, h.get? 77 = some (b1Obj led)
  c1 : h.get? 56 = some (codesObj codes1)
  c2 : h.get? 61 = some (codesObj codes2)
  g1 : h.nsMap mainGlobals "_twin_re_1" = some (.ref 57)
  g2 : h.nsMap mainGlobals "_twin_re_2" = some (.ref 62)
  g3 : h.nsMap mainGlobals "b1_set" = some (.ref 77)
theorem Says.of {w : World} {s : Shared} (e : obs s = val w) : Says s.heap := by
  unfold obs val loose at e
  simp only [List.map_cons, List.map_nil, Prod.mk.injEq, List.cons.injEq, and_true] at e
  obtain ⟨⟨h1, h2, h3, h4, h5⟩, h6, h7, h8⟩ := e
  exact ⟨h1, h2, ⟨_, h3⟩, h4, h5, h6, h7, h8⟩
theorem Says.keeps {h h' : Heap} (x : Says h) (hk : ∀ b o, h.get? b = some o → h'.get? b = some o) : Says h' :=
  ⟨hk _ _ x.p1, hk _ _ x.p2, let ⟨l, e⟩ := x.b1; ⟨l, hk _ _ e⟩, hk _ _ x.c1, hk _ _ x.c2, nsMap_keep hk x.g1, nsMap_keep hk x.g2, nsMap_keep hk x.g3⟩
variable {w : World} {h₀ : Heap} {mg mb : Str → Option Value} {lo : List Str} {mean : ExcName → Option Value}
theorem reads_str {h : Heap} {v : Value} {x : Str} {as : List Addr} (r : Reads h v (.str x) as) : ∃ t, v = .str x t := by cases r; exact ⟨_, rfl⟩
theorem reads_int {h : Heap} {v : Value} {x : Int} {as : List Addr} (r : Reads h v (.int x) as) : ∃ t, v = .int x t := by cases r; exact ⟨_, rfl⟩
theorem base_of {prog : Program} (T : Top q (looseW q loose) mean mg mb h₀) (S : Says h₀) : Base prog w h₀ mg mb where
  g := T.g
  b := T.b
  nolimit := T.nolimit
  blt := by
    have hx : ∀ x ∈ builtins1, x ∉ startupNames ∧ x ∉ looseW q loose ∧ x ∉ (recsOf q).map (·.name) ∧ x ∉ (litsOf q).map (·.1) ∧ x ∉ (clssOf q (looseW q loose)).map (·.name) ∧ x ≠ ("__name__" : Str) := by decide +kernel
    intro x h
    obtain ⟨h1, h2, h3, h4, h5, h6⟩ := hx x h
    exact ⟨T.free x h1 h2 h3 h4 h5, T.builtins x h6⟩
  fns := base_fns T
  crlf := by
    obtain ⟨v, h1, h2⟩ := T.const "CRLF" (.str ⟨#[13, 10]⟩) (by rfl)
    obtain ⟨t, rfl⟩ := reads_str (h2 h₀)
    exact ⟨t, h1⟩
  nt := by
    obtain ⟨v, h1, h2⟩ := T.const "NT_OFFSET" (.int 256) (by rfl)
    obtain ⟨t, rfl⟩ := reads_int (h2 h₀)
    exact ⟨t, h1⟩
  em := by
    obtain ⟨v, h1, h2⟩ := T.const "ENDMARKER" (.int 0) (by rfl)
    obtain ⟨t, rfl⟩ := reads_int (h2 h₀)
    exact ⟨t, h1⟩
  q1 := ⟨patAt1 S.p1 S.c1, ⟨_, S.p1, rfl, rfl⟩, by rw [T.g.eq_nsMap]; exact S.g1⟩
  q2 := ⟨patAt2 S.p2 S.c2, ⟨_, S.p2, rfl, rfl⟩, by rw [T.g.eq_nsMap]; exact S.g2⟩
  set := ⟨by rw [T.g.eq_nsMap]; exact S.g3, let ⟨_, e⟩ := S.b1; setB1 e⟩
theorem rds_ints {prog : Program} {h : Heap} : ∀ {vs : List Value} {ns : List Int}, IntsAre vs ns → Rds prog w h (ns.map D.int) vs []
  | _, _, .nil => ⟨rfl, rfl⟩
  | _, _, .cons n t r => ⟨_, _, [], [], rfl, rfl, ⟨⟨t, rfl⟩, rfl⟩, rds_ints r⟩
end Mine
end
section
open PySem PySem.W PyProof.Rows
set_option maxRecDepth 100000
set_option maxHeartbeats 4000000
namespace Mine
theorem said : OpenLaw.wellSaid PySem.Challenge.rw_sh0013_01 = true := by
  iterate 38 (refine look_both ?_ (by decide +kernel))
  decide +kernel
theorem plain_of {P : Params} {h : Heap} {a : Addr} {vs : List Value} {xs : List WData} (i : h.IsList a vs.toArray) (w : Well P h (.ref a) (.list xs)) : h.PlainList a vs.toArray := by
  cases w with
  | list e _ =>
    obtain ⟨o, ho, hc, n, hd⟩ := i
    rw [e] at ho
    cases ho
    dsimp only at hd
    rw [hd] at e
    exact ⟨n, e⟩
theorem law_call {prog : Program} {w : World} {mg mb : Str → Option Value} {s : Shared} (B : Base prog w s.heap mg mb) {fa : Addr} (hf : mg "law" = some (.ref fa)) {la : Addr} {lv : List Value} {ns : List Int} (hI : IntsAre lv ns) (hP : s.heap.PlainList la lv.toArray) (hl : ns.length ≤ 63) :
    wpAny (model prog w) callerA (call (.ref fa) [.ref la]) (fun v s' => New prog w s s' (.bool true) v) No s := by
  obtain ⟨a, o, fd, h1, h2, h3, h4⟩ := f_law (C := ⟨prog, w, callerA, s.heap, mg, mb, B, rfl, by show 4 + 200 < 9900; omega⟩) (k := 0) ⟨by show 1 + 300 + 7 < 1000; omega, by show 4 + 3 * 7 + 300 < 9900; omega⟩ hl
  cases hf.symm.trans h1
  exact wp_no (h4 s (fun _ _ e => e) [.ref la] [la] ⟨.ref la, [], [la], [], rfl, rfl, ⟨la, lv, rfl, hP, rds_ints hI, rfl⟩, rfl, rfl⟩) fun v s' q => by
    obtain ⟨_, rfl, q⟩ := q
    exact q
end Mine
end
open PySem PySem.W PyProof.Rows
set_option maxRecDepth 100000 in
set_option maxHeartbeats 8000000 in
theorem PySem.Challenge.cw_sh0013_01_holds : PySem.Challenge.rw_sh0013_01.Holds := by
  w_on
  refine holds_law Mine.said fun said => ?_
  refine holds_open (q := Mine.q) (loose := Mine.loose) (Xt := Mine.Xt) (XP := XL Mine.q []) (Yf := Mine.obs) (Ya := Mine.val) (YP := fun _ h => Mine.Says h) (N := Mine.N) Mine.left (fun _ _ e => Mine.Says.of e) (fun _ _ _ x hk => x.keeps hk) (fun s e => xl_of s (Bool.and_eq_true_iff.mp e).1) XL.keeps (by rfl) (by rfl) (by rfl) (fun s e => recFacts_of (Bool.and_eq_true_iff.mp e).2) (by rfl) (by first | assumption | decide +kernel) (by decide +kernel) ⟨rfl, rfl, rfl, rfl, rfl, by decide +kernel⟩ ?hw ?hc
  case hw => w_witness2
  intro w s₀ s₁ mg mb G Y fa o pm cd doc dV kV ho hd hcd hD hmg hg args vals as hpre hlay hrd hwl hlo
  wrow_args hpre hlay hrd hwl hlo
  rename_i ns hs hlay0 hL1 hr1 hl2 as4 as3 la lv as0 hIs ra w1 r0 hI hr hlen hct
  have B : Mine.Base PySem.Challenge.rw_sh0013_01.row.prog w s₁.heap mg mb := Mine.base_of G.T Y
  refine wpAny_mono (Mine.law_call B hmg hI (Mine.plain_of hIs w1) (by omega)) ?_ (fun _ _ h => h.elim)
  rintro v s' ⟨x, fp, ⟨rfl, rfl⟩, _, _⟩
  refine ⟨.inl ⟨_, .bool true, [], rfl, fun _ => rfl, .bool true, ?_, fun _ => ⟨List.nodup_nil, fun _ h => nomatch h⟩⟩, .of_keep x.keep, x.os, x.bare (.of_eq hg)⟩
  wrow_post
