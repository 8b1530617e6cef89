import Derived.Laws.RangeAny
namespace Go.Proofs.Qxb6602697a

/-- The byte at k. -/
def bt (s : ByteArray) (k : Nat) : Nat := (s.get! k).toNat

theorem bt_at (s : ByteArray) (k : Nat) (h : k < s.size) : bt s k = (s[k]'h).toNat := by
  have := get_at s k h
  rw [Nat.add_zero] at this
  unfold bt
  rw [this]

/-- The depth of braces ahead of byte k. -/
def D (s : ByteArray) : Nat → Int
  | 0 => 0
  | k + 1 => if bt s k = 123 then D s k + 1 else if bt s k = 125 then D s k - 1 else D s k
/-- The last segment's start, of the first k bytes. -/
def St (s : ByteArray) : Nat → Int
  | 0 => 0
  | k + 1 => if bt s k = 47 ∧ D s k = 0 then (k : Int) + 1 else St s k
/-- The last colon of the last segment, of the first k bytes. -/
def Co (s : ByteArray) : Nat → Int
  | 0 => -1
  | k + 1 => if bt s k = 47 ∧ D s k = 0 then -1 else if bt s k = 58 ∧ D s k = 0 then (k : Int) else Co s k
/-- The model's last colon from st on. -/
def LC (s : ByteArray) (st : Int) : Nat → Int
  | 0 => -1
  | k + 1 => if st ≤ (k : Int) ∧ bt s k = 58 ∧ D s k = 0 then (k : Int) else LC s st k

theorem D_le (s : ByteArray) : ∀ k : Nat, -(k : Int) ≤ D s k ∧ D s k ≤ k
  | 0 => by simp [D]
  | k + 1 => by
    have := D_le s k
    unfold D
    split
    · omega
    · split <;> omega
theorem St_le (s : ByteArray) : ∀ k : Nat, 0 ≤ St s k ∧ St s k ≤ k
  | 0 => by simp [St]
  | k + 1 => by
    have := St_le s k
    unfold St
    split <;> omega
theorem Co_le (s : ByteArray) : ∀ k : Nat, -1 ≤ Co s k ∧ Co s k ≤ k
  | 0 => by simp [Co]
  | k + 1 => by
    have := Co_le s k
    unfold Co
    split
    · omega
    · split <;> omega
theorem LC_low (s : ByteArray) (st : Int) : ∀ k : Nat, (k : Int) ≤ st → LC s st k = -1
  | 0, _ => rfl
  | k + 1, h => by
    unfold LC
    rw [if_neg (by omega)]
    exact LC_low s st k (by omega)
theorem Co_LC (s : ByteArray) : ∀ k : Nat, Co s k = LC s (St s k) k
  | 0 => rfl
  | k + 1 => by
    have ih := Co_LC s k
    have hs := St_le s k
    by_cases h : bt s k = 47 ∧ D s k = 0
    · have e1 : St s (k + 1) = (k : Int) + 1 := by unfold St; rw [if_pos h]
      have e2 : Co s (k + 1) = -1 := by unfold Co; rw [if_pos h]
      rw [e1, e2, LC_low s _ _ (by omega)]
    · have e1 : St s (k + 1) = St s k := by rw [St, if_neg h]
      rw [e1]
      unfold Co LC
      rw [if_neg h]
      by_cases h2 : bt s k = 58 ∧ D s k = 0
      · rw [if_pos h2, if_pos ⟨hs.2, h2⟩]
      · rw [if_neg h2, if_neg (fun x => h2 x.2)]
        exact ih

/-! ### a rune's step, byte by byte -/
theorem decode_wide (s : ByteArray) (pos : Nat) (h : pos < s.size) (ha : 128 ≤ bt s pos) :
    128 ≤ (Utf8.decode s pos).1 ∧ 1 ≤ (Utf8.decode s pos).2 ∧ ∀ j, j < (Utf8.decode s pos).2 → pos + j < s.size ∧ 128 ≤ bt s (pos + j) := by
  have h0 : ∀ j, j < 1 → pos + j < s.size ∧ 128 ≤ bt s (pos + j) := fun j hj => by
    obtain rfl : j = 0 := by omega
    exact ⟨h, ha⟩
  have hn : ¬ bt s (pos + 0) < 128 := by simpa using ha
  unfold Utf8.decode
  simp only [show ∀ k, (s.get! (pos + k)).toNat = bt s (pos + k) from fun _ => rfl]
  rw [if_neg hn]
  split
  · rename_i c
    simp only [Bool.and_eq_true, decide_eq_true_eq, beq_iff_eq] at c
    split
    · refine ⟨by assumption, by show 1 ≤ 2; decide, fun j hj => ?_⟩
      have hj' : j < 2 := hj
      rcases (by omega : j = 0 ∨ j = 1) with rfl | rfl
      · exact h0 0 (by omega)
      · exact ⟨c.2.1, by omega⟩
    · exact ⟨by decide, by decide, h0⟩
  · split
    · rename_i c
      simp only [Bool.and_eq_true, decide_eq_true_eq, beq_iff_eq] at c
      split
      · rename_i d
        simp only [Bool.and_eq_true, decide_eq_true_eq] at d
        refine ⟨by show 128 ≤ _; omega, by show 1 ≤ 3; decide, fun j hj => ?_⟩
        have hj' : j < 3 := hj
        rcases (by omega : j = 0 ∨ j = 1 ∨ j = 2) with rfl | rfl | rfl
        · exact h0 0 (by omega)
        · exact ⟨c.1.2.1, by omega⟩
        · exact ⟨c.2.1, by omega⟩
      · exact ⟨by decide, by decide, h0⟩
    · split
      · rename_i c
        simp only [Bool.and_eq_true, decide_eq_true_eq, beq_iff_eq] at c
        split
        · rename_i d
          simp only [Bool.and_eq_true, decide_eq_true_eq] at d
          refine ⟨by show 128 ≤ _; omega, by show 1 ≤ 4; decide, fun j hj => ?_⟩
          have hj' : j < 4 := hj
          rcases (by omega : j = 0 ∨ j = 1 ∨ j = 2 ∨ j = 3) with rfl | rfl | rfl | rfl
          · exact h0 0 (by omega)
          · exact ⟨c.1.1.2.1, by omega⟩
          · exact ⟨c.1.2.1, by omega⟩
          · exact ⟨c.2.1, by omega⟩
        · exact ⟨by decide, by decide, h0⟩
      · exact ⟨by decide, by decide, h0⟩

/-- Bytes that are no marks change nothing. -/
theorem plain_run (s : ByteArray) (pos : Nat) : ∀ n : Nat, (∀ j, j < n → 128 ≤ bt s (pos + j)) → D s (pos + n) = D s pos ∧ St s (pos + n) = St s pos ∧ Co s (pos + n) = Co s pos
  | 0, _ => ⟨rfl, rfl, rfl⟩
  | n + 1, h => by
    obtain ⟨h1, h2, h3⟩ := plain_run s pos n fun j hj => h j (by omega)
    have hb := h n (by omega)
    refine ⟨?_, ?_, ?_⟩
    · rw [← h1]
      show D s (pos + n + 1) = _
      rw [D, if_neg (by omega), if_neg (by omega)]
    · rw [← h2]
      show St s (pos + n + 1) = _
      rw [St, if_neg (by omega)]
    · rw [← h3]
      show Co s (pos + n + 1) = _
      rw [Co, if_neg (by omega), if_neg (by omega)]

/-- WHAT ONE RUNE DOES TO THE THREE. -/
theorem rune_step (s : ByteArray) (pos r wd : Nat) (h : pos < s.size) (hr : (Utf8.decode s pos).1 = r) (hw : (Utf8.decode s pos).2 = wd) :
    0 < wd ∧ pos + wd ≤ s.size ∧ (D s (pos + wd) = if r = 123 then D s pos + 1 else if r = 125 then D s pos - 1 else D s pos) ∧
    (St s (pos + wd) = if r = 47 ∧ D s pos = 0 then (pos : Int) + 1 else St s pos) ∧
    (Co s (pos + wd) = if r = 47 ∧ D s pos = 0 then -1 else if r = 58 ∧ D s pos = 0 then (pos : Int) else Co s pos) := by
  by_cases ha : bt s pos < 128
  · have e := decode_ascii s pos h (by rw [← bt_at s pos h]; exact ha)
    rw [← bt_at s pos h] at e
    rw [e] at hr hw
    subst hr hw
    exact ⟨Nat.one_pos, h, rfl, rfl, rfl⟩
  · obtain ⟨h1, h2, h3⟩ := decode_wide s pos h (by omega)
    rw [hr] at h1
    rw [hw] at h2 h3
    obtain ⟨e1, e2, e3⟩ := plain_run s pos wd fun j hj => (h3 j hj).2
    have hl := (h3 (wd - 1) (by omega)).1
    refine ⟨by omega, by omega, ?_, ?_, ?_⟩
    · rw [e1, if_neg (by omega), if_neg (by omega)]
    · rw [e2, if_neg (by omega)]
    · rw [e3, if_neg (by omega), if_neg (by omega)]
end Go.Proofs.Qxb6602697a
