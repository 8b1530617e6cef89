import Derived.Test.Qxb6602697aPlain
namespace Go.Proofs.Qxb6602697a

/-! ### the plain law: a path 'p/q' where p holds no brace -/
theorem bt_left (a b : ByteArray) (k : Nat) (h : k < a.size) : bt (a ++ b) k = bt a k := by
  rw [bt_at (a ++ b) k (by rw [ByteArray.size_append]; omega), bt_at a k h, ByteArray.getElem_append_left h]
theorem bt_right (a b : ByteArray) (k : Nat) (h : k < b.size) : bt (a ++ b) (a.size + k) = bt b k := by
  rw [bt_at (a ++ b) (a.size + k) (by rw [ByteArray.size_append]; omega), bt_at b k h, ByteArray.getElem_append_right (by omega)]
  simp
/-- The slash. -/
def slash : ByteArray := ⟨#[47]⟩
theorem slash_size : slash.size = 1 := rfl
theorem path_size (p q : ByteArray) : (p ++ slash ++ q).size = p.size + 1 + q.size := by rw [ByteArray.size_append, ByteArray.size_append, slash_size]
theorem path_left (p q : ByteArray) (k : Nat) (h : k < p.size) : bt (p ++ slash ++ q) k = bt p k := by
  rw [bt_left (p ++ slash) q k (by rw [ByteArray.size_append]; omega), bt_left p slash k h]
theorem path_mid (p q : ByteArray) : bt (p ++ slash ++ q) p.size = 47 := by
  rw [bt_left (p ++ slash) q p.size (by rw [ByteArray.size_append, slash_size]; omega)]
  have := bt_right p slash 0 (by rw [slash_size]; omega)
  rw [Nat.add_zero] at this
  rw [this]
  rfl
theorem path_right (p q : ByteArray) (k : Nat) (h : k < q.size) : bt (p ++ slash ++ q) (p.size + 1 + k) = bt q k := by
  have := bt_right (p ++ slash) q k h
  rw [ByteArray.size_append, slash_size] at this
  exact this
/-- The offset of a colon, moved; -1 stays. -/
def sh (off c : Int) : Int := if 0 ≤ c then off + c else -1

theorem shift_law (s q : ByteArray) (m : Nat) (hno : ∀ k, k < m → bt s k ≠ 123 ∧ bt s k ≠ 125) (hsl : bt s m = 47) (hq : ∀ k, k < q.size → bt s (m + 1 + k) = bt q k) :
    ∀ k, k ≤ q.size → D s (m + 1 + k) = D q k ∧ St s (m + 1 + k) = (m : Int) + 1 + St q k ∧ Co s (m + 1 + k) = sh ((m : Int) + 1) (Co q k) := by
  have h0 : ∀ k, k ≤ m → D s k = 0 := by
    intro k
    induction k with
    | zero => intro _; rfl
    | succ k ih =>
      intro hk
      rw [D, if_neg (hno k (by omega)).1, if_neg (hno k (by omega)).2]
      exact ih (by omega)
  intro k
  induction k with
  | zero =>
    intro _
    refine ⟨?_, ?_, ?_⟩
    · show D s (m + 1) = 0
      rw [D, if_neg (by omega), if_neg (by omega)]
      exact h0 m (Nat.le_refl _)
    · have e : St s (m + 1) = (m : Int) + 1 := by rw [St, if_pos ⟨hsl, h0 m (Nat.le_refl _)⟩]
      show St s (m + 1) = _
      rw [e]
      simp [St]
    · have e : Co s (m + 1) = -1 := by rw [Co, if_pos ⟨hsl, h0 m (Nat.le_refl _)⟩]
      show Co s (m + 1) = _
      rw [e]
      simp [Co, sh]
  | succ k ih =>
    intro hk
    obtain ⟨i1, i2, i3⟩ := ih (by omega)
    have hb := hq k (by omega)
    refine ⟨?_, ?_, ?_⟩
    · show D s (m + 1 + k + 1) = D q (k + 1)
      rw [D, D, hb, i1]
    · show St s (m + 1 + k + 1) = _ + St q (k + 1)
      rw [St, St, hb, i1, i2]
      split <;> omega
    · show Co s (m + 1 + k + 1) = sh _ (Co q (k + 1))
      rw [Co, Co, hb, i1, i3]
      split
      · rfl
      · split
        · unfold sh
          rw [if_pos (by omega)]
          omega
        · rfl

theorem path_law (p q : ByteArray) (hno : ∀ k, k < p.size → bt p k ≠ 123 ∧ bt p k ≠ 125) :
    St (p ++ slash ++ q) (p ++ slash ++ q).size = (p.size : Int) + 1 + St q q.size ∧ Co (p ++ slash ++ q) (p ++ slash ++ q).size = sh ((p.size : Int) + 1) (Co q q.size) := by
  rw [path_size]
  obtain ⟨_, h1, h2⟩ := shift_law (p ++ slash ++ q) q p.size (fun k hk => by rw [path_left p q k hk]; exact hno k hk) (path_mid p q) (fun k hk => path_right p q k hk) q.size (Nat.le_refl _)
  exact ⟨h1, h2⟩
end Go.Proofs.Qxb6602697a
