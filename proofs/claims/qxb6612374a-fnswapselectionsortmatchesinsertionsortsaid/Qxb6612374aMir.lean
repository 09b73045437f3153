/-
  Reversal by halves: plain lists.
-/
import Derived.Test.Qxb6612374aCalls
namespace Go.Proofs.Qxb6612374a

/-- The runs behind k exchanges of place j with place n - 1 - j. -/
def mir (h : List (Int × Int)) (n k : Nat) : List (Int × Int) := (List.range n).map fun x => if x < k ∨ n - 1 - x < k then h.getD (n - 1 - x) (0, 0) else h.getD x (0, 0)
theorem mir_length (h : List (Int × Int)) (n k : Nat) : (mir h n k).length = n := by simp [mir]
theorem mir_get (h : List (Int × Int)) (n k x : Nat) (hx : x < n) : (mir h n k)[x]? = some (if x < k ∨ n - 1 - x < k then h.getD (n - 1 - x) (0, 0) else h.getD x (0, 0)) := by
  simp [mir, hx]
theorem mir_zero (h : List (Int × Int)) (n : Nat) (hl : h.length = n) : mir h n 0 = h := by
  apply List.ext_getElem?
  intro x
  by_cases hx : x < n
  · rw [mir_get h n 0 x hx]
    have : x < h.length := by omega
    simp [this]
  · rw [List.getElem?_eq_none (by rw [mir_length]; omega), List.getElem?_eq_none (by omega)]
theorem mir_swp (h : List (Int × Int)) (n k : Nat) (hk : k < n / 2) : swp (mir h n k) k (n - 1 - k) (h.getD k (0, 0)) (h.getD (n - 1 - k) (0, 0)) = mir h n (k + 1) := by
  apply List.ext_getElem?
  intro x
  by_cases hx : x < n
  · rw [mir_get h n (k + 1) x hx]
    unfold swp
    rw [List.getElem?_set]
    by_cases h1 : n - 1 - k = x
    · subst h1
      rw [if_pos rfl, if_pos (by simp [mir_length]; omega), if_pos (by omega), show n - 1 - (n - 1 - k) = k from by omega]
    · rw [if_neg h1, List.getElem?_set]
      by_cases h2 : k = x
      · subst h2
        rw [if_pos rfl, if_pos (by simp [mir_length]; omega), if_pos (by omega)]
      · rw [if_neg h2, mir_get h n k x hx]
        by_cases h3 : x < k ∨ n - 1 - x < k
        · rw [if_pos h3, if_pos (by omega)]
        · rw [if_neg h3, if_neg (by omega)]
  · rw [List.getElem?_eq_none (by simp [swp, mir_length]; omega), List.getElem?_eq_none (by rw [mir_length]; omega)]
theorem mir_at (h : List (Int × Int)) (n k : Nat) (hk : k < n / 2) : (mir h n k)[k]? = some (h.getD k (0, 0)) ∧ (mir h n k)[n - 1 - k]? = some (h.getD (n - 1 - k) (0, 0)) := by
  rw [mir_get h n k k (by omega), mir_get h n k (n - 1 - k) (by omega), if_neg (by omega), if_neg (by omega)]
  exact ⟨rfl, rfl⟩
theorem mir_end (h : List (Int × Int)) (n k x : Nat) (hk : ¬ k < n / 2) (hx : x < n) : (mir h n k)[x]? = some (h.getD (n - 1 - x) (0, 0)) := by
  rw [mir_get h n k x hx]
  by_cases h1 : x < k ∨ n - 1 - x < k
  · rw [if_pos h1]
  · rw [if_neg h1, show n - 1 - x = x from by omega]
theorem zip_at (zs ys : List Int) (x : Nat) (z y : Int) (h1 : zs[x]? = some z) (h2 : ys[x]? = some y) : (zs.zip ys).getD x (0, 0) = (z, y) := by
  have : (zs.zip ys)[x]? = some (z, y) := by rw [List.getElem?_zip_eq_some]; exact ⟨h1, h2⟩
  simp [List.getD, this]
end Go.Proofs.Qxb6612374a
