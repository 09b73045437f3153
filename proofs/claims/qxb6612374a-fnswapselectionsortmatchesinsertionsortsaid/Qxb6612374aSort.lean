/-
  The two sorts on plain lists of runs.
-/
import Derived.Test.Qxb6612374aCalls
namespace Go.Proofs.Qxb6612374a

def less (p q : Int × Int) : Bool := lessB p.1 p.2 q.1 q.2
theorem less_iff (p q : Int × Int) : less p q = true ↔ p.1 < q.1 ∨ (p.1 = q.1 ∧ p.2 < q.2) := by simp [less, lessB]
/-- p comes no later than q. -/
def Le (p q : Int × Int) : Prop := less q p = false
theorem le_iff (p q : Int × Int) : Le p q ↔ p.1 < q.1 ∨ (p.1 = q.1 ∧ p.2 ≤ q.2) := by
  unfold Le
  rw [← Bool.not_eq_true, less_iff]
  omega
theorem Le.trans {p q r : Int × Int} (h : Le p q) (k : Le q r) : Le p r := by rw [le_iff] at *; omega
theorem Le.refl (p : Int × Int) : Le p p := by rw [le_iff]; omega
theorem Le.antisymm {p q : Int × Int} (h : Le p q) (k : Le q p) : p = q := by
  rw [le_iff] at *
  obtain ⟨a, b⟩ := p
  obtain ⟨c, d⟩ := q
  simp only [Prod.mk.injEq] at *
  omega
theorem less_le {p q : Int × Int} (h : less p q = true) : Le p q := by rw [le_iff]; rw [less_iff] at h; omega

/-! ### selection -/
theorem swp_length (hs : List (Int × Int)) (i j : Nat) (p q : Int × Int) : (swp hs i j p q).length = hs.length := by simp [swp]
theorem swp_get (hs : List (Int × Int)) (i j x : Nat) (p q : Int × Int) (hi : i < hs.length) (hj : j < hs.length) : (swp hs i j p q)[x]? = if j = x then some p else if i = x then some q else hs[x]? := by
  unfold swp
  rw [List.getElem?_set, List.getElem?_set]
  by_cases h1 : j = x
  · rw [if_pos h1, if_pos h1, if_pos (by simpa using hj)]
  · rw [if_neg h1, if_neg h1]
    by_cases h2 : i = x
    · rw [if_pos h2, if_pos h2, if_pos hi]
    · rw [if_neg h2, if_neg h2]
theorem swp_perm (hs : List (Int × Int)) (i j : Nat) (p q : Int × Int) (h1 : hs[i]? = some p) (h2 : hs[j]? = some q) : (swp hs i j p q).Perm hs := by
  obtain ⟨hi, e1⟩ := List.getElem?_eq_some_iff.1 h1
  obtain ⟨hj, e2⟩ := List.getElem?_eq_some_iff.1 h2
  rw [List.perm_iff_count]
  intro a
  unfold swp
  have hj' : j < (hs.set i q).length := by simpa using hj
  have e3 : (hs.set i q)[j] = q := by
    rw [List.getElem_set]
    split
    · rfl
    · exact e2
  rw [List.count_set hj', List.count_set hi, e3, e1]
  have hpos : p = a → 1 ≤ List.count a hs := fun h => by
    have : p ∈ hs := e1 ▸ List.getElem_mem hi
    rw [← h]
    exact List.count_pos_iff.2 this
  by_cases c1 : p = a
  · have := hpos c1
    by_cases c2 : q = a <;> simp [c1, c2] <;> omega
  · by_cases c2 : q = a <;> simp [c1, c2]

/-- Behind i rounds: the runs are those of ps; the first i stand before all that follow. -/
def SelOk (ps hs : List (Int × Int)) (i : Nat) : Prop := hs.Perm ps ∧ ∀ a b p q, a < i → a < b → hs[a]? = some p → hs[b]? = some q → Le p q
theorem sel_start (ps : List (Int × Int)) : SelOk ps ps 0 := ⟨List.Perm.refl _, fun a b p q h => absurd h (by omega)⟩
theorem sel_step {ps hs : List (Int × Int)} {i m : Nat} {p q : Int × Int} (h : SelOk ps hs i) (hm : i ≤ m) (h1 : hs[i]? = some p) (h2 : hs[m]? = some q) (hmin : ∀ x r, i ≤ x → hs[x]? = some r → Le q r) : SelOk ps (swp hs i m p q) (i + 1) := by
  obtain ⟨hi, _⟩ := List.getElem?_eq_some_iff.1 h1
  obtain ⟨hm', _⟩ := List.getElem?_eq_some_iff.1 h2
  refine ⟨(swp_perm hs i m p q h1 h2).trans h.1, fun a b u v ha hab hu hv => ?_⟩
  rw [swp_get hs i m a p q hi hm'] at hu
  rw [swp_get hs i m b p q hi hm'] at hv
  -- what stands at b now stood at some place from i on, or at b
  have hv' : ∃ x, (x = b ∨ i ≤ x) ∧ hs[x]? = some v := by
    split at hv
    · exact ⟨i, .inr (Nat.le_refl _), by rw [h1]; exact hv⟩
    · split at hv
      · exact ⟨m, .inr hm, by rw [h2]; exact hv⟩
      · exact ⟨b, .inl rfl, hv⟩
  obtain ⟨x, hx, hxv⟩ := hv'
  by_cases hai : a = i
  · subst hai
    have hu' : u = q := by
      split at hu
      · rename_i e
        subst e
        rw [h1] at h2
        simp only [Option.some.injEq] at hu h2
        rw [← hu, h2]
      · rw [if_pos rfl] at hu
        simp only [Option.some.injEq] at hu
        exact hu.symm
    rw [hu']
    exact hmin x v (by omega) hxv
  · rw [if_neg (by omega), if_neg (by omega)] at hu
    exact h.2 a x u v (by omega) (by omega) hu hxv
theorem sel_end {ps hs : List (Int × Int)} {n : Nat} (h : SelOk ps hs n) (hl : hs.length = n) : hs.Perm ps ∧ hs.Pairwise Le := by
  refine ⟨h.1, List.pairwise_iff_getElem.2 fun i j hi hj hij => h.2 i j _ _ (by omega) hij (List.getElem?_eq_getElem hi) (List.getElem?_eq_getElem hj)⟩

/-! ### insertion -/
/-- The first k of S with a gap at place j that holds v; what follows is as it was. -/
def wj (S : List (Int × Int)) (k j : Nat) (v : Int × Int) : List (Int × Int) := S.take j ++ v :: ((S.take k).drop j ++ S.drop (k + 1))
theorem wj_start (S : List (Int × Int)) (k : Nat) (v : Int × Int) (h : S[k]? = some v) : wj S k k v = S := by
  obtain ⟨hk, e⟩ := List.getElem?_eq_some_iff.1 h
  have h1 : (S.take k).drop k = [] := List.drop_eq_nil_of_le (by simp; omega)
  rw [wj, h1, List.nil_append, ← e, ← List.drop_eq_getElem_cons hk, List.take_append_drop]
theorem wj_length (S : List (Int × Int)) (k j : Nat) (v : Int × Int) (hj : j ≤ k) (hk : k < S.length) : (wj S k j v).length = S.length := by simp [wj]; omega
theorem wj_lt (S : List (Int × Int)) (k j x : Nat) (v : Int × Int) (hj : j ≤ k) (hk : k < S.length) (hx : x < j) : (wj S k j v)[x]? = S[x]? := by
  rw [wj, List.getElem?_append_left (by simp; omega), List.getElem?_take, if_pos hx]
theorem wj_at (S : List (Int × Int)) (k j : Nat) (v : Int × Int) (hj : j ≤ k) (hk : k < S.length) : (wj S k j v)[j]? = some v := by
  rw [wj, List.getElem?_append_right (by simp; omega)]
  have : j - (S.take j).length = 0 := by simp; omega
  rw [this]
  rfl
theorem wj_set (S : List (Int × Int)) (k j : Nat) (u v : Int × Int) (hj : j ≤ k) (hk : k < S.length) : (wj S k j v).set j u = wj S k j u := by
  unfold wj
  rw [List.set_append_right _ _ (by simp; omega)]
  have : j - (S.take j).length = 0 := by simp; omega
  rw [this]
  rfl
theorem wj_step (S : List (Int × Int)) (k j : Nat) (u : Int × Int) (h0 : 0 < j) (hj : j ≤ k) (hk : k < S.length) (h : S[j - 1]? = some u) : wj S k j u = wj S k (j - 1) u := by
  obtain ⟨h1, e⟩ := List.getElem?_eq_some_iff.1 h
  have e1 : S.take j = S.take (j - 1) ++ [u] := by
    have := List.take_succ_eq_append_getElem h1
    rw [e, show j - 1 + 1 = j from by omega] at this
    exact this
  have e2 : (S.take k).drop (j - 1) = u :: (S.take k).drop j := by
    rw [List.drop_eq_getElem_cons (by simp; omega), List.getElem_take, e, show j - 1 + 1 = j from by omega]
  unfold wj
  rw [e1, e2]
  simp
/-- Behind k rounds: the first k are those of ps, in order. -/
def InsOk (ps S : List (Int × Int)) (k : Nat) : Prop := (S.take k).Perm (ps.take k) ∧ (S.take k).Pairwise Le
theorem ins_start (ps S : List (Int × Int)) : InsOk ps S 0 := by simp [InsOk]
theorem ins_step {ps S : List (Int × Int)} {k j : Nat} {p : Int × Int} (h : InsOk ps S k) (hp : ps[k]? = some p) (hj : j ≤ k) (hk : k < S.length)
    (hup : ∀ x q, j ≤ x → x < k → S[x]? = some q → less p q = true) (hdn : j = 0 ∨ ∃ q, S[j - 1]? = some q ∧ less p q = false) : InsOk ps (wj S k j p) (k + 1) := by
  obtain ⟨hk', e⟩ := List.getElem?_eq_some_iff.1 hp
  have ht : (wj S k j p).take (k + 1) = S.take j ++ p :: (S.take k).drop j := by
    have hl : (S.take j ++ p :: (S.take k).drop j).length = k + 1 := by simp; omega
    have : wj S k j p = (S.take j ++ p :: (S.take k).drop j) ++ S.drop (k + 1) := by simp [wj]
    rw [this, List.take_append_of_le_length (by omega), List.take_of_length_le (by omega)]
  have hsp : (S.take k).take j ++ (S.take k).drop j = S.take k := List.take_append_drop j _
  have htj : (S.take k).take j = S.take j := by rw [List.take_take, Nat.min_eq_left hj]
  rw [htj] at hsp
  unfold InsOk
  rw [ht, List.take_succ_eq_append_getElem hk', e]
  constructor
  · have h1 : (S.take j ++ p :: (S.take k).drop j).Perm (p :: (S.take j ++ (S.take k).drop j)) := List.perm_middle
    rw [hsp] at h1
    refine h1.trans ?_
    exact (List.Perm.cons p h.1).trans (List.perm_append_singleton p _).symm
  · have hpw := h.2
    rw [← hsp] at hpw
    rw [List.pairwise_append] at hpw ⊢
    obtain ⟨q1, q2, q3⟩ := hpw
    have hup' : ∀ q ∈ (S.take k).drop j, Le p q := by
      intro q hq
      obtain ⟨x, hx⟩ := List.getElem?_of_mem hq
      rw [List.getElem?_drop, List.getElem?_take] at hx
      split at hx
      · exact less_le (hup (j + x) q (by omega) (by omega) hx)
      · cases hx
    have hdn' : ∀ q ∈ S.take j, Le q p := by
      intro q hq
      obtain ⟨x, hx⟩ := List.getElem?_of_mem hq
      rw [List.getElem?_take] at hx
      split at hx
      · rename_i hxj
        rcases hdn with h0 | ⟨r, hr, hl⟩
        · omega
        · have hle : Le r p := hl
          by_cases hxe : x = j - 1
          · subst hxe
            rw [hr] at hx
            simp only [Option.some.injEq] at hx
            rw [← hx]; exact hle
          · have hpw2 := List.pairwise_iff_getElem.1 q1
            obtain ⟨b1, c1⟩ := List.getElem?_eq_some_iff.1 hx
            obtain ⟨b2, c2⟩ := List.getElem?_eq_some_iff.1 hr
            have := hpw2 x (j - 1) (by simp; omega) (by simp; omega) (by omega)
            rw [List.getElem_take, List.getElem_take, c1, c2] at this
            exact this.trans hle
      · cases hx
    refine ⟨q1, List.pairwise_cons.2 ⟨hup', q2⟩, fun a ha b hb => ?_⟩
    rcases List.mem_cons.1 hb with rfl | hb
    · exact hdn' a ha
    · exact q3 a ha b hb
/-- THE TWO SORTS AGREE. -/
theorem sorts_agree {ps hs S : List (Int × Int)} {n : Nat} (h : SelOk ps hs n) (k : InsOk ps S n) (h1 : hs.length = n) (h2 : S.length = n) (h3 : ps.length = n) : hs = S := by
  obtain ⟨p1, w1⟩ := sel_end h h1
  obtain ⟨p2, w2⟩ := k
  rw [List.take_of_length_le (by omega), List.take_of_length_le (by omega)] at p2
  rw [List.take_of_length_le (by omega)] at w2
  exact List.Perm.eq_of_pairwise (fun a b _ _ x y => Le.antisymm x y) w1 w2 (p1.trans p2.symm)
end Go.Proofs.Qxb6612374a
