/-
  The walk of FnFailureWrapsStoppingErrorOneLayer, for every F.
-/
import Derived.Test.Qxb6612328aFmtLaw1
namespace Go.Proofs.Qxb6612328aFmt
open Go.RowKit Go.Extern.Stop Go.Stop Go.Extern

set_option maxRecDepth 100000 in
theorem bytes2 (h : Bool) (m r t : ByteArray) (w : World) (hm : m.size ≤ 9223372036854775807) (hr : r.size ≤ 9223372036854775807) (ht : t.size ≤ 9223372036854775807) :
    Calls Tryf.prog 11 #[.bool h, .string m, .string r, .string t] w (SomeBool w) := by
  by_cases h1 : m.size ≤ 1048576
  · have d1 : decide ((1048576 : Int) < (m.size : Int)) = false := by simp; omega
    by_cases h2 : r.size ≤ 1048576
    · have d2 : decide ((1048576 : Int) < (r.size : Int)) = false := by simp; omega
      by_cases h3 : m.size + r.size ≤ 1048576
      · have d3 : decide ((1048576 : Int) < (m.size : Int) + (r.size : Int)) = false := by simp; omega
        by_cases h4 : t.size ≤ 1048576
        · have d4 : decide ((1048576 : Int) < (t.size : Int)) = false := by simp; omega
          by_cases h5 : m.size + r.size + t.size ≤ 1048576
          · have d5 : decide ((1048576 : Int) < (m.size : Int) + (r.size : Int) + (t.size : Int)) = false := by simp; omega
            go_enter Tryf.func11, Tryf.ntmps11
            go_wp2
            go_ret
            exact SomeBool.mk true rfl
          · have d5 : decide ((1048576 : Int) < (m.size : Int) + (r.size : Int) + (t.size : Int)) = true := by simp; omega
            go_enter Tryf.func11, Tryf.ntmps11
            go_wp2
            go_ret
            exact SomeBool.mk false rfl
        · have d4 : decide ((1048576 : Int) < (t.size : Int)) = true := by simp; omega
          go_enter Tryf.func11, Tryf.ntmps11
          go_wp2
          go_ret
          exact SomeBool.mk false rfl
      · have d3 : decide ((1048576 : Int) < (m.size : Int) + (r.size : Int)) = true := by simp; omega
        go_enter Tryf.func11, Tryf.ntmps11
        go_wp2
        go_ret
        exact SomeBool.mk false rfl
    · have d2 : decide ((1048576 : Int) < (r.size : Int)) = true := by simp; omega
      go_enter Tryf.func11, Tryf.ntmps11
      go_wp2
      go_ret
      exact SomeBool.mk false rfl
  · have d1 : decide ((1048576 : Int) < (m.size : Int)) = true := by simp; omega
    go_enter Tryf.func11, Tryf.ntmps11
    go_wp2
    go_ret
    exact SomeBool.mk false rfl

set_option maxRecDepth 100000 in
set_option maxHeartbeats 1000000 in
theorem law2 (F : Interp) (h : Bool) (m r t : ByteArray) (w : World) (hF : F.answers w.tape) (hm : m.size ≤ 9223372036854775807) (hr : r.size ≤ 9223372036854775807) (ht : t.size ≤ 9223372036854775807) :
    Calls Tryf.prog 4 #[.bool h, .string m, .string r, .string t] w fun e w' => e = .returned (.bool true) ∧ Below w.heap.size w w' := by
  go_enter Tryf.func4, Tryf.ntmps4
  go_wp2_with fail
  refine (bytes2 h m r t w hm hr ht).mono ?_
  rintro e w1 ⟨b, rfl, h1⟩
  subst h1
  cases b with
  | false =>
    go_wp2
    go_ret
    exact ⟨rfl, Below.refl _ _⟩
  | true =>
    by_cases h1 : m.size ≤ 524288
    · have d1 : decide ((524288 : Int) < (m.size : Int)) = false := by simp; omega
      by_cases h2 : r.size ≤ 262144
      · have d2 : decide ((262144 : Int) < (r.size : Int)) = false := by simp; omega
        by_cases h3 : t.size ≤ 262144
        · have d3 : decide ((262144 : Int) < (t.size : Int)) = false := by simp; omega
          cases h with
          | false =>
            go_wp2_with fail
            refine (whole_any w1).mono ?_
            rintro e w2 ⟨rfl, rfl⟩
            go_wp2_with fail
            refine (zfailure_nil w1.heap.size r _ (cell0 w1 _ _ _ _ _)).mono ?_
            rintro e w3 ⟨rfl, h3⟩
            subst h3
            go_wp2_with fail
            refine (zfailure_nil w1.heap.size t _ (cell0 w1 _ _ _ _ _)).mono ?_
            rintro e w3 ⟨rfl, h3⟩
            subst h3
            go_wp2
            go_ret
            exact ⟨rfl, (Below.refl _ w1).alloc (Nat.le_refl _) _⟩
          | true =>
            go_wp2_with fail
            refine (stopped_any m w1).mono ?_
            rintro e w2 ⟨rfl, h2⟩
            have c2 : w2.cell? ⟨w1.heap.size + 1, 2, none⟩ = some (.iface 48 (.pointer (some ⟨w1.heap.size, 0, none⟩))) := by rw [h2]; exact cell2 _ _ _ _ _ _ _
            have c0 : w2.cell? ⟨w1.heap.size, 0, none⟩ = some (.string m) := by rw [h2]; exact cell1 _ _ _ _
            have hb2 : Below w1.heap.size w1 w2 := by rw [h2]; exact ((Below.refl _ w1).alloc (Nat.le_refl _) _).alloc (by simp) _
            have hs2 : w2.heap.size = w1.heap.size + 2 := by rw [h2]; simp
            have hF2 : F.answers w2.tape := by rw [h2]; exact hF
            have HS : Hid (w2.heap.size = w1.heap.size + 2) := hs2
            clear h2 hs2
            go_wp2_with fail
            refine (err_any (w1.heap.size + 1) _ w2 c2).mono ?_
            rintro e w3 ⟨rfl, h3⟩
            subst h3
            go_wp2_with fail
            refine (zfailure_err F (w1.heap.size + 1) ⟨w1.heap.size, 0, none⟩ m r _ hF2 c2 c0).mono ?_
            rintro e w4 ⟨rfl, g1, g2, g3⟩
            have hs2 := HS.out
            have c2' : w4.cell? ⟨w1.heap.size + 1, 2, none⟩ = some (.iface 48 (.pointer (some ⟨w1.heap.size, 0, none⟩))) := (g3.cell (p := ⟨w1.heap.size + 1, 2, none⟩) (by simp only []; omega)).trans c2
            have c0' : w4.cell? ⟨w1.heap.size, 0, none⟩ = some (.string m) := (g3.cell (p := ⟨w1.heap.size, 0, none⟩) (by simp only []; omega)).trans c0
            have hF4 : F.answers w4.tape := by rw [g3.tape]; exact hF2
            have hb4 : Below w1.heap.size w1 w4 := hb2.trans (g3.mono hb2.size)
            have G2 : Hid (w4.heap.size = w3.heap.size + 2) := g2
            clear c2 c0 hb2 g2 g3 hs2 hF2
            go_wp2_with fail
            refine (zfailure_err F (w1.heap.size + 1) ⟨w1.heap.size, 0, none⟩ m t _ hF4 c2' c0').mono ?_
            rintro e w5 ⟨rfl, k1, k2, k3⟩
            have g1' : w5.cell? ⟨w3.heap.size + 1, 1, none⟩ = some (.iface 48 (.pointer (some ⟨w1.heap.size, 0, none⟩))) := (k3.cell (p := ⟨w3.heap.size + 1, 1, none⟩) (by have := G2.out; simp only []; omega)).trans g1
            have hb5 : Below w1.heap.size w1 w5 := hb4.trans (k3.mono hb4.size)
            clear g1 k2 k3 hb4 c2' c0' hF4
            go_wp2_with fail
            refine (unwrap_wrap _ 0 _ w5 g1').mono ?_
            rintro e w6 ⟨rfl, h6⟩
            subst h6
            go_wp2_with fail
            refine (unwrap_wrap _ 0 _ _ k1).mono ?_
            rintro e w6 ⟨rfl, h6⟩
            subst h6
            go_wp2_with (go_at_call 10; refine (is_same _ _).mono ?_; rintro e w7 ⟨rfl, rfl⟩)
            go_ret
            exact ⟨rfl, hb5⟩
        · have d3 : decide ((262144 : Int) < (t.size : Int)) = true := by simp; omega
          go_wp2
          go_ret
          exact ⟨rfl, Below.refl _ _⟩
      · have d2 : decide ((262144 : Int) < (r.size : Int)) = true := by simp; omega
        go_wp2
        go_ret
        exact ⟨rfl, Below.refl _ _⟩
    · have d1 : decide ((524288 : Int) < (m.size : Int)) = true := by simp; omega
      go_wp2
      go_ret
      exact ⟨rfl, Below.refl _ _⟩
end Go.Proofs.Qxb6612328aFmt
