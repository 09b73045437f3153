/-
  The walk of FnFailureNilExactlyWhenToldWhole, for every F.
-/
import Derived.Test.Qxb6612328aFmtWalks
import Derived.Test.Qxb6612328aFmtIs
namespace Go.Proofs.Qxb6612328aFmt
open Go.RowKit Go.Extern.Stop Go.Stop Go.Extern

/-- It answers a bool and turns nothing. -/
def SomeBool (w : World) (e : Ending) (w' : World) : Prop := ∃ b, e = .returned (.bool b) ∧ w' = w
theorem SomeBool.mk {w : World} (b : Bool) {e : Ending} (h : e = .returned (.bool b)) : SomeBool w e w := ⟨b, h, rfl⟩

set_option maxRecDepth 100000 in
theorem bytes1 (h : Bool) (m r : ByteArray) (w : World) (hm : m.size ≤ 9223372036854775807) (hr : r.size ≤ 9223372036854775807) :
    Calls Tryf.prog 5 #[.bool h, .string m, .string r] w (SomeBool w) := by
  by_cases h1 : m.size ≤ 1048576
  · have d1 : decide ((1048576 : Int) < (m.size : Int)) = false := by simp; omega
    by_cases h2 : r.size ≤ 1048576
    · have d2 : decide ((1048576 : Int) < (r.size : Int)) = false := by simp; omega
      by_cases h3 : m.size + r.size ≤ 1048576
      · have d3 : decide ((1048576 : Int) < (m.size : Int) + (r.size : Int)) = false := by simp; omega
        go_enter Tryf.func5, Tryf.ntmps5
        go_wp2
        go_ret
        exact SomeBool.mk true rfl
      · have d3 : decide ((1048576 : Int) < (m.size : Int) + (r.size : Int)) = true := by simp; omega
        go_enter Tryf.func5, Tryf.ntmps5
        go_wp2
        go_ret
        exact SomeBool.mk false rfl
    · have d2 : decide ((1048576 : Int) < (r.size : Int)) = true := by simp; omega
      go_enter Tryf.func5, Tryf.ntmps5
      go_wp2
      go_ret
      exact SomeBool.mk false rfl
  · have d1 : decide ((1048576 : Int) < (m.size : Int)) = true := by simp; omega
    go_enter Tryf.func5, Tryf.ntmps5
    go_wp2
    go_ret
    exact SomeBool.mk false rfl

theorem cell2 (w : World) (o : Obj) (x y z u : Value) (t : TypeId) : ((w.alloc o).alloc (.cells #[x, y, z, u] t)).cell? ⟨w.heap.size + 1, 2, none⟩ = some z := by simp
theorem cell1 (w : World) (x : Value) (t : TypeId) (o : Obj) : ((w.alloc (.cells #[x] t)).alloc o).cell? ⟨w.heap.size, 0, none⟩ = some x := by simp
theorem cell0 (w : World) (x y z u : Value) (t : TypeId) : (w.alloc (.cells #[x, y, z, u] t)).cell? ⟨w.heap.size, 2, none⟩ = some z := by simp

set_option maxRecDepth 100000 in
set_option maxHeartbeats 1000000 in
theorem law1 (F : Interp) (h : Bool) (m r : ByteArray) (w : World) (hF : F.answers w.tape) (hm : m.size ≤ 9223372036854775807) (hr : r.size ≤ 9223372036854775807) :
    Calls Tryf.prog 3 #[.bool h, .string m, .string r] w fun e w' => e = .returned (.bool true) ∧ Below w.heap.size w w' := by
  go_enter Tryf.func3, Tryf.ntmps3
  go_wp2_with fail
  refine (bytes1 h m r w hm hr).mono ?_
  rintro e w1 ⟨b, rfl, h1⟩
  subst h1
  cases b with
  | false =>
    go_wp2
    go_ret
    exact ⟨rfl, Below.refl _ _⟩
  | true =>
    by_cases h1 : m.size ≤ 524288
    · have d1 : decide ((524288 : Int) < (m.size : Int)) = false := by simp; omega
      by_cases h2 : r.size ≤ 524288
      · have d2 : decide ((524288 : Int) < (r.size : Int)) = false := by simp; omega
        cases h with
        | false =>
          go_wp2_with fail
          refine (whole_any w1).mono ?_
          rintro e w2 ⟨rfl, rfl⟩
          go_wp2_with fail
          refine (zfailure_nil w1.heap.size r _ (cell0 w1 _ _ _ _ _)).mono ?_
          rintro e w3 ⟨rfl, h3⟩
          subst h3
          go_wp2
          go_ret
          exact ⟨rfl, (Below.refl _ w1).alloc (Nat.le_refl _) _⟩
        | true =>
          go_wp2_with fail
          refine (stopped_any m w1).mono ?_
          rintro e w2 ⟨rfl, h2⟩
          have c2 : w2.cell? ⟨w1.heap.size + 1, 2, none⟩ = some (.iface 48 (.pointer (some ⟨w1.heap.size, 0, none⟩))) := by rw [h2]; exact cell2 _ _ _ _ _ _ _
          have c0 : w2.cell? ⟨w1.heap.size, 0, none⟩ = some (.string m) := by rw [h2]; exact cell1 _ _ _ _
          have hb2 : Below w1.heap.size w1 w2 := by rw [h2]; exact ((Below.refl _ w1).alloc (Nat.le_refl _) _).alloc (by simp) _
          have hs2 : w2.heap.size = w1.heap.size + 2 := by rw [h2]; simp
          have hF2 : F.answers w2.tape := by rw [h2]; exact hF
          have HS : Hid (w2.heap.size = w1.heap.size + 2) := hs2
          clear h2 hs2
          go_wp2_with fail
          refine (err_any (w1.heap.size + 1) _ w2 c2).mono ?_
          rintro e w3 ⟨rfl, h3⟩
          subst h3
          go_wp2_with fail
          refine (zfailure_err F (w1.heap.size + 1) ⟨w1.heap.size, 0, none⟩ m r _ hF2 c2 c0).mono ?_
          rintro e w4 ⟨rfl, g1, g2, g3⟩
          clear g2
          go_wp2_with fail
          refine (is_wrap_same _ 0 _ w4 g1).mono ?_
          rintro e w5 ⟨rfl, h5⟩
          subst h5
          go_wp2
          go_ret
          exact ⟨rfl, hb2.trans (g3.mono hb2.size)⟩
      · have d2 : decide ((524288 : Int) < (r.size : Int)) = true := by simp; omega
        go_wp2
        go_ret
        exact ⟨rfl, Below.refl _ _⟩
    · have d1 : decide ((524288 : Int) < (m.size : Int)) = true := by simp; omega
      go_wp2
      go_ret
      exact ⟨rfl, Below.refl _ _⟩
end Go.Proofs.Qxb6612328aFmt
