/-
  The contract of zzb1SameHeld: two queues that hold the same lines.
-/
import Derived.Test.Qxb6612260aReads
import Derived.LoopTactic
namespace Go.Proofs.Qxb6612260a
open Go.Conc Go.RowKit

set_option maxRecDepth 100000 in
theorem sameHeld_any (base qa ca da qb cb db : Nat) (ha hb : Value) (ls : List ByteArray) (w : World) (HA : Holds w base qa ca da 0 ha ls) (HB : Holds w base qb cb db 0 hb ls) (hl : ls.length ≤ 1048576) :
    Calls Try.prog 11 #[.pointer (some ⟨qa, 0, none⟩), .pointer (some ⟨qb, 0, none⟩)] w fun e w' => e = .returned (.bool true) ∧ w' = w := by
  go_enter Try.func11, Try.ntmps11
  go_wp2_with fail
  refine (heldLen_any base qa ca da 0 ha ls w HA).mono ?_
  rintro e w1 ⟨rfl, h1⟩
  subst h1
  go_wp2_with fail
  refine (heldLen_any base qb cb db 0 hb ls _ HB).mono ?_
  rintro e w2 ⟨rfl, h2⟩
  subst h2
  go_wp2_with fail
  go_loopw [6] (fun i wr => ∃ k : Nat, k ≤ ls.length ∧ i = .int .i64 k ∧ wr = w2) (fun i _ => ls.length - (intOf i).toNat)
  case atStart => exact ⟨0, Nat.zero_le _, rfl, rfl⟩
  case round =>
    obtain ⟨k, hk, rfl, hw⟩ := hrel
    subst hw
    by_cases hlt : k < ls.length
    · obtain ⟨x, hx⟩ : ∃ x, ls[k] = x := ⟨_, rfl⟩
      have HX : Hid (ls[k] = x) := hx
      clear hx
      go_wp2_with fail
      refine (heldLine_any base qa ca da 0 ha ls _ k x HA hlt HX.out hl).mono ?_
      rintro e w3 ⟨rfl, h3⟩
      subst h3
      go_wp2_with fail
      refine (heldLine_any base qb cb db 0 hb ls _ k x HB hlt HX.out hl).mono ?_
      rintro e w4 ⟨rfl, h4⟩
      subst h4
      go_wp2_with fail
      refine (heldRelayed_any base qa ca da 0 ha ls _ k HA hlt hl).mono ?_
      rintro e w5 ⟨rfl, h5⟩
      subst h5
      go_wp2_with fail
      refine (heldRelayed_any base qb cb db 0 hb ls _ k HB hlt hl).mono ?_
      rintro e w6 ⟨rfl, h6⟩
      subst h6
      go_wp2_with fail
      refine (heldOwn_any base qa ca da 0 ha ls _ k HA hlt hl).mono ?_
      rintro e w7 ⟨rfl, h7⟩
      subst h7
      go_wp2_with fail
      refine (heldOwn_any base qb cb db 0 hb ls _ k HB hlt hl).mono ?_
      rintro e w8 ⟨rfl, h8⟩
      subst h8
      go_wp2
      go_roundw
      case rel => exact ⟨k + 1, by omega, by go_num, trivial⟩
      case measure => simp [intOf]; omega
    · go_wp2_with fail
      refine (size_any base qa ca da 0 ha ls _ HA).mono ?_
      rintro e w3 ⟨rfl, h3⟩
      subst h3
      go_wp2_with fail
      refine (size_any base qb cb db 0 hb ls _ HB).mono ?_
      rintro e w4 ⟨rfl, h4⟩
      subst h4
      go_wp2_with fail
      refine (wakeLen_any base qa ca da 0 ha ls _ HA).mono ?_
      rintro e w5 ⟨rfl, h5⟩
      subst h5
      go_wp2_with fail
      refine (wakeLen_any base qb cb db 0 hb ls _ HB).mono ?_
      rintro e w6 ⟨rfl, h6⟩
      subst h6
      go_wp2
      go_ret
      exact ⟨rfl, rfl⟩
end Go.Proofs.Qxb6612260a
