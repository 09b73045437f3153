/-
  The walk of FnQueueWriteStringAgreesWithWrite.
-/
import Derived.Test.Qxb6612260aTwo
import Derived.WalkSpells
namespace Go.Proofs.Qxb6612260a
open Go.Conc Go.RowKit

theorem pair_start {w w1 w2 : World} {ca da cb db : Nat} (h1 : w.heap.size ≤ ca) (h2 : ca < w.heap.size + 2) (h3 : w1.heap.size = w.heap.size + 3)
    (h4 : w1.heap[w.heap.size + 2]? = some (qobj ca da (.slice none 0 0) 0)) (h5 : w1.heap[ca]? = some (.chan 1 #[] false 0 0 false)) (h6 : Below w.heap.size w w1)
    (k1 : w1.heap.size ≤ cb) (k2 : cb < w1.heap.size + 2) (k3 : w2.heap.size = w1.heap.size + 3)
    (k4 : w2.heap[w1.heap.size + 2]? = some (qobj cb db (.slice none 0 0) 0)) (k5 : w2.heap[cb]? = some (.chan 1 #[] false 0 0 false)) (k6 : Below w1.heap.size w1 w2) :
    Laid w (w.heap.size + 6) (w.heap.size + 2) ca (w1.heap.size + 2) cb ∧ Pair w w2 (w.heap.size + 6) (w.heap.size + 2) ca da (w1.heap.size + 2) cb db (.slice none 0 0) (.slice none 0 0) [] := by
  refine ⟨⟨by omega, by omega, by omega, by omega, by omega, by omega, by omega, by omega, by omega, by omega, by omega, by omega, by omega, by omega, by omega⟩, ⟨⟨?_, World.ownsRow_nil _ _ _ _, ?_⟩, ⟨k4, World.ownsRow_nil _ _ _ _, k5⟩, ?_, by omega, h6.trans (k6.mono (by omega))⟩⟩
  · rw [k6.block _ (by omega)]; exact h4
  · rw [k6.block _ (by omega)]; exact h5
  · intro k h; simp [Value.ownBlock] at h

theorem bytes_cells (w : World) (s : ByteArray) : ∀ j (hj : j < s.data.toList.length), (Lib.bytesWorld w 5 s).cell? ((⟨w.heap.size, 0, none⟩ : Addr).add j) = some (.int .u8 (s.data.toList[j].toNat : Int)) := by
  intro j hj
  have h := Lib.bytesWorld_cell w 5 s j (by simpa using hj)
  rw [WideShapes.add_plain, Nat.zero_add, h, List.getD, List.getElem?_eq_getElem hj, Option.getD_some]

set_option maxRecDepth 100000 in
set_option maxHeartbeats 1000000 in
theorem agree_some (b off len cap : Nat) (ss : List ByteArray) (w : World) (hbw : b < w.heap.size) (hm : len ≤ 9223372036854775807) (hc : ∀ i, i < len → w.cell? ⟨b, off + i, none⟩ = some (.string (at' ss i))) (hw : ∀ i, i < len → (at' ss i).size ≤ 9223372036854775807) :
    Calls Try.prog 3 #[.slice (some ⟨b, off, none⟩) len cap] w fun e w' => e = .returned (.bool true) ∧ Below w.heap.size w w' := by
  go_enter Try.func3, Try.ntmps3
  go_wp2_with fail
  refine (zzBytes_some b off len cap ss w hm hc hw).mono ?_
  rintro e w1 ⟨r, rfl, h1, hr⟩
  subst h1
  cases r with
  | false =>
    go_wp2
    go_ret
    exact ⟨rfl, Below.refl _ _⟩
  | true =>
    have hshort := hr rfl
    have HC : Hid (∀ i, i < len → w1.cell? ⟨b, off + i, none⟩ = some (.string (at' ss i))) := hc
    have HS : Hid (∀ i, i < len → (at' ss i).size ≤ 1048576) := hshort
    clear hr hc hw hshort
    by_cases hl : len ≤ 65536
    · have hd0 : decide ((65536 : Int) < (len : Int)) = false := by simp; omega
      go_wp2_with fail
      refine (zzb1_some b off len cap ss w1 hl HC.out HS.out).mono ?_
      rintro e w2 ⟨t, rfl, h2, ht⟩
      subst h2
      by_cases hT : t ≤ 1048576
      · have hd1 : decide ((1048576 : Int) < (t : Int)) = false := by simp; omega
        have HT : Hid (16 * len + total (ss.take len) ≤ 1048576) := ht hT
        clear ht
        go_wp2_with fail
        refine (new_idle _).mono ?_
        rintro e w3 ⟨ca, da, rfl, g1, g2, g3, g4, g5, g6⟩
        have G : Hid (w2.heap.size ≤ ca ∧ ca < w2.heap.size + 2 ∧ w3.heap.size = w2.heap.size + 3 ∧ w3.heap[w2.heap.size + 2]? = some (qobj ca da (.slice none 0 0) 0) ∧ w3.heap[ca]? = some (.chan 1 #[] false 0 0 false) ∧ Below w2.heap.size w2 w3) := ⟨g1, g2, g3, g4, g5, g6⟩
        clear g1 g2 g3 g4 g5 g6
        go_wp2_with fail
        refine (new_idle _).mono ?_
        rintro e w4 ⟨cb, db, rfl, k1, k2, k3, k4, k5, k6⟩
        obtain ⟨g1, g2, g3, g4, g5, g6⟩ := G.out
        obtain ⟨L, P⟩ := pair_start g1 g2 g3 g4 g5 g6 k1 k2 k3 k4 k5 k6
        clear g1 g2 g3 g4 g5 g6 k1 k2 k3 k4 k5 k6 G
        generalize w2.heap.size + 2 = qa at L P ⊢
        generalize w3.heap.size + 2 = qb at L P ⊢
        generalize w2.heap.size + 6 = base at L P
        go_wp2_with fail
        go_loopw [5, 6, 7] (fun sm gv i wr => ∃ k z n : Nat, ∃ ha hb : Value, k ≤ len ∧ i = .int .i64 k ∧ sm = .int .i64 z ∧ gv = .int .i64 n ∧ z ≤ 1048576 ∧ n ≤ 65536 ∧ Hid (z = total (kept ss k) ∧ n = (kept ss k).length) ∧ Pair w2 wr base qa ca da qb cb db ha hb (kept ss k))
          (fun _ _ i _ => len - (intOf i).toNat)
        case atStart => exact ⟨0, 0, 0, _, _, Nat.zero_le _, rfl, rfl, rfl, by omega, by omega, ⟨rfl, rfl⟩, P⟩
        case round =>
          obtain ⟨k, z, n, ha, hb, hk, rfl, rfl, rfl, hz, hn, HZ, PR⟩ := hrel
          clear P
          by_cases hlt : k < len
          · have hcell : wr.cell? ⟨b, off + k, none⟩ = some (.string (at' ss k)) := (PR.below.cell (p := ⟨b, off + k, none⟩) hbw).trans (HC.out k hlt)
            have hs2 := HS.out k hlt
            have hkl : (kept ss k).length ≤ 1048576 := by have := length_kept ss k; omega
            have HN : Hid (total (kept ss (k + 1)) = z + (at' ss k).size ∧ (kept ss (k + 1)).length = if (at' ss k).toList.isEmpty then n else n + 1) := by
              refine ⟨by rw [HZ.out.1, kept, total_push], ?_⟩
              rw [HZ.out.2, kept, push]
              split <;> simp
            have hnk : n < 65536 := by have := length_kept ss k; have := HZ.out.2; omega
            have HP : Hid (kept ss (k + 1) = push (kept ss k) (at' ss k)) := rfl
            have hbd : total (ss.take (k + 1)) ≤ total (ss.take len) := total_take_mono ss (by omega)
            have hbd2 : z + (at' ss k).size ≤ 1048560 := by
              have h := HT.out
              have h2 := total_take ss k
              have h3 := HZ.out.1
              rw [total_kept] at h3
              omega
            have htt : Hid (total (kept ss k) < 1048576) := show _ < _ by have := HZ.out.1; omega
            clear hbd
            generalize at' ss k = x at *
            have hcv := fun (w : World) => Lib.run_convert_string_bytes (P := Try.prog) w 9 32 5 x Try.underlying9 Try.underlying32 Try.underlying5
            cases hx : x.toList.isEmpty with
            | true =>
              go_wp2_with fail
              refine (writeString_any x base qa ca da ha (kept ss k) wr PR.a (fun _ => htt.out) hs2 hkl L.xqa L.xca L.xcaqa PR.size).mono ?_
              rintro e w5 ⟨rfl, A⟩
              obtain ⟨ha', HA1, HB1, hap, hsz, hbel⟩ := Pair.first L PR A
              clear A PR hcell
              go_wp2_with fail
              refine (write_any x ⟨w5.heap.size, 0, none⟩ _ base qb cb db hb (kept ss k) _ HB1 (bytes_cells w5 x) (fun _ => htt.out) hs2 hkl L.xqb L.xcb L.xcbqb hsz).mono ?_
              rintro e w6 ⟨rfl, A2⟩
              obtain ⟨hb', P'⟩ := Pair.second L HA1 HB1 hap hsz hbel A2
              clear A2 HA1 HB1 hap hsz hbel
              go_wp2
              go_roundw
              case rel => exact ⟨k + 1, z + x.size, n, ha', hb', by omega, by go_num, by go_num, by go_num, by omega, by omega, ⟨HN.out.1.symm, by rw [HN.out.2, hx]; rfl⟩, by rw [HP.out]; exact P'⟩
              case measure => simp [intOf]; omega
            | false =>
              go_wp2_with fail
              refine (writeString_any x base qa ca da ha (kept ss k) wr PR.a (fun _ => htt.out) hs2 hkl L.xqa L.xca L.xcaqa PR.size).mono ?_
              rintro e w5 ⟨rfl, A⟩
              obtain ⟨ha', HA1, HB1, hap, hsz, hbel⟩ := Pair.first L PR A
              clear A PR hcell
              go_wp2_with fail
              refine (write_any x ⟨w5.heap.size, 0, none⟩ _ base qb cb db hb (kept ss k) _ HB1 (bytes_cells w5 x) (fun _ => htt.out) hs2 hkl L.xqb L.xcb L.xcbqb hsz).mono ?_
              rintro e w6 ⟨rfl, A2⟩
              obtain ⟨hb', P'⟩ := Pair.second L HA1 HB1 hap hsz hbel A2
              clear A2 HA1 HB1 hap hsz hbel
              go_wp2
              go_roundw
              case rel => exact ⟨k + 1, z + x.size, n + 1, ha', hb', by omega, by go_num, by go_num, by go_num, by omega, by omega, ⟨HN.out.1.symm, by rw [HN.out.2, hx]; rfl⟩, by rw [HP.out]; exact P'⟩
              case measure => simp [intOf]; omega
          · obtain rfl : k = len := by omega
            have hkl : (kept ss k).length ≤ 1048576 := by have := length_kept ss k; omega
            by_cases hn0 : 0 < n
            · have hs1 : sent n = 1 := by unfold sent; rw [if_neg (by omega)]
              go_wp2_with fail
              refine (sameHeld_any base qa ca da qb cb db ha hb (kept ss k) wr PR.a PR.b hkl).mono ?_
              rintro e w5 ⟨rfl, h5⟩
              subst h5
              go_wp2_with fail
              refine (size_any base qa ca da 0 ha (kept ss k) _ PR.a).mono ?_
              rintro e w6 ⟨rfl, h6⟩
              subst h6
              rw [← HZ.out.1]
              go_wp2_with fail
              refine (heldLen_any base qa ca da 0 ha (kept ss k) _ PR.a).mono ?_
              rintro e w7 ⟨rfl, h7⟩
              subst h7
              rw [← HZ.out.2]
              go_wp2_with fail
              refine (wakeLen_any base qa ca da 0 ha (kept ss k) _ PR.a).mono ?_
              rintro e w8 ⟨rfl, h8⟩
              subst h8
              rw [← HZ.out.2]
              go_wp2
              go_ret
              exact ⟨rfl, PR.below⟩
            · have hs1 : sent n = 0 := by unfold sent; rw [if_pos (by omega)]
              go_wp2_with fail
              refine (sameHeld_any base qa ca da qb cb db ha hb (kept ss k) wr PR.a PR.b hkl).mono ?_
              rintro e w5 ⟨rfl, h5⟩
              subst h5
              go_wp2_with fail
              refine (size_any base qa ca da 0 ha (kept ss k) _ PR.a).mono ?_
              rintro e w6 ⟨rfl, h6⟩
              subst h6
              rw [← HZ.out.1]
              go_wp2_with fail
              refine (heldLen_any base qa ca da 0 ha (kept ss k) _ PR.a).mono ?_
              rintro e w7 ⟨rfl, h7⟩
              subst h7
              rw [← HZ.out.2]
              go_wp2_with fail
              refine (wakeLen_any base qa ca da 0 ha (kept ss k) _ PR.a).mono ?_
              rintro e w8 ⟨rfl, h8⟩
              subst h8
              rw [← HZ.out.2]
              go_wp2
              go_ret
              exact ⟨rfl, PR.below⟩
      · have hd1 : decide ((1048576 : Int) < (t : Int)) = true := by simp; omega
        go_wp2
        go_ret
        exact ⟨rfl, Below.refl _ _⟩
    · have hd0 : decide ((65536 : Int) < (len : Int)) = true := by simp; omega
      go_wp2
      go_ret
      exact ⟨rfl, Below.refl _ _⟩
end Go.Proofs.Qxb6612260a
