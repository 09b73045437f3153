/-
  The walk of FnSwapReversesByHalves at two slices that are not nil.
-/
import Derived.Test.Qxb6612374aMir
import Derived.Laws.CopyOwn
import Derived.WalkSpells
namespace Go.Proofs.Qxb6612374a
open Go.RowKit

theorem size27 : (Try.prog.info? 27).map (·.size) = some 1 := by kernel_rfl
theorem splice_all (n : Nat) (zs : List Int) (h : zs.length = n) : splice (ints (List.replicate n 0)) 0 (ints zs) = ints zs := by
  have : (List.drop n (ints (List.replicate n 0))) = [] := List.drop_eq_nil_of_le (by simp [ints])
  simp [splice, show (ints zs).length = n from by simp [ints, h], this]
theorem ints_one (zs : List Int) : ∀ v ∈ ints zs, v.oneCell' = true := by
  intro v hv
  simp only [ints, List.mem_map] at hv
  obtain ⟨z, _, rfl⟩ := hv
  rfl
theorem block_add (x : Addr) (j : Nat) : (x.add j).block = x.block := by unfold Addr.add; split <;> rfl
theorem ints_length (zs : List Int) : (ints zs).length = zs.length := by simp [ints]

set_option maxRecDepth 100000 in
set_option maxHeartbeats 2000000 in
theorem rev_some (x0 x1 : Addr) (n c0 c1 : Nat) (zs ys : List Int) (w : World) (hn : n ≤ 65536) (hz : zs.length = n) (hy : ys.length = n)
    (hb0 : 0 < n → x0.block < w.heap.size) (hb1 : 0 < n → x1.block < w.heap.size)
    (hc0 : ∀ j v, (ints zs)[j]? = some v → w.cell? (x0.add j) = some v) (hc1 : ∀ j v, (ints ys)[j]? = some v → w.cell? (x1.add j) = some v) :
    Calls Try.prog 4 #[.slice (some x0) n c0, .slice (some x1) n c1] w fun e w' => e = .returned (.bool true) ∧ Below w.heap.size w w' := by
  obtain ⟨i0, hi, hz0, hz1, hz2⟩ := info_parts info27
  have HZ : Hid (zs.length = n) := hz
  have HY : Hid (ys.length = n) := hy
  have HC0 : Hid (∀ j v, (ints zs)[j]? = some v → w.cell? (x0.add j) = some v) := hc0
  have HC1 : Hid (∀ j v, (ints ys)[j]? = some v → w.cell? (x1.add j) = some v) := hc1
  have hd0 : decide ((65536 : Int) < (n : Int)) = false := by simp; omega
  have hs0 := fun (a : Option Addr) (n c : Nat) (w : World) => run_neq_slice_nil_any (P := Try.prog) w 22 27 a n c 0 0 Try.underlying22
  clear hz hy hc0 hc1
  go_enter Try.func4, Try.ntmps4
  go_wp2_with fail
  refine (bytes12 (some x0) (some x1) n n c0 c1 w (by omega) (by omega)).mono ?_
  rintro e w1 ⟨b, rfl, h1⟩
  subst h1
  cases b with
  | false =>
    go_wp2
    go_ret
    exact ⟨rfl, Below.refl _ _⟩
  | true =>
    go_wp2_with (at_make; refine wpList_make_full _ rfl _ _ 22 rfl w1.heap.size 27 i0 _ 1 Try.underlying22 hi hz0 hz1 _ _ _ _ n rfl rfl rfl rfl ?c2 ?c3 ?c4 ?_)
    case c2 => rw [hz2]; omega
    case c3 => unfold maxLen; omega
    case c4 => exact Nat.le_refl _
    intro w2 hown hgrow
    have hr2 := owns_row hown
    rw [made1] at hr2
    have hb2 : Below w1.heap.size w1 w2 := ⟨hgrow.os, hgrow.tape, hgrow.output, hgrow.size, fun k hk => hgrow.block k hk (by simp)⟩
    have HP2 : Hid (0 < (ints zs).length → some (⟨w1.heap.size, 0, none⟩ : Addr) = some ⟨w1.heap.size, 0, none⟩ ∧ ∃ ad, some x0 = some ad ∧ ∀ j v, (ints zs)[j]? = some v → w2.cell? (ad.add j) = some v) := fun h =>
      ⟨rfl, x0, rfl, fun j v hv => (hb2.cell (by rw [block_add]; exact hb0 (by rw [ints_length, HZ.out] at h; exact h))).trans (HC0.out j v hv)⟩
    have HR2 : Hid (Row w2 w1.heap.size 27 (ints (List.replicate n 0))) := hr2
    clear hown hgrow hr2
    go_wp2_with (refine wpList_copy_splice rfl (.tmp 35) (.tmp 36) 22 22 rfl 27 Try.underlying22 size27 _ _ _ _ _ _ rfl rfl w1.heap.size 0 (ints (List.replicate n 0)) 27 HR2.out (ints zs) ?d1 HP2.out ?d2 (ints_one zs) w1.heap.size w1 hb2 (Nat.le_refl _) ?_)
    case d1 => rw [ints_length, HZ.out]
    case d2 => rw [ints_length, ints_length, HZ.out]; simp
    intro w3 HR3 hb3
    have R3 : Hid (Row w3 w1.heap.size 27 (ints zs)) := by have := HR3.out; rw [splice_all n zs HZ.out] at this; exact this
    have HB3 : Hid (Below w1.heap.size w1 w3) := hb3
    clear HR3 hb3 HR2 HP2 hb2
    rw [ints_length, HZ.out]
    go_wp2_with (at_make; refine wpList_make_full _ rfl _ _ 22 rfl w3.heap.size 27 i0 _ 1 Try.underlying22 hi hz0 hz1 _ _ _ _ n rfl rfl rfl rfl ?f2 ?f3 ?f4 ?_)
    case f2 => rw [hz2]; omega
    case f3 => unfold maxLen; omega
    case f4 => exact Nat.le_refl _
    intro w4 hown hgrow
    have hr4 := owns_row hown
    rw [made1] at hr4
    have hb4 : Below w3.heap.size w3 w4 := ⟨hgrow.os, hgrow.tape, hgrow.output, hgrow.size, fun k hk => hgrow.block k hk (by simp)⟩
    have HP4 : Hid (0 < (ints ys).length → some (⟨w3.heap.size, 0, none⟩ : Addr) = some ⟨w3.heap.size, 0, none⟩ ∧ ∃ ad, some x1 = some ad ∧ ∀ j v, (ints ys)[j]? = some v → w4.cell? (ad.add j) = some v) := fun h =>
      ⟨rfl, x1, rfl, fun j v hv => by
        have hlt := hb1 (by rw [ints_length, HY.out] at h; exact h)
        have hsz := HB3.out.size
        exact (hb4.cell (by rw [block_add]; omega)).trans ((HB3.out.cell (by rw [block_add]; exact hlt)).trans (HC1.out j v hv))⟩
    have HR4 : Hid (Row w4 w3.heap.size 27 (ints (List.replicate n 0))) := hr4
    clear hown hgrow hr4
    go_wp2_with (refine wpList_copy_splice rfl (.tmp 44) (.tmp 45) 22 22 rfl 27 Try.underlying22 size27 _ _ _ _ _ _ rfl rfl w3.heap.size 0 (ints (List.replicate n 0)) 27 HR4.out (ints ys) ?h1 HP4.out ?h2 (ints_one ys) w3.heap.size w3 hb4 (Nat.le_refl _) ?_)
    case h1 => rw [ints_length, HY.out]
    case h2 => rw [ints_length, ints_length, HY.out]; simp
    intro w5 HR5 hb5
    have R5 : Row w5 w3.heap.size 27 (ints ys) := by have := HR5.out; rw [splice_all n ys HY.out] at this; exact this
    have R5' : Row w5 w1.heap.size 27 (ints zs) := (hb5.block w1.heap.size R3.out.lt).trans R3.out
    have hB5 : Below w1.heap.size w1 w5 := HB3.out.trans (hb5.mono HB3.out.size)
    have hne : w1.heap.size < w3.heap.size := R3.out.lt
    have hlt3 : w3.heap.size < w5.heap.size := R5.lt
    clear HR5 hb5 HR4 HP4 hb4 R3 HB3 HC0 HC1 hb0 hb1 hi hz0 hz1 hz2
    rw [ints_length, HY.out]
    generalize hg0 : w1.heap.size = g0 at R5' hne ⊢
    generalize hg1 : w3.heap.size = g1 at R5 hne hlt3 ⊢
    have HG0 : Hid (w1.heap.size = g0) := hg0
    have HN : Hid (g0 < g1 ∧ g1 < w5.heap.size) := ⟨hne, hlt3⟩
    clear hg0 hg1 hne hlt3
    go_wp2_with fail
    refine (newRuns_some g0 g1 n zs ys w5 (by omega) HZ.out HY.out R5' R5).mono ?_
    rintro e w6 ⟨rfl, RH, k6⟩
    have R0 := k6.row R5' (fun h => h)
    have R1 := k6.row R5 (fun h => h)
    have hB6 : Hid (Below w1.heap.size w1 w6) := hB5.trans (Below.mono (k6.below (fun _ h => h.elim)) hB5.size)
    clear k6 R5 R5' hB5
    generalize hgh : w5.heap.size = gh at RH HN ⊢
    obtain ⟨hn0, hn1⟩ := HN.out
    have HGH : Hid (g0 ≠ gh ∧ g1 ≠ gh ∧ w1.heap.size ≤ gh ∧ g0 ≠ g1) := ⟨by omega, by omega, by have := HG0.out; omega, by omega⟩
    clear hgh HN hn0 hn1
    go_wp2_with fail
    have HL : Hid ((zs.zip ys).length = n) := show _ = _ by have h1 := HZ.out; have h2 := HY.out; simp; omega
    go_loopw [9] (fun i wr => ∃ k : Nat, k ≤ n ∧ i = .int .i64 k ∧ Row wr g0 27 (ints zs) ∧ Row wr g1 27 (ints ys) ∧ Row wr gh 47 (flat (mir (zs.zip ys) n k)) ∧ Hid (Below w1.heap.size w1 wr)) (fun i _ => n - (intOf i).toNat)
    case atStart => exact ⟨0, Nat.zero_le _, rfl, R0, R1, by rw [mir_zero _ n HL.out]; exact RH, hB6⟩
    case round =>
      obtain ⟨k, hk, rfl, S0, S1, SH, hB⟩ := hrel
      clear R0 R1 RH hB6
      by_cases hlt : k < n / 2
      · have hlt' : (k : Int) < (n : Int) / 2 := by omega
        go_wp2_with fail
        rw [show ((n : Int) - 1 - (k : Int)) = ((n - 1 - k : Nat) : Int) from by omega]
        refine (swap_any gh n k (n - 1 - k) _ _ _ wr hn (by omega) (by omega) SH (mir_at _ n k hlt).1 (mir_at _ n k hlt).2).mono ?_
        rintro e w7 ⟨rfl, SH', k7⟩
        rw [mir_swp _ n k hlt] at SH'
        have S0' := k7.row S0 HGH.out.1
        have S1' := k7.row S1 HGH.out.2.1
        have hB' : Hid (Below w1.heap.size w1 w7) := hB.out.trans ⟨k7.os, k7.tape, k7.output, k7.size, fun i hi => k7.block i (by have := hB.out.size; omega) (by have := HGH.out.2.2.1; omega)⟩
        clear S0 S1 SH hB k7
        go_wp2
        go_roundw
        case rel => exact ⟨k + 1, by omega, by go_num, S0', S1', SH', hB'⟩
        case measure => simp [intOf]; omega
      · have hlt' : ¬ (k : Int) < (n : Int) / 2 := by omega
        have HE : Hid (∀ x, x < n → (mir (zs.zip ys) n k)[x]? = some ((zs.zip ys).getD (n - 1 - x) (0, 0))) := fun x hx => mir_end _ n k x hlt hx
        go_wp2_with fail
        go_loopw [10] (fun i wx => ∃ x : Nat, x ≤ n ∧ i = .int .i64 x ∧ Row wx g0 27 (ints zs) ∧ Row wx g1 27 (ints ys) ∧ Row wx gh 47 (flat (mir (zs.zip ys) n k)) ∧ Hid (Below w1.heap.size w1 wx)) (fun i _ => n - (intOf i).toNat)
        case atStart => exact ⟨0, Nat.zero_le _, rfl, S0, S1, SH, hB⟩
        case round =>
          obtain ⟨x, hx, rfl, T0, T1, TH, hBx⟩ := hrel
          clear S0 S1 SH hB
          by_cases hlx : x < n
          · obtain ⟨z, hzk⟩ : ∃ z, zs[n - 1 - x]? = some z := ⟨_, List.getElem?_eq_getElem (by have := HZ.out; omega)⟩
            obtain ⟨y, hyk⟩ : ∃ y, ys[n - 1 - x]? = some y := ⟨_, List.getElem?_eq_getElem (by have := HY.out; omega)⟩
            have hget := HE.out x hlx
            rw [zip_at zs ys _ z y hzk hyk] at hget
            have HGet : Hid ((mir (zs.zip ys) n k)[x]? = some (z, y)) := hget
            have HZK : Hid ((ints zs)[n - 1 - x]? = some (.int .u64 z)) := ints_get zs _ z hzk
            have HYK : Hid ((ints ys)[n - 1 - x]? = some (.int .u64 y)) := ints_get ys _ y hyk
            clear hzk hyk hget
            go_wp2_with fail
            refine (freeRun_any gh n x _ z y _ hn hlx TH HGet.out).mono ?_
            rintro e w8 ⟨rfl, k8⟩
            have T0' := k8.row T0 (fun h => h)
            have T1' := k8.row T1 (fun h => h)
            have TH' := k8.row TH (fun h => h)
            have hB' : Hid (Below w1.heap.size w1 w8) := hBx.out.trans (Below.mono (k8.below (fun _ h => h.elim)) hBx.out.size)
            have q0 := (T0'.cell (n - 1 - x)).trans HZK.out
            have q1 := (T1'.cell (n - 1 - x)).trans HYK.out
            have et : ((n : Int) - 1 - (x : Int)).toNat = n - 1 - x := by omega
            have e0 : (0 : Int) ≤ (n : Int) - 1 - (x : Int) := by omega
            have e1 : (n : Int) - 1 - (x : Int) < (n : Int) := by omega
            clear T0 T1 TH hBx k8
            go_wp2
            go_roundw
            case rel => exact ⟨x + 1, by omega, by go_num, T0', T1', TH', hB'⟩
            case measure => simp [intOf]; omega
          · go_wp2
            go_ret
            exact ⟨rfl, hBx.out⟩

/-- Where a bound of the function's own says no, or the lengths differ. -/
theorem rev_early (a0 a1 : Option Addr) (m r c0 c1 : Nat) (w : World) (hm : m ≤ 9223372036854775807) (hr : r ≤ 9223372036854775807) (h : 65536 < m ∨ 65536 < r ∨ m ≠ r) :
    Calls Try.prog 4 #[.slice a0 m c0, .slice a1 r c1] w fun e w' => e = .returned (.bool true) ∧ Below w.heap.size w w' := by
  by_cases h1 : m ≤ 65536
  · have d1 : decide ((65536 : Int) < (m : Int)) = false := by simp; omega
    by_cases h2 : r ≤ 65536
    · have d2 : decide ((65536 : Int) < (r : Int)) = false := by simp; omega
      have d3 : ((m : Int) != (r : Int)) = true := by simp; omega
      clear h
      go_enter Try.func4, Try.ntmps4
      go_wp2_with fail
      refine (bytes12 a0 a1 m r c0 c1 w hm hr).mono ?_
      rintro e w1 ⟨b, rfl, h1⟩
      subst h1
      cases b with
      | false => go_wp2; go_ret; exact ⟨rfl, Below.refl _ _⟩
      | true => go_wp2; go_ret; exact ⟨rfl, Below.refl _ _⟩
    · have d2 : decide ((65536 : Int) < (r : Int)) = true := by simp; omega
      clear h
      go_enter Try.func4, Try.ntmps4
      go_wp2_with fail
      refine (bytes12 a0 a1 m r c0 c1 w hm hr).mono ?_
      rintro e w1 ⟨b, rfl, h1⟩
      subst h1
      cases b with
      | false => go_wp2; go_ret; exact ⟨rfl, Below.refl _ _⟩
      | true => go_wp2; go_ret; exact ⟨rfl, Below.refl _ _⟩
  · have d1 : decide ((65536 : Int) < (m : Int)) = true := by simp; omega
    clear h
    go_enter Try.func4, Try.ntmps4
    go_wp2_with fail
    refine (bytes12 a0 a1 m r c0 c1 w hm hr).mono ?_
    rintro e w1 ⟨b, rfl, h1⟩
    subst h1
    cases b with
    | false => go_wp2; go_ret; exact ⟨rfl, Below.refl _ _⟩
    | true => go_wp2; go_ret; exact ⟨rfl, Below.refl _ _⟩

end Go.Proofs.Qxb6612374a
