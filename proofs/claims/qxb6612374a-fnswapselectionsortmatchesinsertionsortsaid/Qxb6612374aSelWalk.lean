/-
  The walk of FnSwapSelectionSortMatchesInsertionSort at two slices that are not nil.
-/
import Derived.Test.Qxb6612374aSort
import Derived.Test.Qxb6612374aRevWalk
namespace Go.Proofs.Qxb6612374a
open Go.RowKit

/-- The world in the first part: the two copies, the runs; nothing old has turned. -/
structure St (w1 wr : World) (g0 g1 gh : Nat) (zs ys : List Int) (hs : List (Int × Int)) : Prop where
  f : Row wr g0 27 (ints zs)
  c : Row wr g1 27 (ints ys)
  h : Row wr gh 47 (flat hs)
  b : Below w1.heap.size w1 wr
theorem below_keep {w1 wr w' : World} (hb : Below w1.heap.size w1 wr) (k : Keeps (fun _ => False) wr w') : Below w1.heap.size w1 w' := hb.trans (Below.mono (k.below (fun _ h => h.elim)) hb.size)
theorem St.keep {w1 wr w' : World} {g0 g1 gh : Nat} {zs ys : List Int} {hs : List (Int × Int)} (s : St w1 wr g0 g1 gh zs ys hs) (k : Keeps (fun _ => False) wr w') : St w1 w' g0 g1 gh zs ys hs :=
  ⟨k.row s.f (fun h => h), k.row s.c (fun h => h), k.row s.h (fun h => h), below_keep s.b k⟩
theorem St.swap {w1 wr w' : World} {g0 g1 gh : Nat} {zs ys : List Int} {hs hs' : List (Int × Int)} (s : St w1 wr g0 g1 gh zs ys hs) (k : Keeps (fun i => i = gh) wr w') (hr : Row w' gh 47 (flat hs')) (hg : g0 ≠ gh ∧ g1 ≠ gh ∧ w1.heap.size ≤ gh ∧ g0 ≠ g1) : St w1 w' g0 g1 gh zs ys hs' :=
  ⟨k.row s.f hg.1, k.row s.c hg.2.1, hr, s.b.trans ⟨k.os, k.tape, k.output, k.size, fun i hi => k.block i (by have := s.b.size; omega) (by have := hg.2.2.1; omega)⟩⟩
/-- The first j places from i on hold nothing before p. -/
def MinTo (hs : List (Int × Int)) (i j : Nat) (p : Int × Int) : Prop := ∀ x r, i ≤ x → x < j → hs[x]? = some r → Le p r
theorem minTo_start (hs : List (Int × Int)) (i : Nat) (p : Int × Int) (h : hs[i]? = some p) : MinTo hs i (i + 1) p := fun x r h1 h2 hr => by
  obtain rfl : x = i := by omega
  rw [h] at hr
  simp only [Option.some.injEq] at hr
  rw [hr]; exact Le.refl _
theorem minTo_keep {hs : List (Int × Int)} {i j : Nat} {p q : Int × Int} (h : MinTo hs i j p) (hq : hs[j]? = some q) (hl : less q p = false) : MinTo hs i (j + 1) p := fun x r h1 h2 hr => by
  by_cases e : x = j
  · subst e
    rw [hq] at hr
    simp only [Option.some.injEq] at hr
    rw [← hr]; exact hl
  · exact h x r h1 (by omega) hr
theorem minTo_turn {hs : List (Int × Int)} {i j : Nat} {p q : Int × Int} (h : MinTo hs i j p) (hq : hs[j]? = some q) (hl : less q p = true) : MinTo hs i (j + 1) q := fun x r h1 h2 hr => by
  by_cases e : x = j
  · subst e
    rw [hq] at hr
    simp only [Option.some.injEq] at hr
    rw [hr]; exact Le.refl _
  · exact (less_le hl).trans (h x r h1 (by omega) hr)

/-- The world in the second part: beside that the two rows of the insertion. -/
structure St2 (w1 wr : World) (g0 g1 gh gf gc : Nat) (zs ys : List Int) (hs W : List (Int × Int)) : Prop where
  st : St w1 wr g0 g1 gh zs ys hs
  wf : Row wr gf 27 (ints (W.map (·.1)))
  wc : Row wr gc 27 (ints (W.map (·.2)))
/-- The two new rows are none of the others. -/
structure New (w1 : World) (g0 g1 gh gf gc : Nat) : Prop where
  f0 : gf ≠ g0
  f1 : gf ≠ g1
  fh : gf ≠ gh
  c0 : gc ≠ g0
  c1 : gc ≠ g1
  ch : gc ≠ gh
  fc : gf ≠ gc
  lf : w1.heap.size ≤ gf
  lc : w1.heap.size ≤ gc
theorem ints_set (W : List (Int × Int)) (j : Nat) (p : Int × Int) : (ints (W.map (·.1))).set j (.int .u64 p.1) = ints ((W.set j p).map (·.1)) := by simp [ints, List.map_set]
theorem ints_set' (W : List (Int × Int)) (j : Nat) (p : Int × Int) : (ints (W.map (·.2))).set j (.int .u64 p.2) = ints ((W.set j p).map (·.2)) := by simp [ints, List.map_set]
theorem ints_at (W : List (Int × Int)) (x : Nat) (p : Int × Int) (h : W[x]? = some p) : (ints (W.map (·.1)))[x]? = some (.int .u64 p.1) ∧ (ints (W.map (·.2)))[x]? = some (.int .u64 p.2) := by simp [ints, h]
section
variable {w1 wr w' : World} {g0 g1 gh gf gc : Nat} {zs ys : List Int} {hs W : List (Int × Int)}
theorem St2.keep (s : St2 w1 wr g0 g1 gh gf gc zs ys hs W) (k : Keeps (fun _ => False) wr w') : St2 w1 w' g0 g1 gh gf gc zs ys hs W :=
  ⟨s.st.keep k, k.row s.wf (fun h => h), k.row s.wc (fun h => h)⟩
theorem St2.drewN (s : St2 w1 wr g0 g1 gh gf gc zs ys hs W) (n : Nat) : St2 w1 (wr.drewN n) g0 g1 gh gf gc zs ys hs W := s.keep ((Keeps.refl _ _).drewN n)
/-- Both rows stored at place j. -/
theorem St2.store (N : New w1 g0 g1 gh gf gc) (s : St2 w1 wr g0 g1 gh gf gc zs ys hs W) (j : Nat) (p : Int × Int) :
    St2 w1 ((wr.setCell ⟨gf, j, none⟩ (.int .u64 p.1)).setCell ⟨gc, j, none⟩ (.int .u64 p.2)) g0 g1 gh gf gc zs ys hs (W.set j p) := by
  have k : Keeps (fun i => i = gf ∨ i = gc) wr ((wr.setCell ⟨gf, j, none⟩ (.int .u64 p.1)).setCell ⟨gc, j, none⟩ (.int .u64 p.2)) := ((Keeps.refl _ wr).setCell (p := ⟨gf, j, none⟩) (.inl rfl) _).setCell (p := ⟨gc, j, none⟩) (.inr rfl) _
  have k1 : Keeps (fun i => i = gf) wr (wr.setCell ⟨gf, j, none⟩ (.int .u64 p.1)) := (Keeps.refl (fun i => i = gf) wr).setCell (p := ⟨gf, j, none⟩) rfl _
  have k2 : Keeps (fun i => i = gc) (wr.setCell ⟨gf, j, none⟩ (.int .u64 p.1)) ((wr.setCell ⟨gf, j, none⟩ (.int .u64 p.1)).setCell ⟨gc, j, none⟩ (.int .u64 p.2)) := (Keeps.refl (fun i => i = gc) _).setCell (p := ⟨gc, j, none⟩) rfl _
  have r1 := s.wf.set j (.int .u64 p.1)
  rw [ints_set] at r1
  have r2 := (k1.row s.wc (Ne.symm N.fc)).set j (.int .u64 p.2)
  rw [ints_set'] at r2
  refine ⟨⟨k.row s.st.f ?_, k.row s.st.c ?_, k.row s.st.h ?_, s.st.b.trans ⟨k.os, k.tape, k.output, k.size, fun i hi => k.block i (by have := s.st.b.size; omega) ?_⟩⟩, k2.row r1 N.fc, r2⟩
  · rintro (h | h)
    · exact N.f0 h.symm
    · exact N.c0 h.symm
  · rintro (h | h)
    · exact N.f1 h.symm
    · exact N.c1 h.symm
  · rintro (h | h)
    · exact N.fh h.symm
    · exact N.ch h.symm
  · have := N.lf
    have := N.lc
    omega
end

set_option maxRecDepth 100000 in
set_option maxHeartbeats 2000000 in
theorem sel_some (x0 x1 : Addr) (n c0 c1 : Nat) (zs ys : List Int) (w : World) (hn : n ≤ 1024) (hz : zs.length = n) (hy : ys.length = n)
    (hb0 : 0 < n → x0.block < w.heap.size) (hb1 : 0 < n → x1.block < w.heap.size)
    (hc0 : ∀ j v, (ints zs)[j]? = some v → w.cell? (x0.add j) = some v) (hc1 : ∀ j v, (ints ys)[j]? = some v → w.cell? (x1.add j) = some v) :
    Calls Try.prog 3 #[.slice (some x0) n c0, .slice (some x1) n c1] w fun e w' => e = .returned (.bool true) ∧ Below w.heap.size w w' := by
  obtain ⟨i0, hi, hz0, hz1, hz2⟩ := info_parts info27
  have HZ : Hid (zs.length = n) := hz
  have HY : Hid (ys.length = n) := hy
  have HC0 : Hid (∀ j v, (ints zs)[j]? = some v → w.cell? (x0.add j) = some v) := hc0
  have HC1 : Hid (∀ j v, (ints ys)[j]? = some v → w.cell? (x1.add j) = some v) := hc1
  have hd0 : decide ((1024 : Int) < (n : Int)) = false := by simp; omega
  have hs0 := fun (a : Option Addr) (n c : Nat) (w : World) => run_neq_slice_nil_any (P := Try.prog) w 22 27 a n c 0 0 Try.underlying22
  clear hz hy hc0 hc1
  go_enter Try.func3, Try.ntmps3
  go_wp2_with fail
  refine (bytes7 (some x0) (some x1) n n c0 c1 w (by omega) (by omega)).mono ?_
  rintro e w1 ⟨b, rfl, h1⟩
  subst h1
  cases b with
  | false =>
    go_wp2
    go_ret
    exact ⟨rfl, Below.refl _ _⟩
  | true =>
    go_wp2_with (at_make; refine wpList_make_full _ rfl _ _ 22 rfl w1.heap.size 27 i0 _ 1 Try.underlying22 hi hz0 hz1 _ _ _ _ n rfl rfl rfl rfl ?c2 ?c3 ?c4 ?_)
    case c2 => rw [hz2]; omega
    case c3 => unfold maxLen; omega
    case c4 => exact Nat.le_refl _
    intro w2 hown hgrow
    have hr2 := owns_row hown
    rw [made1] at hr2
    have hb2 : Below w1.heap.size w1 w2 := ⟨hgrow.os, hgrow.tape, hgrow.output, hgrow.size, fun k hk => hgrow.block k hk (by simp)⟩
    have HP2 : Hid (0 < (ints zs).length → some (⟨w1.heap.size, 0, none⟩ : Addr) = some ⟨w1.heap.size, 0, none⟩ ∧ ∃ ad, some x0 = some ad ∧ ∀ j v, (ints zs)[j]? = some v → w2.cell? (ad.add j) = some v) := fun h =>
      ⟨rfl, x0, rfl, fun j v hv => (hb2.cell (by rw [block_add]; exact hb0 (by rw [ints_length, HZ.out] at h; exact h))).trans (HC0.out j v hv)⟩
    have HR2 : Hid (Row w2 w1.heap.size 27 (ints (List.replicate n 0))) := hr2
    clear hown hgrow hr2
    go_wp2_with (refine wpList_copy_splice rfl (.tmp 47) (.tmp 48) 22 22 rfl 27 Try.underlying22 size27 _ _ _ _ _ _ rfl rfl w1.heap.size 0 (ints (List.replicate n 0)) 27 HR2.out (ints zs) ?d1 HP2.out ?d2 (ints_one zs) w1.heap.size w1 hb2 (Nat.le_refl _) ?_)
    case d1 => rw [ints_length, HZ.out]
    case d2 => rw [ints_length, ints_length, HZ.out]; simp
    intro w3 HR3 hb3
    have R3 : Hid (Row w3 w1.heap.size 27 (ints zs)) := by have := HR3.out; rw [splice_all n zs HZ.out] at this; exact this
    have HB3 : Hid (Below w1.heap.size w1 w3) := hb3
    clear HR3 hb3 HR2 HP2 hb2
    rw [ints_length, HZ.out]
    go_wp2_with (at_make; refine wpList_make_full _ rfl _ _ 22 rfl w3.heap.size 27 i0 _ 1 Try.underlying22 hi hz0 hz1 _ _ _ _ n rfl rfl rfl rfl ?f2 ?f3 ?f4 ?_)
    case f2 => rw [hz2]; omega
    case f3 => unfold maxLen; omega
    case f4 => exact Nat.le_refl _
    intro w4 hown hgrow
    have hr4 := owns_row hown
    rw [made1] at hr4
    have hb4 : Below w3.heap.size w3 w4 := ⟨hgrow.os, hgrow.tape, hgrow.output, hgrow.size, fun k hk => hgrow.block k hk (by simp)⟩
    have HP4 : Hid (0 < (ints ys).length → some (⟨w3.heap.size, 0, none⟩ : Addr) = some ⟨w3.heap.size, 0, none⟩ ∧ ∃ ad, some x1 = some ad ∧ ∀ j v, (ints ys)[j]? = some v → w4.cell? (ad.add j) = some v) := fun h =>
      ⟨rfl, x1, rfl, fun j v hv => by
        have hlt := hb1 (by rw [ints_length, HY.out] at h; exact h)
        have hsz := HB3.out.size
        exact (hb4.cell (by rw [block_add]; omega)).trans ((HB3.out.cell (by rw [block_add]; exact hlt)).trans (HC1.out j v hv))⟩
    have HR4 : Hid (Row w4 w3.heap.size 27 (ints (List.replicate n 0))) := hr4
    clear hown hgrow hr4
    go_wp2_with (refine wpList_copy_splice rfl (.tmp 56) (.tmp 57) 22 22 rfl 27 Try.underlying22 size27 _ _ _ _ _ _ rfl rfl w3.heap.size 0 (ints (List.replicate n 0)) 27 HR4.out (ints ys) ?h1 HP4.out ?h2 (ints_one ys) w3.heap.size w3 hb4 (Nat.le_refl _) ?_)
    case h1 => rw [ints_length, HY.out]
    case h2 => rw [ints_length, ints_length, HY.out]; simp
    intro w5 HR5 hb5
    have R5 : Row w5 w3.heap.size 27 (ints ys) := by have := HR5.out; rw [splice_all n ys HY.out] at this; exact this
    have R5' : Row w5 w1.heap.size 27 (ints zs) := (hb5.block w1.heap.size R3.out.lt).trans R3.out
    have hB5 : Below w1.heap.size w1 w5 := HB3.out.trans (hb5.mono HB3.out.size)
    have hne : w1.heap.size < w3.heap.size := R3.out.lt
    have hlt3 : w3.heap.size < w5.heap.size := R5.lt
    clear HR5 hb5 HR4 HP4 hb4 R3 HB3 HC0 HC1 hb0 hb1 hi hz0 hz1 hz2
    rw [ints_length, HY.out]
    generalize hg0 : w1.heap.size = g0 at R5' hne ⊢
    generalize hg1 : w3.heap.size = g1 at R5 hne hlt3 ⊢
    have HG0 : Hid (w1.heap.size = g0) := hg0
    have HN : Hid (g0 < g1 ∧ g1 < w5.heap.size) := ⟨hne, hlt3⟩
    clear hg0 hg1 hne hlt3
    go_wp2_with fail
    refine (newRuns_some g0 g1 n zs ys w5 (by omega) HZ.out HY.out R5' R5).mono ?_
    rintro e w6 ⟨rfl, RH, k6⟩
    have R0 := k6.row R5' (fun h => h)
    have R1 := k6.row R5 (fun h => h)
    have hB6 : Hid (Below w1.heap.size w1 w6) := hB5.trans (Below.mono (k6.below (fun _ h => h.elim)) hB5.size)
    clear k6 R5 R5' hB5
    generalize hgh : w5.heap.size = gh at RH HN ⊢
    obtain ⟨hn0, hn1⟩ := HN.out
    have HGH : Hid (g0 ≠ gh ∧ g1 ≠ gh ∧ w1.heap.size ≤ gh ∧ g0 ≠ g1) := ⟨by omega, by omega, by have := HG0.out; omega, by omega⟩
    clear hgh HN hn0 hn1
    go_wp2_with fail
    have HL : Hid ((zs.zip ys).length = n) := show _ = _ by have h1 := HZ.out; have h2 := HY.out; simp; omega
    have S6 : St w1 w6 g0 g1 gh zs ys (zs.zip ys) := ⟨R0, R1, RH, hB6.out⟩
    clear R0 R1 RH hB6
    go_loopw [9] (fun i wr => ∃ (k : Nat) (hs : List (Int × Int)), k ≤ n ∧ i = .int .i64 k ∧ Hid (SelOk (zs.zip ys) hs k ∧ hs.length = n) ∧ St w1 wr g0 g1 gh zs ys hs) (fun i _ => n - (intOf i).toNat)
    case atStart => exact ⟨0, _, Nat.zero_le _, rfl, ⟨sel_start _, HL.out⟩, S6⟩
    case round =>
      obtain ⟨k, hs, hk, rfl, HS, T⟩ := hrel
      clear S6
      by_cases hlt : k < n
      · obtain ⟨⟨a1, a2⟩, ha⟩ : ∃ p, hs[k]? = some p := ⟨_, List.getElem?_eq_getElem (by have := HS.out.2; omega)⟩
        have HA : Hid (hs[k]? = some (a1, a2)) := ha
        clear ha
        go_wp2_with fail
        refine (freeRun_any gh n k hs a1 a2 _ (by omega) hlt T.h HA.out).mono ?_
        rintro e w7 ⟨rfl, k7⟩
        have T7 := T.keep k7
        clear k7 T
        go_wp2_with fail
        go_loopw [10, 11, 12, 13] (fun m mf mc j wr => ∃ (mm jj : Nat) (p1 p2 : Int), k ≤ mm ∧ mm < jj ∧ jj ≤ n ∧ m = .int .i64 mm ∧ mf = .int .u64 p1 ∧ mc = .int .u64 p2 ∧ j = .int .i64 jj ∧ Hid (hs[mm]? = some (p1, p2) ∧ MinTo hs k jj (p1, p2)) ∧ St w1 wr g0 g1 gh zs ys hs) (fun _ _ _ j _ => n - (intOf j).toNat)
        case atStart => exact ⟨k, k + 1, a1, a2, Nat.le_refl _, by omega, by omega, rfl, rfl, rfl, by go_num, ⟨HA.out, minTo_start hs k _ HA.out⟩, T7⟩
        case round =>
          obtain ⟨mm, jj, p1, p2, hm1, hm2, hj, rfl, rfl, rfl, rfl, HM, T8⟩ := hrel
          clear T7
          by_cases hlj : jj < n
          · obtain ⟨⟨q1, q2⟩, hq⟩ : ∃ p, hs[jj]? = some p := ⟨_, List.getElem?_eq_getElem (by have := HS.out.2; omega)⟩
            have HQ : Hid (hs[jj]? = some (q1, q2)) := hq
            clear hq
            cases hl : lessB q1 q2 p1 p2 with
            | true =>
              go_wp2_with fail
              refine (freeRun_any gh n jj hs q1 q2 _ (by omega) hlj T8.h HQ.out).mono ?_
              rintro e w9 ⟨rfl, k9⟩
              have T9 := T8.keep k9
              clear k9 T8
              go_wp2_with fail
              refine (runLess_any q1 q2 p1 p2 _).mono ?_
              rintro e w10 ⟨rfl, h10⟩
              subst h10
              go_wp2
              go_roundw
              case rel => exact ⟨jj, jj + 1, q1, q2, by omega, by omega, by omega, rfl, rfl, rfl, by go_num, ⟨HQ.out, minTo_turn HM.out.2 HQ.out hl⟩, T9⟩
              case measure => simp [intOf]; omega
            | false =>
              go_wp2_with fail
              refine (freeRun_any gh n jj hs q1 q2 _ (by omega) hlj T8.h HQ.out).mono ?_
              rintro e w9 ⟨rfl, k9⟩
              have T9 := T8.keep k9
              clear k9 T8
              go_wp2_with fail
              refine (runLess_any q1 q2 p1 p2 _).mono ?_
              rintro e w10 ⟨rfl, h10⟩
              subst h10
              go_wp2
              go_roundw
              case rel => exact ⟨mm, jj + 1, p1, p2, by omega, by omega, by omega, rfl, rfl, rfl, by go_num, ⟨HM.out.1, minTo_keep HM.out.2 HQ.out hl⟩, T9⟩
              case measure => simp [intOf]; omega
          · go_wp2_with fail
            refine (swap_any gh n k mm hs (a1, a2) (p1, p2) _ (by omega) hlt (by omega) T8.h HA.out HM.out.1).mono ?_
            rintro e w9 ⟨rfl, RH9, k9⟩
            have T9 := T8.swap k9 RH9 HGH.out
            have HS' : Hid (SelOk (zs.zip ys) (swp hs k mm (a1, a2) (p1, p2)) (k + 1) ∧ (swp hs k mm (a1, a2) (p1, p2)).length = n) :=
              ⟨sel_step HS.out.1 hm1 HA.out HM.out.1 (fun x r hx hr => HM.out.2 x r hx (by have h1 := (List.getElem?_eq_some_iff.1 hr).1; have h2 := HS.out.2; omega) hr), by rw [swp_length]; exact HS.out.2⟩
            clear k9 T8 RH9
            go_wp2
            go_roundw
            case rel => exact ⟨k + 1, _, by omega, by go_num, HS', T9⟩
            case measure => simp [intOf]; omega
      · obtain rfl : n = k := by omega
        obtain ⟨i1, hi, hz0, hz1, hz2⟩ := info_parts info27
        go_wp2_with (at_make; refine wpList_make_full _ rfl _ _ 22 rfl wr.heap.size 27 i1 _ 1 Try.underlying22 hi hz0 hz1 _ _ _ _ n rfl rfl rfl rfl ?m2 ?m3 ?m4 ?_)
        case m2 => rw [hz2]; omega
        case m3 => unfold maxLen; omega
        case m4 => exact Nat.le_refl _
        intro wa hown hgrow
        have ra := owns_row hown
        rw [made1] at ra
        have ka : Keeps (fun _ => False) wr wa := (Keeps.refl _ wr).grown hgrow
        have Ta := T.keep ka
        have l0 := T.f.lt
        have l1 := T.c.lt
        have lh := T.h.lt
        have lb := T.b.size
        have HLs : Hid (g0 < wr.heap.size ∧ g1 < wr.heap.size ∧ gh < wr.heap.size ∧ w1.heap.size ≤ wr.heap.size) := ⟨l0, l1, lh, lb⟩
        have RA : Hid (Row wa wr.heap.size 27 (ints (List.replicate n 0))) := ra
        clear hown hgrow ra ka T l0 l1 lh lb
        go_wp2_with (at_make; refine wpList_make_full _ rfl _ _ 22 rfl wa.heap.size 27 i1 _ 1 Try.underlying22 hi hz0 hz1 _ _ _ _ n rfl rfl rfl rfl ?o2 ?o3 ?o4 ?_)
        case o2 => rw [hz2]; omega
        case o3 => unfold maxLen; omega
        case o4 => exact Nat.le_refl _
        intro wb hown hgrow
        have rb := owns_row hown
        rw [made1] at rb
        have kb : Keeps (fun _ => False) wa wb := (Keeps.refl _ wa).grown hgrow
        have Tb := Ta.keep kb
        have rab := kb.row RA.out (fun h => h)
        have hla := RA.out.lt
        have NW : New w1 g0 g1 gh wr.heap.size wa.heap.size := by
          obtain ⟨m0, m1, m2, m3⟩ := HLs.out
          exact ⟨by omega, by omega, by omega, by omega, by omega, by omega, by omega, by omega, by omega⟩
        generalize wr.heap.size = gf at NW rab ⊢
        generalize wa.heap.size = gc at NW rb ⊢
        have TW : St2 w1 wb g0 g1 gh gf gc zs ys hs (List.replicate n (0, 0)) := ⟨Tb, by simpa using rab, by simpa using rb⟩
        clear hown hgrow rb kb Tb rab hla RA HLs Ta hi hz0 hz1 hz2
        go_wp2_with fail
        go_loopw [18] (fun i wr => ∃ (k : Nat) (W : List (Int × Int)), k ≤ n ∧ i = .int .i64 k ∧ Hid (InsOk (zs.zip ys) W k ∧ W.length = n) ∧ St2 w1 wr g0 g1 gh gf gc zs ys hs W) (fun i _ => n - (intOf i).toNat)
        case atStart => exact ⟨0, _, Nat.zero_le _, rfl, ⟨ins_start _ _, by simp⟩, TW⟩
        case round =>
          obtain ⟨k, W, hk2, rfl, HW, U⟩ := hrel
          clear TW
          by_cases hlk : k < n
          · obtain ⟨z, hzk⟩ : ∃ z, zs[k]? = some z := ⟨_, List.getElem?_eq_getElem (by have := HZ.out; omega)⟩
            obtain ⟨y, hyk⟩ : ∃ y, ys[k]? = some y := ⟨_, List.getElem?_eq_getElem (by have := HY.out; omega)⟩
            have HP : Hid ((zs.zip ys)[k]? = some (z, y)) := by show _ = _; rw [List.getElem?_zip_eq_some]; exact ⟨hzk, hyk⟩
            have q0 := (U.st.f.cell k).trans (ints_get zs k z hzk)
            have q1 := (U.st.c.cell k).trans (ints_get ys k y hyk)
            obtain ⟨v, hv⟩ : ∃ v, W[k]? = some v := ⟨_, List.getElem?_eq_getElem (by have := HW.out.2; omega)⟩
            have HV : Hid (wj W k k v = W) := wj_start W k v hv
            clear hzk hyk hv
            go_wp2_with fail
            clear q0 q1
            rw [← HV.out] at U
            clear HV
            go_loopw [21] (fun j wr => ∃ (jj : Nat) (v : Int × Int), jj ≤ k ∧ j = .int .i64 jj ∧ Hid (∀ x q, jj ≤ x → x < k → W[x]? = some q → less (z, y) q = true) ∧ St2 w1 wr g0 g1 gh gf gc zs ys hs (wj W k jj v)) (fun j _ => (intOf j).toNat)
            case atStart => exact ⟨k, v, Nat.le_refl _, rfl, fun x q h1 h2 => absurd h1 (by omega), U⟩
            case round =>
              obtain ⟨jj, v, hjk, rfl, HU, U2⟩ := hrel
              clear U
              have hWl := HW.out.2
              have HWL : Hid (W.length = n) := hWl
              obtain ⟨ca, cb⟩ := ints_at _ jj v (wj_at W k jj v hjk (by omega))
              have d0 := (U2.wf.cell jj).trans ca
              have d1 := (U2.wc.cell jj).trans cb
              have f0 := U2.wf.frozen
              have f1 := U2.wc.frozen
              have hfc := NW.fc
              have hjn : (jj : Int) < (n : Int) := by omega
              clear hWl ca cb
              by_cases h0 : 0 < jj
              · obtain ⟨⟨u1, u2⟩, hu⟩ : ∃ u, W[jj - 1]? = some u := ⟨_, List.getElem?_eq_getElem (by have := HWL.out; omega)⟩
                obtain ⟨ca, cb⟩ := ints_at _ (jj - 1) (u1, u2) ((wj_lt W k jj (jj - 1) v hjk (by have := HWL.out; omega) (by omega)).trans hu)
                have e0 := (U2.wf.cell (jj - 1)).trans ca
                have e1 := (U2.wc.cell (jj - 1)).trans cb
                have HUU : Hid (W[jj - 1]? = some (u1, u2)) := hu
                have et : ((jj : Int) - 1).toNat = jj - 1 := by omega
                have g0' : (0 : Int) ≤ (jj : Int) - 1 := by omega
                have g1' : (jj : Int) - 1 < (n : Int) := by omega
                have h0' : (0 : Int) < (jj : Int) := by omega
                clear hu ca cb
                cases hl : lessB z y u1 u2 with
                | true =>
                  go_wp2_with fail
                  go_quiet ((go_at_call 10; exact Calls.quiet_of_same (runLess_any _ _ _ _ _)))
                  go_wp2
                  go_roundw
                  case rel =>
                    refine ⟨jj - 1, (u1, u2), by omega, by rw [show ((jj - 1 : Nat) : Int) = (jj : Int) - 1 from by omega], fun x q h1 h2 hq => ?_, ?_⟩
                    · by_cases hx : x = jj - 1
                      · rw [hx, HUU.out] at hq
                        simp only [Option.some.injEq] at hq
                        rw [← hq]; exact hl
                      · exact HU.out x q (by omega) h2 hq
                    · rw [← wj_step W k jj (u1, u2) h0 hjk (by have := HWL.out; omega) HUU.out, ← wj_set W k jj (u1, u2) v hjk (by have := HWL.out; omega)]
                      exact (U2.drewN nq).store NW jj (u1, u2)
                  case measure => simp [intOf]; omega
                | false =>
                  go_wp2_with fail
                  go_quiet ((go_at_call 10; exact Calls.quiet_of_same (runLess_any _ _ _ _ _)))
                  go_wp2
                  go_roundw
                  case rel =>
                    refine ⟨k + 1, wj W k jj (z, y), by omega, by go_num, ⟨ins_step HW.out.1 HP.out hjk (by have := HWL.out; omega) HU.out (.inr ⟨(u1, u2), HUU.out, hl⟩), by rw [wj_length W k jj _ hjk (by have := HWL.out; omega)]; exact HWL.out⟩, ?_⟩
                    rw [← wj_set W k jj (z, y) v hjk (by have := HWL.out; omega)]
                    exact (U2.drewN nq).store NW jj (z, y)
                  case measure => simp [intOf]; omega
              · have hg : decide ((0 : Int) < (jj : Int)) = false := by simp; omega
                go_wp2_with fail
                go_quiet (fail)
                go_wp2
                go_roundw
                case rel =>
                  refine ⟨k + 1, wj W k jj (z, y), by omega, by go_num, ⟨ins_step HW.out.1 HP.out hjk (by have := HWL.out; omega) HU.out (.inl (by omega)), by rw [wj_length W k jj _ hjk (by have := HWL.out; omega)]; exact HWL.out⟩, ?_⟩
                  rw [← wj_set W k jj (z, y) v hjk (by have := HWL.out; omega)]
                  exact (U2.drewN nq).store NW jj (z, y)
                case measure => simp [intOf]; omega
          · obtain rfl : n = k := by omega
            have HE : Hid (hs = W) := sorts_agree HS.out.1 HW.out.1 HS.out.2 HW.out.2 HL.out
            go_wp2_with fail
            go_loopw [22] (fun i wr => ∃ x : Nat, x ≤ n ∧ i = .int .i64 x ∧ St2 w1 wr g0 g1 gh gf gc zs ys hs W) (fun i _ => n - (intOf i).toNat)
            case atStart => exact ⟨0, Nat.zero_le _, rfl, U⟩
            case round =>
              obtain ⟨x, hx, rfl, U5⟩ := hrel
              clear U
              by_cases hlx : x < n
              · obtain ⟨⟨r1, r2⟩, hr⟩ : ∃ p, hs[x]? = some p := ⟨_, List.getElem?_eq_getElem (by have := HS.out.2; omega)⟩
                have HR : Hid (hs[x]? = some (r1, r2)) := hr
                have HRW : Hid (W[x]? = some (r1, r2)) := by rw [← HE.out]; exact hr
                clear hr
                go_wp2_with fail
                refine (freeRun_any gh n x hs r1 r2 _ (by omega) hlx U5.st.h HR.out).mono ?_
                rintro e w9 ⟨rfl, k9⟩
                have U6 := U5.keep k9
                obtain ⟨ca, cb⟩ := ints_at _ x (r1, r2) HRW.out
                have d0 := (U6.wf.cell x).trans ca
                have d1 := (U6.wc.cell x).trans cb
                clear k9 U5 ca cb
                go_wp2
                go_roundw
                case rel => exact ⟨x + 1, by omega, by go_num, U6⟩
                case measure => simp [intOf]; omega
              · go_wp2
                go_ret
                exact ⟨rfl, U5.st.b⟩

set_option maxRecDepth 100000 in
set_option maxHeartbeats 1000000 in
theorem sel_early (a0 a1 : Option Addr) (m r c0 c1 : Nat) (w : World) (hm : m ≤ 9223372036854775807) (hr : r ≤ 9223372036854775807) (h : 1024 < m ∨ 1024 < r ∨ m ≠ r) :
    Calls Try.prog 3 #[.slice a0 m c0, .slice a1 r c1] w fun e w' => e = .returned (.bool true) ∧ Below w.heap.size w w' := by
  by_cases h1 : m ≤ 1024
  · have d1 : decide ((1024 : Int) < (m : Int)) = false := by simp; omega
    by_cases h2 : r ≤ 1024
    · have d2 : decide ((1024 : Int) < (r : Int)) = false := by simp; omega
      have d3 : ((m : Int) != (r : Int)) = true := by simp; omega
      clear h
      go_enter Try.func3, Try.ntmps3
      go_wp2_with fail
      refine (bytes7 a0 a1 m r c0 c1 w hm hr).mono ?_
      rintro e w1 ⟨b, rfl, h1⟩
      subst h1
      cases b with
      | false => go_wp2; go_ret; exact ⟨rfl, Below.refl _ _⟩
      | true => go_wp2; go_ret; exact ⟨rfl, Below.refl _ _⟩
    · have d2 : decide ((1024 : Int) < (r : Int)) = true := by simp; omega
      clear h
      go_enter Try.func3, Try.ntmps3
      go_wp2_with fail
      refine (bytes7 a0 a1 m r c0 c1 w hm hr).mono ?_
      rintro e w1 ⟨b, rfl, h1⟩
      subst h1
      cases b with
      | false => go_wp2; go_ret; exact ⟨rfl, Below.refl _ _⟩
      | true => go_wp2; go_ret; exact ⟨rfl, Below.refl _ _⟩
  · have d1 : decide ((1024 : Int) < (m : Int)) = true := by simp; omega
    clear h
    go_enter Try.func3, Try.ntmps3
    go_wp2_with fail
    refine (bytes7 a0 a1 m r c0 c1 w hm hr).mono ?_
    rintro e w1 ⟨b, rfl, h1⟩
    subst h1
    cases b with
    | false => go_wp2; go_ret; exact ⟨rfl, Below.refl _ _⟩
    | true => go_wp2; go_ret; exact ⟨rfl, Below.refl _ _⟩

end Go.Proofs.Qxb6612374a
