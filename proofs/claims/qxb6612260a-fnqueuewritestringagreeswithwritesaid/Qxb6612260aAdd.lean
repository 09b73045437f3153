/-
  The contract of (*Queue).add at an own line, under the bound.
-/
import Derived.Test.Qxb6612260aState
import Derived.Test.Qxb6612260aLocks
import Derived.Conc.MuLone
import Derived.Defers
namespace Go.Proofs.Qxb6612260a
open Go.Conc Go.RowKit Go.MuLone

theorem info55 : (Try.prog.info? 55).map (fun i => (i.zero, i.size, i.bytes)) = some (some (.agg #[.string ⟨#[]⟩, .int .i64 0, .int .i64 0]), 3, 32) := by kernel_rfl

/-- What 'add' may turn: the queue's block, its channel, its row. -/
def May (q c : Nat) (held : Value) (k : Nat) : Prop := k = q ∨ k = c ∨ held.ownBlock = some k

/-- signal behind k of them. -/
theorem signal_any (k q c : Nat) (w : World) (hq : w.cell? ⟨q, 1, none⟩ = some (.chan (some c))) (hc : w.heap[c]? = some (.chan 1 (toks k) false (sent k) 0 false)) :
    Calls Try.prog 21 #[.pointer (some ⟨q, 0, none⟩)] w fun e w' => e = .returned (.tuple #[]) ∧ w'.heap[c]? = some (.chan 1 (toks (k + 1)) false (sent (k + 1)) 0 false) ∧ Keeps (fun j => j = c) w w' := by
  have hlt := lt_of_heap hc
  by_cases hk : k = 0
  · subst hk
    refine (signal_room q 0 c 0 0 w (by simpa using hq) (by simpa [toks, sent] using hc)).mono ?_
    rintro e w' ⟨rfl, rfl⟩
    refine ⟨rfl, ?_, (Keeps.refl (fun j => j = c) w).setChan (c := c) rfl _ _ _ _ _ _⟩
    have := heap_setChan w c 1 #[.agg #[]] false 1 0 false hlt
    simpa [toks, sent] using this
  · have e1 : toks k = #[.agg #[]] := by simp [toks, hk]
    have e2 : sent k = 1 := by simp [sent, hk]
    rw [e1, e2] at hc
    refine (signal_full q 0 c 1 0 w (by simpa using hq) hc).mono ?_
    rintro e w' ⟨rfl, rfl⟩
    exact ⟨rfl, by simpa [toks, sent] using hc, Keeps.refl _ _⟩

section
variable {base q c d : Nat} {held : Value} {ls : List ByteArray} {w : World}

theorem Holds.not_row {m : Int} (H : Holds w base q c d m held ls) {k : Nat} (hk : k < base) : some k ≠ held.ownBlock := fun e => by
  have := (H.row.lt k e.symm).1
  omega

/-- Behind the append: the queue's block and channel stand; nothing else has turned. -/
theorem after_append {w1 : World} {o : Obj} (H : Holds w base q c d 0 held ls) (hqb : q < base) (hcb : c < base) (hcq : c ≠ q)
    (hg : ((w.setCell ⟨q, 3, none⟩ (.int .i32 1)).alloc o).grownBy w1 held.ownBlock) :
    w1.heap[q]? = some (qobjL 1 c d held (total ls)) ∧ w1.heap[c]? = some (.chan 1 (toks ls.length) false (sent ls.length) 0 false) ∧ Keeps (May q c held) w w1 := by
  have k1 : Keeps (May q c held) w (w.setCell ⟨q, 3, none⟩ (.int .i32 1)) := (Keeps.refl _ w).setCell (.inl rfl) _
  have hq := q_set3 H.obj 1
  have hc := H.ch
  have hc1 : (w.setCell ⟨q, 3, none⟩ (.int .i32 1)).heap[c]? = some (.chan 1 (toks ls.length) false (sent ls.length) 0 false) := (heap_setCell_other w ⟨q, 3, none⟩ c _ hcq).trans hc
  refine ⟨?_, ?_, (k1.alloc o).grown hg fun k h => .inr (.inr h)⟩
  · rw [hg.block q (by have := lt_of_heap H.obj; simp; omega) (H.not_row hqb), Below.heap_alloc _ _ _ (lt_of_heap hq)]
    exact hq
  · rw [hg.block c (by have := lt_of_heap H.ch; simp; omega) (H.not_row hcb), Below.heap_alloc _ _ _ (lt_of_heap hc1)]
    exact hc1

theorem ent_new (w : World) (s : ByteArray) (n : Nat) (hn : n = w.heap.size) : ∀ j u, (ent s)[j]? = some u → (w.alloc (.cells #[.string s, .int .i64 0, .int .i64 0] 55)).cell? ((⟨n, 0, none⟩ : Addr).add j) = some u := by
  subst hn
  intro j u hj
  match j, hj with
  | 0, hj => simp [ent] at hj; subst hj; simp [Addr.add]
  | 1, hj => simp [ent] at hj; subst hj; simp [Addr.add]
  | 2, hj => simp [ent] at hj; subst hj; simp [Addr.add]

/-- Behind signal and the unlocking: the line is held. -/
theorem after_all {w1 w3 : World} {v' : Value} {s : ByteArray} (hq1 : w1.heap[q]? = some (qobjL 1 c d held (total ls)))
    (hqb : q < base) (hcb : c < base) (hcq : c ≠ q) (hown : w1.ownsRow base 55 3 v' (ls.length + 1) (ents ls ++ ent s))
    (k1 : Keeps (May q c held) w w1) (hc3 : w3.heap[c]? = some (.chan 1 (toks (ls.length + 1)) false (sent (ls.length + 1)) 0 false))
    (k3 : Keeps (fun j => j = c) ((w1.setCell ⟨q, 5, none⟩ v').setCell ⟨q, 6, none⟩ (.int .i64 ((total ls : Nat) + (s.size : Nat)))) w3) :
    Holds (w3.setCell ⟨q, 3, none⟩ (.int .i32 0)) base q c d 0 v' (ls ++ [s]) ∧ Keeps (May q c held) w (w3.setCell ⟨q, 3, none⟩ (.int .i32 0)) := by
  have e2 : Keeps (fun j => j = q ∨ j = c) w1 ((w1.setCell ⟨q, 5, none⟩ v').setCell ⟨q, 6, none⟩ (.int .i64 ((total ls : Nat) + (s.size : Nat)))) := ((Keeps.refl _ w1).setCell (.inl rfl) _).setCell (.inl rfl) _
  have e3 := e2.trans (k3.mono fun i h => .inr h)
  have e4 : Keeps (fun j => j = q ∨ j = c) w1 (w3.setCell ⟨q, 3, none⟩ (.int .i32 0)) := e3.setCell (.inl rfl) _
  have hq2 := q_set6 (q_set5 hq1 v') ((total ls : Nat) + (s.size : Nat))
  have hq3 := k3.at hq2 (fun h => hcq h.symm)
  have hq4 := q_set3 hq3 0
  refine ⟨⟨?_, ?_, ?_⟩, k1.trans (e4.mono fun i h => ?_)⟩
  · rw [hq4, total_snoc, Int.natCast_add]
  · rw [ents_snoc, List.length_append]
    refine e4.owns hown fun k hk h => ?_
    have := (hown.lt k hk).1
    omega
  · rw [List.length_append, heap_setCell_other w3 ⟨q, 3, none⟩ c _ hcq]
    exact hc3
  · rcases h with h | h
    · exact .inl h
    · exact .inr (.inl h)
end

set_option maxRecDepth 100000 in
theorem add_line (s : ByteArray) (base q c d : Nat) (held : Value) (ls : List ByteArray) (w : World) (H : Holds w base q c d 0 held ls)
    (hs : s.toList.isEmpty = false) (ht : total ls < 1048576) (hs2 : s.size ≤ 1048576) (hl : ls.length ≤ 1048576) (hqb : q < base) (hcb : c < base) (hcq : c ≠ q) (hbase : base ≤ w.heap.size) :
    Calls Try.prog 18 #[.pointer (some ⟨q, 0, none⟩), .string s, .bool false] w fun e w' => e = .returned (.tuple #[]) ∧ ∃ held', Holds w' base q c d 0 held' (ls ++ [s]) ∧
      (held'.ownBlock = held.ownBlock ∨ ∃ g, held'.ownBlock = some g ∧ w.heap.size ≤ g) ∧ Keeps (May q c held) w w' := by
  have h3 := q3 H.obj
  have f3 := qf H.obj 3
  have c5 := q5 H.obj
  have c6 := q6 H.obj
  have c7 := q7 H.obj
  obtain ⟨i0, hi, hz0, hz1, hz2⟩ := info_parts info55
  have hd : decide ((1048576 : Int) ≤ ((total ls : Nat) : Int)) = false := by simp; omega
  have hown0 : ∀ o : Obj, ((w.setCell ⟨q, 3, none⟩ (.int .i32 1)).alloc o).ownsRow base 55 3 held ls.length (ents ls) := fun o =>
    ((Keeps.refl (fun j => j = q) w).setCell (p := ⟨q, 3, none⟩) rfl (.int .i32 1)).alloc o |>.owns H.row fun k hk h => by have := (H.row.lt k hk).1; omega
  go_enter_defers Try.func18, Try.ntmps18
  go_wp2_with fail
  refine (lock_free muLib ⟨q, 3, none⟩ _ h3 f3).mono ?_
  rintro e w' ⟨rfl, rfl⟩
  go_wp2_with (at_builtin; refine wpList_append_own_at _ rfl _ _ 49 rfl base 55 i0 _ 3 32 Try.underlying49 hi hz0 hz1 hz2 rfl (by decide) held ls.length (ents ls) rfl (hown0 _) ⟨w.heap.size, 0, none⟩ 1 1 (ent s) rfl rfl ?c1 ?c2 ?c3 ?c4 ?c5 ?_)
  case c1 => exact ent_new (w.setCell ⟨q, 3, none⟩ (.int .i32 1)) s _ (by simp)
  case c2 => intro u hu; simp [ent] at hu; rcases hu with rfl | rfl <;> rfl
  case c3 => unfold maxLen; omega
  case c4 => omega
  case c5 => simp; omega
  intro v' w1 hown' hgrow hnil hat
  obtain ⟨hq1, hc1, k1⟩ := after_append H hqb hcb hcq hgrow
  have d5 := q5 hq1
  have d6 := q6 hq1
  have g5 := qf hq1 5
  have g6 := qf hq1 6
  have hn : Hid (v'.ownBlock = held.ownBlock ∨ ∃ g, v'.ownBlock = some g ∧ w.heap.size ≤ g) := by
    rcases hat with h | h
    · exact .inl h
    · exact .inr ⟨_, h, by simp⟩
  have hex : ∃ g cap, v' = .slice (some ⟨g, 0, none⟩) (ls.length + 1) cap := by
    rcases hown'.2 with ⟨_, h⟩ | ⟨g, cap, _, h, _⟩
    · omega
    · exact ⟨g, cap, h⟩
  obtain ⟨g, cap, hv⟩ := hex
  rw [hv] at hown' hn ⊢
  clear hat hgrow hown0 c5 c6 c7 h3 f3 hnil hv
  have HQ : Hid (w1.heap[q]? = some (qobjL 1 c d held (total ls))) := hq1
  have HC : Hid (w1.heap[c]? = some (.chan 1 (toks ls.length) false (sent ls.length) 0 false)) := hc1
  clear hq1 hc1
  go_wp2_with fail
  have hq2 := q_set6 (q_set5 HQ.out (.slice (some ⟨g, 0, none⟩) (ls.length + 1) cap)) ((total ls : Nat) + (s.size : Nat))
  have hc2 : ((w1.setCell ⟨q, 5, none⟩ (.slice (some ⟨g, 0, none⟩) (ls.length + 1) cap)).setCell ⟨q, 6, none⟩ (.int .i64 ((total ls : Nat) + (s.size : Nat)))).heap[c]? = some (.chan 1 (toks ls.length) false (sent ls.length) 0 false) :=
    ((heap_setCell_other _ ⟨q, 6, none⟩ c _ hcq).trans (heap_setCell_other w1 ⟨q, 5, none⟩ c _ hcq)).trans HC.out
  refine (signal_any ls.length q c _ (q1 hq2) hc2).mono ?_
  rintro e w3 ⟨rfl, hc3, k3⟩
  have hq3 := k3.at hq2 (fun h => hcq h.symm)
  have e3 := q3 hq3
  have f3 := qf hq3 3
  have fin := after_all HQ.out hqb hcb hcq hown' k1 hc3 k3
  clear hc2 hq2 hc3 k3 hq3 d5 d6 g5 g6
  go_wp2
  refine leaves_cons (f := 23) (args := #[.pointer (some ⟨q, 3, none⟩)]) (by simp) (by simp [go_sem]) ?_
  refine (unlock_deferred muLib ⟨q, 3, none⟩ .returning _ e3 f3).mono ?_
  rintro e u' w'' ⟨rfl, rfl, rfl⟩
  exact ⟨_, results_none rfl _ _ _, rfl, _, fin.1, hn.out, fin.2⟩

/-- An empty line: nothing is done. -/
theorem add_empty (s : ByteArray) (q : Nat) (w : World) (hs : s.toList.isEmpty = true) :
    Calls Try.prog 18 #[.pointer (some ⟨q, 0, none⟩), .string s, .bool false] w fun e w' => e = .returned (.tuple #[]) ∧ w' = w := by
  go_enter Try.func18, Try.ntmps18
  go_wp2
  exact bodyPost_ret (results_none rfl _ _ _) rfl ⟨rfl, rfl⟩
end Go.Proofs.Qxb6612260a
