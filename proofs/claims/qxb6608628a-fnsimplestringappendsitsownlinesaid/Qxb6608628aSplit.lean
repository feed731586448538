import Derived.Test.Qxb6608628aAfter
namespace Go.Proofs.Qxb6608628a
open Go.RowKit

theorem IsRow.below {k : IntKind} {w w' : World} {a : Option Addr} {n c : Nat} {zs : List Int} (h : IsRow k w a n c zs) (hb : Below w.heap.size w w') : IsRow k w' a n c zs := by
  rcases h with h | ⟨x, rfl, h1, h2, h3, hc, hwf⟩
  · exact .inl h
  · exact .inr ⟨x, rfl, h1, h2, h3, fun i hi => (hb.cell (World.block_lt_of_cell? w _ (hc i hi))).trans (hc i hi), hwf⟩

theorem IsRow.le {k : IntKind} {w : World} {a : Option Addr} {n c : Nat} {zs : List Int} (h : IsRow k w a n c zs) : n ≤ zs.length ∧ n ≤ maxLen := by
  rcases h with ⟨_, rfl, _, rfl⟩ | ⟨x, rfl, h1, h2, h3, hc, hwf⟩
  · exact ⟨Nat.le_refl _, Nat.zero_le _⟩
  · exact ⟨by omega, Nat.le_trans h1 h2⟩

theorem row_own {w : World} {B : Nat} {ys : List Int} (h : Row w B (ic ys)) (hm : ys.length ≤ maxLen) : Own w B (.slice (some ⟨B, 0, none⟩) ys.length ys.length) ys :=
  ⟨by rw [ic_length, Nat.mul_one], .inr ⟨B, ys.length, (ic ys).toArray, rfl, Nat.le_refl _, h, Nat.le_refl _, hm, by simp [ic], by rw [Nat.mul_one, List.toList_toArray, List.take_of_length_le (by rw [ic_length]; exact Nat.le_refl _)]⟩⟩

/-- The clone of a slice that came in, as a slice of the call's own. -/
theorem clone_own (a : Option Addr) (n c : Nat) (zs : List Int) (w : World) (h : IsRow .u8 w a n c zs) (hn : n ≤ 1048576) :
    Calls Try.prog 6 #[.slice a n c] w fun e w' => ∃ a', e = .returned (.slice a' n n) ∧ Own w' w.heap.size (.slice a' n n) (zs.take n) ∧ Below w.heap.size w w' := by
  rcases h with ⟨rfl, rfl, rfl, rfl⟩ | ⟨x, rfl, hlc, hcm, hzl, hcell, hwf⟩
  · refine (clone_nil w).mono ?_
    rintro e w' ⟨rfl, rfl⟩
    exact ⟨none, rfl, World.ownsRow_nil _ _ _ _, Below.refl _ _⟩
  · by_cases h0 : n = 0
    · subst h0
      refine (clone_empty x c w).mono ?_
      rintro e w' ⟨rfl, hr, hb⟩
      exact ⟨_, rfl, row_own (ys := []) hr (Nat.zero_le _), hb⟩
    · obtain ⟨b, off, spot⟩ := x
      have hspot : spot = none := by simpa [Addr.add] using World.cell?_spot (hcell 0 (by omega))
      subst hspot
      have hc' : ∀ i, i < n → w.cell? ⟨b, off + i, none⟩ = some (.int .u8 (zs.getD i 0)) := fun i hi => by rw [← Lib.addr_add]; exact hcell i (by omega)
      have hl : (zs.take n).length = n := by rw [List.length_take]; omega
      refine (clone_some b off n c zs w hn (by omega) ?_ hc').mono ?_
      · exact World.block_lt_of_cell? w ⟨b, off + 0, none⟩ (hc' 0 (by omega))
      rintro e w' ⟨rfl, hr, hb⟩
      refine ⟨_, rfl, ?_, hb⟩
      have := row_own hr (by unfold maxLen; omega)
      rw [hl] at this
      exact this

/-- A Writer laid over a slice of the call's own. -/
theorem laid_writer {w : World} {B : Nat} {v : Value} {l : List Int} (sent : Int) (h : Own w B v l) : WrAt (w.alloc (.cells #[v, .int .i64 sent] 34)) w.heap.size v sent ∧ Own (w.alloc (.cells #[v, .int .i64 sent] 34)) B v l :=
  ⟨heap_alloc_new w _, World.ownsRow.alloc h _⟩

theorem WrAt.below {w w' : World} {b : Nat} {v : Value} {sent : Int} (h : WrAt w b v sent) (hb : Below w.heap.size w w') : WrAt w' b v sent := by
  unfold WrAt
  rw [hb.block b (Lib.lt_of_heap h)]
  exact h

/-! ### The lists -/
theorem extract_body (s : ByteArray) (i j : Nat) : body (s.extract i j) = ((body s).drop i).take (j - i) := by
  unfold body sz
  rw [Lib.extract_data, List.map_take, List.map_drop, List.map_take, List.map_drop]

theorem body_left (s : ByteArray) (k : Nat) : body (s.extract 0 k) = (body s).take k := by rw [extract_body]; simp
theorem body_right (s : ByteArray) (k : Nat) : body (s.extract k s.size) = (body s).drop k := by
  rw [extract_body, List.take_of_length_le]
  rw [List.length_drop, body_length]; exact Nat.le_refl _

/-- The bytes ahead of the cut, and those behind it. -/
def head (Y : List Int) (s : ByteArray) (k : Nat) : List Int := Y ++ 43 :: (body s).take k
def tail (s : ByteArray) (k : Nat) : List Int := (body s).drop k ++ [13, 10]
theorem head_length (Y : List Int) (s : ByteArray) (k : Nat) (h : k ≤ s.size) : (head Y s k).length = Y.length + 1 + k := by
  simp [head, body_length]; omega
theorem tail_length (s : ByteArray) (k : Nat) : (tail s k).length = s.size - k + 2 := by simp [tail, body_length]
theorem one_line (Y : List Int) (s : ByteArray) (k : Nat) : Y ++ lineOf s = head Y s k ++ tail s k := by
  unfold lineOf head tail
  rw [List.append_assoc, List.cons_append, ← List.append_assoc ((body s).take k), List.take_append_drop]
theorem two_lines (Y : List Int) (s : ByteArray) (k : Nat) : Y ++ lineOf (s.extract 0 k) ++ lineOf (s.extract k s.size) = head Y s k ++ ([13, 10, 43] ++ tail s k) := by
  unfold lineOf head tail
  rw [body_left, body_right]
  simp
end Go.Proofs.Qxb6608628a
