import Derived.Test.Qxb6608520aDoorGrow3
import Derived.Test.Qxb6608520aDoorGrow4
import Derived.Test.Qxb6608520aDoorGrow5
namespace Go.Proofs.Qxb6608520aDoor
open Go.RowKit

/-- A string's bytes, as numbers. -/
def sz (s : ByteArray) : List Int := s.data.toList.map fun c => (c.toNat : Int)
theorem sz_length (s : ByteArray) : (sz s).length = s.size := by unfold sz; rw [List.length_map]; exact (Lib.size_eq s).symm
theorem ic_sz (s : ByteArray) : ic (sz s) = Lib.byteCells s.data.toList := by simp [ic, sz, Lib.byteCells]
theorem ic_length (zs : List Int) : (ic zs).length = zs.length := by simp [ic]
theorem ic_append (xs ys : List Int) : ic (xs ++ ys) = ic xs ++ ic ys := by simp [ic]
theorem ic_one (zs : List Int) : ∀ v ∈ ic zs, v.oneCell' = true := by
  intro v hv
  simp only [ic, List.mem_map] at hv
  obtain ⟨b, _, rfl⟩ := hv
  rfl

/-- Block b is a bytes.Buffer that holds the bytes zs and has no spare room: it is nil and holds none, or lies over a row of just these bytes. -/
def BufAt (w : World) (b : Nat) (lr : Int) (zs : List Int) : Prop :=
  (w.heap[b]? = some (.cells #[.slice none 0 0, .int .i64 0, .int .i8 lr] 43 (0, 0)) ∧ zs = []) ∨
  ∃ g, g < b ∧ w.heap[b]? = some (.cells #[.slice (some ⟨g, 0, none⟩) zs.length zs.length, .int .i64 0, .int .i8 lr] 43 (0, 0)) ∧ Row w g (ic zs)

theorem grow_any (b n : Nat) (lr : Int) (zs : List Int) (w : World) (h : BufAt w b lr zs) (hn : 1 ≤ n) (hlim : zs.length + n ≤ 140737488355328) :
    Calls Tryd.prog 40 #[.pointer (some ⟨b, 0, none⟩), .int .i64 n] w fun e w' => e = .returned (.int .i64 zs.length) ∧ Grew w w' b zs.length n lr (ic zs) := by
  rcases h with ⟨hb, rfl⟩ | ⟨g, _, hb, hr⟩
  · rw [List.length_nil, Nat.zero_add] at hlim
    by_cases h64 : n ≤ 64
    · exact grow_nil_small b n lr w hb hn h64
    · exact grow_nil_big b n lr w hb (by omega) hlim
  · have htk : (ic zs).toArray.toList.take zs.length = ic zs := List.take_of_length_le (by simp [ic])
    have hs : (ic zs).toArray.size = zs.length := by simp [ic]
    by_cases h0 : zs.length = 0
    · have hz : zs = [] := List.eq_nil_of_length_eq_zero h0
      subst hz
      exact grow_row0 b g 0 n lr _ w hb hr (Nat.le_refl _) hs (by simp) hn (by omega) hlim
    · have key := grow_row b g zs.length zs.length n lr _ w hb hr (Nat.le_refl _) hs h0 (by rw [htk]; exact ic_one zs) hn (by omega) hlim
      rw [htk] at key
      exact key

/-- What a write leaves: block b is a buffer over a new row, which begins with the bytes zs; no other old block has turned. -/
def Wrote (w w' : World) (b : Nat) (zs : List Int) : Prop :=
  ∃ cap2 cells, w'.heap[b]? = some (.cells #[.slice (some ⟨w.heap.size, 0, none⟩) zs.length cap2, .int .i64 0, .int .i8 0] 43 (0, 0)) ∧ w'.heap[w.heap.size]? = some (.cells cells 5 (0, 0)) ∧
    cells.toList.take zs.length = ic zs ∧ zs.length ≤ cap2 ∧ cap2 ≤ maxLen ∧ w.grownBy w' (some b)

theorem BufAt.lt {w : World} {b : Nat} {lr : Int} {zs : List Int} (h : BufAt w b lr zs) : b < w.heap.size := by
  rcases h with ⟨hb, _⟩ | ⟨g, _, hb, _⟩ <;> exact Lib.lt_of_heap hb

theorem BufAt.setLast {w : World} {b : Nat} {lr : Int} {zs : List Int} (h : BufAt w b lr zs) : BufAt (w.setCell ⟨b, 2, none⟩ (.int .i8 0)) b 0 zs := by
  rcases h with ⟨hb, hz⟩ | ⟨g, hlt, hb, hr⟩
  · exact .inl ⟨Lib.heap_setCell_same (i := 2) hb _, hz⟩
  · refine .inr ⟨g, hlt, Lib.heap_setCell_same (i := 2) hb _, ?_⟩
    have hgb : g ≠ b := by omega
    unfold Row
    rw [Below.heap_setCell _ _ _ _ hgb]
    exact hr

theorem BufAt.read {w : World} {b : Nat} {lr : Int} {zs : List Int} (h : BufAt w b lr zs) (hm : zs.length ≤ maxLen) : ∃ ao, w.cell? ⟨b, 0, none⟩ = some (.slice ao zs.length zs.length) ∧ w.cell? ⟨b, 2, none⟩ = some (.int .i8 lr) ∧ w.frozen? ⟨b, 2, none⟩ = false := by
  rcases h with ⟨hb, rfl⟩ | ⟨g, _, hb, hr⟩
  · exact ⟨none, by rw [Lib.cell_of_heap hb]; rfl, by rw [Lib.cell_of_heap hb]; rfl, Lib.frozen_of_heap hb 2⟩
  · exact ⟨_, by rw [Lib.cell_of_heap hb]; rfl, by rw [Lib.cell_of_heap hb]; rfl, Lib.frozen_of_heap hb 2⟩

/-- The row behind the copy of the new bytes. -/
theorem Wrote.mk {w w1 w2 : World} {b cap2 : Nat} {zs ys : List Int} {cells : Array Value} (hs0 : w1.heap.size = w.heap.size) (hg0 : w.grownBy w1 (some b)) (hb : b < w.heap.size)
    (hbk : w2.heap[b]? = some (.cells #[.slice (some ⟨w1.heap.size, 0, none⟩) (zs.length + ys.length) cap2, .int .i64 0, .int .i8 0] 43 (0, 0))) (hN : w2.heap[w1.heap.size]? = some (.cells cells 5 (0, 0)))
    (htk : cells.toList.take zs.length = ic zs) (hc : zs.length + ys.length ≤ cap2) (hcm : cap2 ≤ maxLen) (hg : w1.grownBy w2 (some b)) :
    Wrote w (w2.setRow w1.heap.size (cells.toList.take zs.length ++ ic ys ++ cells.toList.drop (zs.length + ys.length)).toArray) b (zs ++ ys) := by
  refine ⟨cap2, (cells.toList.take zs.length ++ ic ys ++ cells.toList.drop (zs.length + ys.length)).toArray, ?_, ?_, ?_, by rw [List.length_append]; exact hc, hcm, ?_⟩
  · rw [setRow_other _ _ _ _ (by omega), ← hs0, List.length_append]; exact hbk
  · rw [← hs0]; exact setRow_heap _ _ _ _ 5 (0, 0) hN
  · rw [htk, ic_append]
    rw [List.take_append_of_le_length (by simp [ic])]
    rw [List.take_of_length_le (by simp [ic])]
  · refine Lib.grownBy_trans hg0 ⟨hg.os, hg.tape, hg.output, by simpa using hg.size, fun k hk hkb => ?_⟩
    rw [setRow_other _ _ _ _ (by omega)]
    exact hg.block k hk hkb

set_option maxHeartbeats 1600000 in
set_option maxRecDepth 100000 in
theorem bufWriteString (b : Nat) (lr : Int) (zs : List Int) (s : ByteArray) (w : World) (h : BufAt w b lr zs) (hs : 1 ≤ s.size) (hlim : zs.length + s.size ≤ 140737488355328) :
    Calls Tryd.prog 38 #[.pointer (some ⟨b, 0, none⟩), .string s] w fun e w' => e = .returned (.tuple #[.int .i64 s.size, .nilIface]) ∧ Wrote w w' b (zs ++ sz s) := by
  obtain ⟨ao, c0, c2, f2⟩ := h.read (by unfold maxLen; omega)
  have h' := h.setLast
  obtain ⟨ao', c0', -, -⟩ := h'.read (by unfold maxLen; omega)
  have hbw := h.lt
  have hsz : (Tryd.prog.info? 5).map (·.size) = some 1 := by
    obtain ⟨i0, hi, -, hz1, -⟩ := info_parts Tryd.info5
    rw [hi]; simp [hz1]
  have hs0 : (w.setCell ⟨b, 2, none⟩ (.int .i8 0)).heap.size = w.heap.size := by simp [World.setCell]
  have HS := Lib.hid hs0
  clear hs0
  go_enter Tryd.func38, Tryd.ntmps38
  go_wp2_with (go_at_call 39; refine (tryGrow_none b ao' zs.length zs.length s.size _ ?_ (Nat.le_refl _) (by unfold maxLen; omega) (by omega)).mono ?_)
  · exact c0'
  rintro e w1 ⟨rfl, rfl⟩
  go_wp2_with (go_at_call 40; refine (grow_any b s.size 0 zs _ ?_ hs hlim).mono ?_)
  · exact h'
  rintro e w2 ⟨rfl, cap2, cells, hbk, hN, hcs, htk, hc, hcm, hg⟩
  have d0 : w2.cell? ⟨b, 0, none⟩ = some (.slice (some ⟨(w.setCell ⟨b, 2, none⟩ (.int .i8 0)).heap.size, 0, none⟩) (zs.length + s.size) cap2) := by rw [Lib.cell_of_heap hbk]; rfl
  have key := Wrote.mk (ys := sz s) HS.out (Lib.grownBy_setCell w b 2 (.int .i8 0)) hbw (by rw [sz_length]; exact hbk) hN htk (by rw [sz_length]; exact hc) hcm hg
  have hcp := Lib.run_copy_row_string (P := Tryd.prog) w2 22 9 3 5 (w.setCell ⟨b, 2, none⟩ (.int .i8 0)).heap.size zs.length s.size (cap2 - zs.length) s cells 5 Tryd.underlying22 hsz hN (Nat.le_refl _) (by omega)
  have hne : ¬ cap2 = zs.length := by omega
  rw [ic_sz, sz_length, List.append_assoc] at key
  have KEY := Lib.hid key
  clear key h h' c0 c0' c2 f2 hbk hN htk hg
  unfold maxLen at hcm
  generalize (w.setCell ⟨b, 2, none⟩ (.int .i8 0)).heap.size = N at *
  go_wp2
  go_ret2
  exact ⟨rfl, KEY.out⟩

set_option maxHeartbeats 1600000 in
set_option maxRecDepth 100000 in
theorem bufWrite (b : Nat) (lr : Int) (zs ys : List Int) (gp cp : Nat) (xs : List Value) (w : World) (h : BufAt w b lr zs) (hr : Row w gp xs) (hx : xs.take ys.length = ic ys) (hgb : gp ≠ b) (hs : 1 ≤ ys.length) (hlim : zs.length + ys.length ≤ 140737488355328) :
    Calls Tryd.prog 37 #[.pointer (some ⟨b, 0, none⟩), .slice (some ⟨gp, 0, none⟩) ys.length cp] w fun e w' => e = .returned (.tuple #[.int .i64 ys.length, .nilIface]) ∧ Wrote w w' b (zs ++ ys) := by
  obtain ⟨ao, c0, c2, f2⟩ := h.read (by unfold maxLen; omega)
  have h' := h.setLast
  obtain ⟨ao', c0', -, -⟩ := h'.read (by unfold maxLen; omega)
  have hbw := h.lt
  have hsz : (Tryd.prog.info? 5).map (·.size) = some 1 := by
    obtain ⟨i0, hi, -, hz1, -⟩ := info_parts Tryd.info5
    rw [hi]; simp [hz1]
  have hs0 : (w.setCell ⟨b, 2, none⟩ (.int .i8 0)).heap.size = w.heap.size := by simp [World.setCell]
  have HS := Lib.hid hs0
  clear hs0
  go_enter Tryd.func37, Tryd.ntmps37
  go_wp2_with (go_at_call 39; refine (tryGrow_none b ao' zs.length zs.length ys.length _ ?_ (Nat.le_refl _) (by unfold maxLen; omega) (by omega)).mono ?_)
  · exact c0'
  rintro e w1 ⟨rfl, rfl⟩
  go_wp2_with (go_at_call 40; refine (grow_any b ys.length 0 zs _ ?_ hs hlim).mono ?_)
  · exact h'
  rintro e w2 ⟨rfl, cap2, cells, hbk, hN, hcs, htk, hc, hcm, hg⟩
  have d0 : w2.cell? ⟨b, 0, none⟩ = some (.slice (some ⟨(w.setCell ⟨b, 2, none⟩ (.int .i8 0)).heap.size, 0, none⟩) (zs.length + ys.length) cap2) := by rw [Lib.cell_of_heap hbk]; rfl
  have hr2 : w2.heap[gp]? = some (.cells xs.toArray 5 (0, 0)) := by
    rw [hg.block gp (by rw [HS.out]; exact hr.lt) (by simpa using hgb), Below.heap_setCell _ _ _ _ hgb]
    exact hr
  have hsrc : ∀ j v, (ic ys)[j]? = some v → w2.cell? ((⟨gp, 0, none⟩ : Addr).add j) = some v := by
    intro j v hj
    refine Lib.cells_of_row hr2 ys.length j v ?_
    rw [List.toList_toArray, hx]
    exact hj
  have key := Wrote.mk (ys := ys) HS.out (Lib.grownBy_setCell w b 2 (.int .i8 0)) hbw hbk hN htk hc hcm hg
  have hcp := run_copy_row (P := Tryd.prog) w2 22 22 3 5 (w.setCell ⟨b, 2, none⟩ (.int .i8 0)).heap.size zs.length ys.length (cap2 - zs.length) ⟨gp, 0, none⟩ ys.length cp cells 5 (ic ys) Tryd.underlying22 hsz hN (by rw [ic_length]; exact (Nat.min_self _).symm) hsrc (by rw [ic_length]; omega) (ic_one ys)
  rw [ic_length] at hcp
  have hne : ¬ cap2 = zs.length := by omega
  rw [List.append_assoc] at key
  have KEY := Lib.hid key
  clear key h h' c0 c0' c2 f2 hbk hN htk hg hsrc hr2 hr hx
  unfold maxLen at hcm
  generalize (w.setCell ⟨b, 2, none⟩ (.int .i8 0)).heap.size = N at *
  go_wp2
  go_ret2
  exact ⟨rfl, KEY.out⟩
end Go.Proofs.Qxb6608520aDoor
