import Derived.Test.Qxb6608520aDoorGrow
namespace Go.Proofs.Qxb6608520aDoor
open Go.RowKit

set_option maxHeartbeats 1600000 in
set_option maxRecDepth 100000 in
theorem growSlice_nil (n : Nat) (w : World) (hn : 1 ≤ n) (hlim : n ≤ 140737488355328) :
    Calls Tryd.prog 42 #[.slice none 0 0, .int .i64 n] w fun e w' => ∃ cap2 cells, e = .returned (.slice (some ⟨w.heap.size, 0, none⟩) 0 cap2) ∧ w'.heap[w.heap.size]? = some (.cells cells 5 (0, 0)) ∧
      cells.size = cap2 ∧ n ≤ cap2 ∧ cap2 ≤ maxLen ∧ Below w.heap.size w w' := by
  obtain ⟨i0, hi, hz0, hz1, hz2⟩ := info_parts Tryd.info5
  have happ := Lib.run_append_nil_zeros (P := Tryd.prog) w 22 3 22 5 i0 (.int .u8 0) .i64 .i64 Tryd.underlying22 Tryd.underlying3 hi hz0 n (by omega) (by omega) (by omega) (by rw [hz2]; omega)
  generalize hcap : grownCap w n 0 5 = cap2 at happ
  have hcapge : n ≤ cap2 := by rw [← hcap]; exact grownCap_ge w _ 0 5
  have hcaple : cap2 ≤ maxLen := by rw [← hcap]; exact grownCap_le_maxLen w _ 0 5 (by unfold maxLen; omega)
  generalize hZ : (Builtin.zeroCells (Value.int .u8 0).cells n ++ Builtin.zeroCells (Value.int .u8 0).cells (cap2 - n)) = Z at happ
  have hZs : Z.size = cap2 := by rw [← hZ]; simp [size_zeroCells, Value.cells]; omega
  clear hcap hZ
  have hcopy := run_copy_nil (P := Tryd.prog) (w.alloc (.cells Z 5)).drew 22 22 3 5 ⟨w.heap.size, 0, none⟩ n cap2 Tryd.underlying22 (by rw [hi]; rfl)
  go_enter_defers Tryd.func42, Tryd.ntmps42
  go_wp2_with (at_builtin; refine Lib.wpList_append_run _ rfl _ _ _ _ rfl _ _ rfl rfl _ _ happ ?_)
  refine leaves_cons (f := 43) (args := #[]) (by simp) (by simp [go_sem]) ?_
  refine (catch_idle _).mono ?_
  rintro e u' w'' ⟨rfl, rfl, rfl⟩
  refine ⟨_, results_tmp rfl _ _ _, ?_⟩
  exact ⟨cap2, Z, rfl, heap_alloc_new w _, hZs, hcapge, hcaple, ⟨rfl, rfl, rfl, by simp, fun k hk => Below.heap_alloc w _ k hk⟩⟩

theorem bufLen (b : Nat) (ao : Option Addr) (l c : Nat) (w : World) (c0 : w.cell? ⟨b, 0, none⟩ = some (.slice ao l c)) (c1 : w.cell? ⟨b, 1, none⟩ = some (.int .i64 0)) (hl : l ≤ maxLen) :
    Calls Tryd.prog 41 #[.pointer (some ⟨b, 0, none⟩)] w fun e w' => e = .returned (.int .i64 l) ∧ ∃ n, w' = w.drewN n := by
  unfold maxLen at hl
  go_enter Tryd.func41, Tryd.ntmps41
  go_wp2
  go_region
  all_goals (go_wp2; go_ret; exact ⟨by simp, 1, rfl⟩)

theorem tryGrow_none (b : Nat) (ao : Option Addr) (l cap n : Nat) (w : World) (c0 : w.cell? ⟨b, 0, none⟩ = some (.slice ao l cap))
    (hlc : l ≤ cap) (hcap : cap ≤ maxLen) (hn : cap - l < n) :
    Calls Tryd.prog 39 #[.pointer (some ⟨b, 0, none⟩), .int .i64 n] w fun e w' => e = .returned (.tuple #[.int .i64 0, .bool false]) ∧ w' = w := by
  unfold maxLen at hcap
  go_enter Tryd.func39, Tryd.ntmps39
  go_wp2
  go_ret2
  exact ⟨rfl, rfl⟩

/-- What grow leaves: the buffer's slice lies at the head of a new row, which begins with the old bytes; no other old block has turned. -/
def Grew (w w' : World) (b l n : Nat) (lr : Int) (old : List Value) : Prop :=
  ∃ cap2 cells, w'.heap[b]? = some (.cells #[.slice (some ⟨w.heap.size, 0, none⟩) (l + n) cap2, .int .i64 0, .int .i8 lr] 43 (0, 0)) ∧ w'.heap[w.heap.size]? = some (.cells cells 5 (0, 0)) ∧
    cells.size = cap2 ∧ cells.toList.take l = old ∧ l + n ≤ cap2 ∧ cap2 ≤ maxLen ∧ w.grownBy w' (some b)

theorem Grew.mk3 {w w2 : World} {b l n cap2 : Nat} {lr : Int} {cells : Array Value} {old : List Value} {v0 v1 : Value} (hb : b < w.heap.size)
    (hbk2 : w2.heap[b]? = some (.cells #[v0, .int .i64 0, .int .i8 lr] 43 (0, 0))) (hN : w2.heap[w.heap.size]? = some (.cells cells 5 (0, 0)))
    (hcs : cells.size = cap2) (htk : cells.toList.take l = old) (hc : l + n ≤ cap2) (hcm : cap2 ≤ maxLen) (hg : w.grownBy w2 (some b)) :
    Grew w (((w2.setCell ⟨b, 0, none⟩ v1).setCell ⟨b, 1, none⟩ (.int .i64 0)).setCell ⟨b, 0, none⟩ (.slice (some ⟨w.heap.size, 0, none⟩) (l + n) cap2)) b l n lr old := by
  refine ⟨cap2, cells, ?_, ?_, hcs, htk, hc, hcm, Lib.grownBy_setB (Lib.grownBy_setB (Lib.grownBy_setB hg 0 _) 1 _) 0 _⟩
  · exact Lib.heap_setCell_same (i := 0) (Lib.heap_setCell_same (i := 1) (Lib.heap_setCell_same (i := 0) hbk2 v1) (.int .i64 0)) (.slice (some ⟨w.heap.size, 0, none⟩) (l + n) cap2)
  · have hNb : w.heap.size ≠ b := by omega
    rw [Below.heap_setCell _ _ _ _ hNb, Below.heap_setCell _ _ _ _ hNb, Below.heap_setCell _ _ _ _ hNb]
    exact hN

end Go.Proofs.Qxb6608520aDoor
