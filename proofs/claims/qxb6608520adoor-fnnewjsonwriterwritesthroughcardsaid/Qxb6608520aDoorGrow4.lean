import Derived.Test.Qxb6608520aDoorGrow2
namespace Go.Proofs.Qxb6608520aDoor
open Go.RowKit

set_option maxHeartbeats 1600000 in
set_option maxRecDepth 100000 in
/-- grow, where the buffer holds a row that has no room: growSlice. (It holds no byte.) -/
theorem grow_row0 (b g cap n : Nat) (lr : Int) (cur : Array Value) (w : World)
    (hbk : w.heap[b]? = some (.cells #[.slice (some ⟨g, 0, none⟩) 0 cap, .int .i64 0, .int .i8 lr] 43 (0, 0)))
    (hg : w.heap[g]? = some (.cells cur 5 (0, 0))) (hlc : 0 ≤ cap) (hcs : cur.size = cap)
    (h1 : ∀ v ∈ cur.toList.take 0, v.oneCell' = true) (hn : 1 ≤ n) (hroom : cap - 0 < n) (hlim : 0 + n ≤ 140737488355328) :
    Calls Tryd.prog 40 #[.pointer (some ⟨b, 0, none⟩), .int .i64 n] w fun e w' => e = .returned (.int .i64 0) ∧ Grew w w' b 0 n lr (cur.toList.take 0) := by
  have hcm : cap ≤ maxLen := by unfold maxLen; omega
  have hc2 : cap ≤ 140737488355328 := by omega
  have hnil : ∀ W, (binOp .eql 22 (.slice (some ⟨g, 0, none⟩) 0 cap) (.slice none 0 0)).run Tryd.prog W = .ok (.bool false) W := fun W => Lib.run_eql_slice_some_nil W _ _ _ Tryd.underlying22
  have k0 : w.cell? ⟨b, 0, none⟩ = some (.slice (some ⟨g, 0, none⟩) 0 cap) := by rw [Lib.cell_of_heap hbk]; rfl
  have k1 : w.cell? ⟨b, 1, none⟩ = some (.int .i64 0) := by rw [Lib.cell_of_heap hbk]; rfl
  go_enter Tryd.func40, Tryd.ntmps40
  go_wp2_with (go_at_call 41; refine (bufLen b _ 0 cap _ k0 k1 (by unfold maxLen; omega)).mono ?_)
  rintro e W0 ⟨rfl, k, hW0⟩
  have hbk0 : W0.heap[b]? = some (.cells #[.slice (some ⟨g, 0, none⟩) 0 cap, .int .i64 0, .int .i8 lr] 43 (0, 0)) := by rw [hW0]; exact hbk
  have hg0 : W0.heap[g]? = some (.cells cur 5 (0, 0)) := by rw [hW0]; exact hg
  have c0 : W0.cell? ⟨b, 0, none⟩ = some (.slice (some ⟨g, 0, none⟩) 0 cap) := by rw [Lib.cell_of_heap hbk0]; rfl
  have c1 : W0.cell? ⟨b, 1, none⟩ = some (.int .i64 0) := by rw [Lib.cell_of_heap hbk0]; rfl
  have f0 : W0.frozen? ⟨b, 0, none⟩ = false := Lib.frozen_of_heap hbk0 0
  have f1 : W0.frozen? ⟨b, 1, none⟩ = false := Lib.frozen_of_heap hbk0 1
  have HW0 := Lib.hid hW0
  clear hW0 k0 k1
  have hbW := Lib.lt_of_heap hbk0
  have hsz0 : W0.heap.size = w.heap.size := by rw [HW0.out]; rfl
  have hgr0 : w.grownBy W0.drew (some b) := by rw [HW0.out]; exact ⟨rfl, rfl, rfl, Nat.le_refl _, fun _ _ _ => rfl⟩
  have HS := Lib.hid hsz0
  have HG := Lib.hid hgr0
  clear hsz0 hgr0 hbk hg HW0
  have hwn : IntKind.i64.wrap (n : Int) = n := by rw [IntKind.wrap_i64]; omega
  go_wp2_with (go_at_call 39; refine (tryGrow_none b _ 0 cap n _ c0 hlc hcm hroom).mono ?_; rintro e w' ⟨rfl, rfl⟩)
  go_region_with (
      go_at_call 42
      refine (growSlice_row g 0 cap n cur _ ?_ hcs hlc hn hlim hc2 h1).mono ?_
      exact hg0
      rintro e w2 ⟨cap2, cells, rfl, hN, hcsz, htk, hcap2, hcm2, hbel⟩
      have hbk2 : w2.heap[b]? = some (.cells #[.slice (some ⟨g, 0, none⟩) 0 cap, .int .i64 0, .int .i8 lr] 43 (0, 0)) := (hbel.block b hbW).trans hbk0
      have d0 : w2.cell? ⟨b, 0, none⟩ = some (.slice (some ⟨g, 0, none⟩) 0 cap) := by rw [Lib.cell_of_heap hbk2]; rfl
      have d1 : w2.cell? ⟨b, 1, none⟩ = some (.int .i64 0) := by rw [Lib.cell_of_heap hbk2]; rfl
      have e0 : w2.frozen? ⟨b, 0, none⟩ = false := Lib.frozen_of_heap hbk2 0
      have e1 : w2.frozen? ⟨b, 1, none⟩ = false := Lib.frozen_of_heap hbk2 1)
  all_goals
    go_wp2
    go_ret
    refine ⟨rfl, ?_⟩
    have hb1 : b < w.heap.size := by rw [← HS.out]; exact hbW
    have hszd : w'.drew.heap.size = w.heap.size := HS.out
    have key := Grew.mk3 (n := n) (v1 := .slice (some ⟨w.heap.size, 0, none⟩) 0 cap2) hb1 hbk2 (by rw [← hszd]; exact hN) hcsz htk hcap2 hcm2 (Lib.grownBy_below HG.out hbel)
    rw [← hszd] at key
    rw [Nat.zero_add] at key
    exact key
end Go.Proofs.Qxb6608520aDoor
