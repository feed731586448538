import Derived.Test.Qxb6608520aDoorWriter
import Derived.BigRegion
namespace Go.Proofs.Qxb6608520aDoor
open Go.RowKit

theorem WrAt.drewN {w : World} {bw gb n b : Nat} {xs : List Value} (h : WrAt w bw gb n b xs) (q : Nat) : WrAt (w.drewN q) bw gb n b xs := h

set_option maxHeartbeats 1600000 in
theorem writeString_small (bw gb b : Nat) (xs : List Value) (s : ByteArray) (w : World) (h : WrAt w bw gb 0 b xs) (hs : s.size ≤ 4096) :
    Calls Tryd.prog 9 #[.pointer (some ⟨bw, 0, none⟩), .string s] w fun e w' => e = .returned (.tuple #[.int .i64 s.size, .nilIface]) ∧ WrAt w' bw gb s.size b (ic (sz s) ++ xs.drop s.size) ∧ Kept [bw, gb] w w' := by
  have hsz : (Tryd.prog.info? 5).map (·.size) = some 1 := by
    obtain ⟨i0, hi, -, hz1, -⟩ := info_parts Tryd.info5
    rw [hi]; simp [hz1]
  go_enter Tryd.func9, Tryd.ntmps9
  go_wp2
  refine wp_loop_rounds 1 ?_
  rw [rounds_succ]
  go_wp2_with (go_at_call 15; refine (available bw gb 0 b xs _ h (by omega)).mono ?_)
  rintro e w1 ⟨rfl, q, rfl⟩
  have h1 := h.drewN q
  have HK : Kept [bw, gb] w (w.drewN q) := (Kept.refl _ _).drewN q
  generalize w.drewN q = W at *
  have c0 := h1.c0
  have c1 := h1.c1
  have c2 := h1.c2
  have f2 := h1.f 2
  have hr : W.drew.heap[gb]? = some (.cells xs.toArray 5 (0, 0)) := h1.2.1
  have hxl := h1.2.2
  have hcp := Lib.run_copy_row_string (P := Tryd.prog) W.drew 22 9 3 5 gb 0 4096 4096 s xs.toArray 5 Tryd.underlying22 hsz hr hs (by rw [List.size_toArray, hxl]; omega)
  have hne := h1.ne
  have hYl : (List.take 0 xs.toArray.toList ++ Lib.byteCells s.data.toList ++ List.drop (0 + s.size) xs.toArray.toList).toArray = (ic (sz s) ++ xs.drop s.size).toArray := by simp [ic_sz]
  rw [hYl] at hcp
  have hlen : (ic (sz s) ++ xs.drop s.size).length = 4096 := by rw [List.length_append, ic_length, sz_length, List.length_drop, hxl]; omega
  have fin : WrAt ((W.drew.setRow gb (ic (sz s) ++ xs.drop s.size).toArray).setCell ⟨bw, 2, none⟩ (.int .i64 s.size)) bw gb s.size b (ic (sz s) ++ xs.drop s.size) := by
    refine ⟨?_, ?_, hlen⟩
    · have : (W.drew.setRow gb (ic (sz s) ++ xs.drop s.size).toArray).heap[bw]? = _ := (setRow_other W.drew _ _ _ (Ne.symm hne)).trans h1.1
      exact Lib.heap_setCell_same (i := 2) this _
    · unfold Row
      rw [Below.heap_setCell _ _ _ _ hne]
      exact setRow_heap W.drew gb _ _ 5 (0, 0) hr
  have kept : Kept [bw, gb] w ((W.drew.setRow gb (ic (sz s) ++ xs.drop s.size).toArray).setCell ⟨bw, 2, none⟩ (.int .i64 s.size)) :=
    (HK.drew.setRow (by simp) _).setCell (p := ⟨bw, 2, none⟩) (by simp) _
  have g2 : (W.drew.setRow gb (ic (sz s) ++ xs.drop s.size).toArray).cell? ⟨bw, 2, none⟩ = some (.int .i64 (0 : Nat)) := (World.cell?_of_block (setRow_other W.drew _ _ _ (Ne.symm hne))).trans c2
  have gf : (W.drew.setRow gb (ic (sz s) ++ xs.drop s.size).toArray).frozen? ⟨bw, 2, none⟩ = false := (World.frozen?_of_block (setRow_other W.drew _ _ _ (Ne.symm hne))).trans f2
  generalize hY : (ic (sz s) ++ xs.drop s.size) = Y at *
  have HY := Lib.hid hY
  clear hY
  have FIN := Lib.hid fin
  have KEPT := Lib.hid kept
  clear fin kept hYl hr HK h h1 hlen
  go_wp2
  go_region
  all_goals
    go_wp2
    go_ret2
    rw [HY.out]
    exact ⟨rfl, FIN.out, KEPT.out⟩
end Go.Proofs.Qxb6608520aDoor
