import Derived.Test.Qxb6608520aDoorWriter2
namespace Go.Proofs.Qxb6608520aDoor
open Go.RowKit

set_option maxHeartbeats 1600000 in
theorem writeString_big (bw gb b : Nat) (lr : Int) (zs : List Int) (xs : List Value) (s : ByteArray) (w : World) (h : WrAt w bw gb 0 b xs) (hb : BufAt w b lr zs) (hgb : gb ≠ b) (hbw : bw ≠ b) (hs : 4096 < s.size) (hlim : zs.length + s.size ≤ 1048576) :
    Calls Tryd.prog 9 #[.pointer (some ⟨bw, 0, none⟩), .string s] w fun e w' => e = .returned (.tuple #[.int .i64 s.size, .nilIface]) ∧ WrAt w' bw gb 0 b xs ∧ ∃ w1 q, Wrote (w.drewN q) w1 b (zs ++ sz s) ∧ Kept [bw] w1 w' := by
  have hA := assertS
  go_enter Tryd.func9, Tryd.ntmps9
  go_wp2
  refine wp_loop_rounds 2 ?_
  rw [rounds_succ]
  go_wp2_with (go_at_call 15; refine (available bw gb 0 b xs _ h (by omega)).mono ?_)
  rintro e w1 ⟨rfl, q, rfl⟩
  have h1 := h.drewN q
  have hb1 : BufAt (w.drewN q) b lr zs := hb
  have c0 := h1.c0
  have c1 := h1.c1
  have c2 := h1.c2
  have c3 := h1.c3
  have f0 := h1.f 0
  have hlt : bw < (w.drewN q).heap.size := Lib.lt_of_heap h1.1
  generalize hW : w.drewN q = W at *
  have HW := Lib.hid hW
  clear hW
  go_wp2_with (first | (go_at_call 16; refine (buffered bw gb 0 b xs _ h1).mono ?_; rintro e w' ⟨rfl, rfl⟩) | (go_at_call 38; refine (bufWriteString b lr zs s _ hb1 (by omega) (by omega)).mono ?_))
  rintro e w2 ⟨rfl, hw⟩
  have hg := hw.grown
  have h2 : WrAt w2 bw gb 0 b xs := by
    refine ⟨(hg.block bw hlt (by simpa using hbw)).trans h1.1, ?_, h1.2.2⟩
    unfold Row
    rw [hg.block gb h1.2.1.lt (by simpa using hgb)]
    exact h1.2.1
  have d0 := h2.c0
  have e0 := h2.f 0
  have h3 : WrAt (w2.setCell ⟨bw, 0, none⟩ .nilIface) bw gb 0 b xs := by
    refine ⟨Lib.heap_setCell_same (i := 0) h2.1 _, ?_, h2.2.2⟩
    unfold Row
    rw [Below.heap_setCell _ _ _ _ h2.ne]
    exact h2.2.1
  have HW2 := Lib.hid hw
  have HK : Hid (Kept [bw] w2 (w2.setCell ⟨bw, 0, none⟩ .nilIface)) := (Kept.refl _ _).setCell (p := ⟨bw, 0, none⟩) (by simp) _
  clear hw hg c0 c1 c2 c3 f0 h1 hb1 h hb
  go_wp2_with fail
  rw [rounds_succ]
  go_wp2_with (go_at_call 15; refine (available bw gb 0 b xs _ h3 (by omega)).mono ?_)
  rintro e w3 ⟨rfl, q3, rfl⟩
  have h4 := h3.drewN q3
  have HK4 : Hid (Kept [bw] w2 ((w2.setCell ⟨bw, 0, none⟩ .nilIface).drewN q3)) := HK.out.drewN q3
  generalize (w2.setCell ⟨bw, 0, none⟩ .nilIface).drewN q3 = W4 at *
  have c0 := h4.c0
  have c1 := h4.c1
  have c2 := h4.c2
  have f2 := h4.f 2
  have hsz : ((Tryd.prog.info? 5).map (·.size)).isSome = true := by
    obtain ⟨i0, hi, -, hz1, -⟩ := info_parts Tryd.info5
    rw [hi]; simp [hz1]
  have hcp := Lib.run_copy_empty_string (P := Tryd.prog) W4.drew 22 9 3 5 (some ⟨gb, 0, none⟩) 4096 4096 ByteArray.empty Tryd.underlying22 hsz rfl
  have fin : WrAt (W4.drew.setCell ⟨bw, 2, none⟩ (.int .i64 0)) bw gb 0 b xs := by
    refine ⟨Lib.heap_setCell_same (w := W4.drew) (i := 2) h4.1 _, ?_, h4.2.2⟩
    unfold Row
    rw [Below.heap_setCell _ _ _ _ h4.ne]
    exact h4.2.1
  have FIN := Lib.hid fin
  have HK5 : Hid (Kept [bw] w2 (W4.drew.setCell ⟨bw, 2, none⟩ (.int .i64 0))) := HK4.out.drew.setCell (p := ⟨bw, 2, none⟩) (by simp) _
  clear h3 HK h2 d0 e0 fin HK4 h4
  go_wp2
  go_region
  all_goals
    go_wp2
    go_ret2
    refine ⟨rfl, ?_, w2, q, ?_, ?_⟩
    · exact FIN.out
    · rw [HW.out]; exact HW2.out
    · exact HK5.out
end Go.Proofs.Qxb6608520aDoor
