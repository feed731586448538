import Derived.Test.Qxb6608520aDoorLaw
namespace Go.Proofs.Qxb6608520aDoor
open Go.RowKit

theorem getD_left (xs ys : List Int) (k : Nat) (h : k < xs.length) : (xs ++ ys).getD k 0 = xs.getD k 0 := by
  simp [List.getD_eq_getElem?_getD, List.getElem?_append_left h]
theorem getD_sz (xs : List Int) (s : ByteArray) (k : Nat) (h : k < s.size) : (xs ++ sz s).getD (xs.length + k) 0 = (s[k].toNat : Int) := by
  rw [List.getD_eq_getElem?_getD, List.getElem?_append_right (by omega), Nat.add_sub_cancel_left]
  have h' : k < s.data.toList.length := by rw [← Lib.size_eq]; exact h
  simp only [sz, List.getElem?_map, List.getElem?_eq_getElem h', Option.map_some, Option.getD_some]
  rfl

set_option maxHeartbeats 3200000 in
theorem law_main (a0 : Option Addr) (n c : Nat) (z0 : List Int) (s : ByteArray) (w : World) (h0 : IsRow .u8 w a0 n c z0) (hn : n ≤ 65536) (hs : s.size ≤ 65536) :
    Calls Tryd.prog 3 #[.slice a0 n c, .string s] w fun e w' => e = .returned (.bool true) ∧ Below w.heap.size w w' := by
  obtain ⟨i0, hi, hz0, hz1, hz2⟩ := info_parts Tryd.info5
  go_enter Tryd.func3, Tryd.ntmps3
  go_wp2_with (go_at_call 4; refine (bytes_yes a0 n c s _ (by omega)).mono ?_; rintro e w' ⟨rfl, rfl⟩)
  refine (clone_any a0 n c z0 _ h0 hn).mono ?_
  rintro e w1 ⟨a', ys, hyl, rfl, hd, hb1⟩
  clear h0
  have hfl : (ys ++ sz s).length = n + s.size := by rw [List.length_append, sz_length, hyl]
  go_wp2_with (at_make; refine wpList_make_full _ rfl _ _ 22 rfl w1.heap.size 5 i0 (.int .u8 0) 1 Tryd.underlying22 hi hz0 hz1 .i64 .i64 _ _ (n + s.size) rfl rfl (by omega) (by omega) (by rw [hz2]; omega) (by unfold maxLen; omega) (Nat.le_refl _) ?_; intro w2 hown hgr)
  have hrow : Row w2 w1.heap.size (part (ys ++ sz s) (n + s.size) 0) := by
    have := row_of_owns hown
    rw [part_zero]; simpa [Value.cells, toList_madeCells_one] using this
  have hb2 : Below w1.heap.size w1 w2 := (Below.refl _ _).grown hgr (Nat.le_refl _) (fun k h => by cases h)
  clear hown hgr hi hz0 hz1 hz2 i0
  have hd2 : DataAt w2 a' ys := hd.kept (Kept.of_below hb2 []) (fun _ _ => by simp)
  have hlt1 : ∀ g, a' = some ⟨g, 0, none⟩ → g < w1.heap.size := by
    intro g hg
    rcases hd with ⟨h, _⟩ | ⟨g', h, hr⟩
    · rw [h] at hg; cases hg
    · rw [h] at hg; cases hg; exact hr.lt
  have HLT := Lib.hid hlt1
  have HFL := Lib.hid hfl
  have HYL := Lib.hid hyl
  clear hlt1 hd hfl hyl
  have HB1 := Lib.hid hb1
  clear hb1
  generalize hN : w1.heap.size = N at *
  go_loopw [6] (fun i wr => ∃ k : Nat, k ≤ n ∧ i = .int .i64 k ∧ Row wr N (part (ys ++ sz s) (n + s.size) k) ∧ DataAt wr a' ys ∧ Below N w1 wr) (fun i _ => n - (intOf i).toNat)
  case atStart => exact ⟨0, Nat.zero_le _, rfl, hrow, hd2, hb2⟩
  case round =>
    obtain ⟨k, hk, rfl, hr, hdr, hbr⟩ := hrel
    clear hrow hd2 hb2
    by_cases hlt : k < n
    · obtain ⟨g, rfl, hrg⟩ : ∃ g, a' = some ⟨g, 0, none⟩ ∧ Row wr g (ic ys) := by
        rcases hdr with ⟨_, h⟩ | h
        · have := HYL.out; rw [h] at this; simp at this; omega
        · exact h
      have hgN : g < N := HLT.out g rfl
      have hcx := hrg.reads k (by rw [HYL.out]; exact hlt)
      have hcn := hr.cell k
      have hfn := hr.frozen k
      have hpl : k < (part (ys ++ sz s) (n + s.size) k).length := by rw [part_len _ _ k (by omega) (by rw [HFL.out]; exact Nat.le_refl _)]; omega
      rw [List.getElem?_eq_getElem hpl] at hcn
      have H1 : Hid (Row (wr.setCell ⟨N, k, none⟩ (.int .u8 (ys.getD k 0))) N (part (ys ++ sz s) (n + s.size) (k + 1))) := by
        rw [← part_succ (ys ++ sz s) (n + s.size) k (by omega) (by rw [HFL.out]; exact Nat.le_refl _), getD_left ys (sz s) k (by rw [HYL.out]; exact hlt)]; exact hr.set k _
      have H2 : Hid (Below N w1 (wr.setCell ⟨N, k, none⟩ (.int .u8 (ys.getD k 0)))) := hbr.setCell (p := ⟨N, k, none⟩) (Nat.le_refl _) _
      have H3 : Hid (DataAt (wr.setCell ⟨N, k, none⟩ (.int .u8 (ys.getD k 0))) (some ⟨g, 0, none⟩) ys) := .inr ⟨g, rfl, by unfold Row; rw [Below.heap_setCell _ _ _ _ (by show g ≠ N; omega)]; exact hrg⟩
      clear hr hbr hdr hrg
      go_wp2
      go_roundw
      case rel => exact ⟨k + 1, by omega, by go_num, by simpa using H1.out, by simpa using H3.out, by simpa using H2.out⟩
      case measure => simp [intOf]; omega
    · obtain rfl : k = n := by omega
      go_wp2
      have hr0 : Row wr N (part (ys ++ sz s) (k + s.size) (k + 0)) := hr
      go_loopw [7] (fun i wq => ∃ m : Nat, m ≤ s.size ∧ i = .int .i64 m ∧ Row wq N (part (ys ++ sz s) (k + s.size) (k + m)) ∧ DataAt wq a' ys ∧ Below N w1 wq) (fun i _ => s.size - (intOf i).toNat)
      case atStart => exact ⟨0, Nat.zero_le _, rfl, hr0, hdr, hbr⟩
      case round =>
        obtain ⟨m, hm, rfl, hq, hdq, hbq⟩ := hrel
        clear hr hr0 hdr hbr
        by_cases hlt2 : m < s.size
        · have hcn := hq.cell (k + m)
          have hfn := hq.frozen (k + m)
          have hpl : k + m < (part (ys ++ sz s) (k + s.size) (k + m)).length := by rw [part_len _ _ (k + m) (by omega) (by rw [HFL.out]; exact Nat.le_refl _)]; omega
          rw [List.getElem?_eq_getElem hpl] at hcn
          have hgd : (ys ++ sz s).getD (k + m) 0 = (s[m].toNat : Int) := by have := getD_sz ys s m hlt2; rw [HYL.out] at this; exact this
          have H1 : Hid (Row (wr.setCell ⟨N, k + m, none⟩ (.int .u8 (s[m].toNat : Int))) N (part (ys ++ sz s) (k + s.size) (k + (m + 1)))) := by
            rw [← Nat.add_assoc, ← part_succ (ys ++ sz s) (k + s.size) (k + m) (by omega) (by rw [HFL.out]; exact Nat.le_refl _), hgd]; exact hq.set (k + m) _
          have H2 : Hid (Below N w1 (wr.setCell ⟨N, k + m, none⟩ (.int .u8 (s[m].toNat : Int)))) := hbq.setCell (p := ⟨N, k + m, none⟩) (Nat.le_refl _) _
          have H3 : Hid (DataAt (wr.setCell ⟨N, k + m, none⟩ (.int .u8 (s[m].toNat : Int))) a' ys) := hdq.kept ((Kept.refl [N] wr).setCell (p := ⟨N, k + m, none⟩) (by simp) _) (fun g hg => by have := HLT.out g hg; simp; omega)
          clear hq hbq hdq hgd
          go_wp2
          go_roundw
          case rel => exact ⟨m + 1, by omega, by go_num, by simpa using H1.out, by simpa using H3.out, by simpa using H2.out⟩
          case measure => simp [intOf]; omega
        · have hrw : Row wr N (ic (ys ++ sz s)) := by
            have e : k + m = k + s.size := by omega
            rw [e, part_full, List.take_of_length_le (by rw [HFL.out]; exact Nat.le_refl _)] at hq
            exact hq
          clear hq
          have HYK : ys.length = k := HYL.out
          subst HYK
          go_wp2_with (go_at_call 6; refine (bufferOf a' ys.length ys.length _).mono ?_; rintro e w3 ⟨rfl, rfl⟩)
          refine (newJSON wr.heap.size _).mono ?_
          rintro e w4 ⟨w3, z, hz, hzl, hb3, rfl, hw4⟩
          obtain ⟨q1, q2, q3, q4, q5, q6⟩ := made hdq hrw hz hzl hb3 hw4
          have hNb : N < wr.heap.size := hrw.lt
          generalize hbw : w3.heap.size = bw at *
          generalize hbb : wr.heap.size = bb at *
          have hB4 : Below N w1 w4 := hbq.trans (q5.mono (by omega))
          clear hz hzl hb3 hw4 hdq hbq hrw q5
          go_wp2_with (go_at_call 8; refine (jwWriter _ bw _ q4).mono ?_; rintro e w5 ⟨rfl, rfl⟩)
          refine (writeString_any N bw (bb + 1) bb ys z s _ q1 q2 hNb (by omega) (by omega) (by omega)).mono ?_
          rintro e w6 ⟨rfl, hb6, hmid⟩
          clear q1 q2 q4
          have q3' : Row w6 N (ic (ys ++ sz s)) := by unfold Row; rw [hb6.block N (by omega)]; exact q3
          have hB6 : Below N w1 w6 := hB4.trans (hb6.mono (by omega))
          clear q3 hb6 hB4
          go_wp2_with (go_at_call 10; refine (flush_any N bw (bb + 1) bb ys s _ hmid hNb (by omega) (by omega) (by omega)).mono ?_)
          rintro e w7 ⟨rfl, hb7, hrd⟩
          have q4 : Row w7 N (ic (ys ++ sz s)) := by unfold Row; rw [hb7.block N (by omega)]; exact q3'
          have hB7 : Below N w1 w7 := hB6.trans (hb7.mono (by omega))
          clear q3' hb7 hB6 hmid
          have hnn : ∀ w, (binOp .neq 32 .nilIface .nilIface).run Tryd.prog w = .ok (.bool false) w := fun w => Lib.run_neq_nil_nil w Tryd.underlying32
          go_wp2_with (go_at_call 12; refine (bytes_any bb (ys.length + s.size) (ys ++ sz s) _ HFL.out hrd).mono ?_)
          rintro e w8 ⟨ao, c8, rfl, ⟨q8, rfl⟩, hlie⟩
          go_wp2_with (go_at_call 11; refine (same_any ao (ys.length + s.size) c8 N (ys.length + s.size) (ys ++ sz s) _ HFL.out (by omega) (by exact q4) (by exact hlie)).mono ?_)
          rintro e w9 ⟨rfl, hb9⟩
          go_wp2
          go_ret
          have hsz1 := HB1.out.size
          have hsz7 : w1.heap.size ≤ w7.heap.size := hB7.size
          have hb9' : Below N w7 w9 := Below.trans (b := w7.drewN q8) ⟨rfl, rfl, rfl, Nat.le_refl _, fun _ _ => rfl⟩ (hb9.mono (by show N ≤ w7.heap.size; omega))
          exact ⟨rfl, HB1.out.trans ((hB7.trans hb9').mono (by omega))⟩

theorem law_long (a0 : Option Addr) (n c : Nat) (s : ByteArray) (w : World) (hn : n ≤ maxLen) (hs : s.size ≤ maxLen) (h : 65536 < n ∨ 65536 < s.size) :
    Calls Tryd.prog 3 #[.slice a0 n c, .string s] w fun e w' => e = .returned (.bool true) ∧ w' = w := by
  by_cases hb : n + s.size ≤ 1048576
  · by_cases h1 : 65536 < n
    · go_enter Tryd.func3, Tryd.ntmps3
      go_wp2_with (go_at_call 4; refine (bytes_yes a0 n c s _ hb).mono ?_; rintro e w' ⟨rfl, rfl⟩)
      go_ret
      exact ⟨rfl, rfl⟩
    · have h2 : 65536 < s.size := by omega
      go_enter Tryd.func3, Tryd.ntmps3
      go_wp2_with (go_at_call 4; refine (bytes_yes a0 n c s _ hb).mono ?_; rintro e w' ⟨rfl, rfl⟩)
      go_ret
      exact ⟨rfl, rfl⟩
  · go_enter Tryd.func3, Tryd.ntmps3
    go_wp2_with (go_at_call 4; refine (bytes_no a0 n c s _ hn hs (by omega)).mono ?_; rintro e w' ⟨rfl, rfl⟩)
    go_ret
    exact ⟨rfl, rfl⟩

theorem walk (a0 : Option Addr) (n c : Nat) (z0 : List Int) (s : ByteArray) (w : World) (h0 : IsRow .u8 w a0 n c z0) (hs : s.size ≤ maxLen) :
    Calls Tryd.prog 3 #[.slice a0 n c, .string s] w fun e w' => e = .returned (.bool true) ∧ Below w.heap.size w w' := by
  by_cases h : n ≤ 65536 ∧ s.size ≤ 65536
  · exact law_main a0 n c z0 s w h0 h.1 h.2
  · have hn : n ≤ maxLen := by
      rcases h0 with ⟨_, rfl, _⟩ | ⟨_, _, h1, h2, _⟩
      · exact Nat.zero_le _
      · exact Nat.le_trans h1 h2
    refine (law_long a0 n c s w hn hs (by omega)).mono ?_
    rintro e w' ⟨rfl, rfl⟩
    exact ⟨rfl, Below.refl _ _⟩
end Go.Proofs.Qxb6608520aDoor
