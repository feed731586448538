import Derived.Test.Qxb6608628aSplit
namespace Go.Proofs.Qxb6608628a
open Go.RowKit

theorem bytes13_yes (a : Option Addr) (n c : Nat) (sent : Int) (s : ByteArray) (k : Int) (w : World) (h : n + s.size ≤ 1048576) :
    Calls Try.prog 13 #[.slice a n c, .int .i64 sent, .string s, .int .i64 k] w fun e w' => e = .returned (.bool true) ∧ w' = w := by
  go_enter Try.func13, Try.ntmps13
  go_wp2
  go_ret
  exact ⟨rfl, rfl⟩

theorem bytes13_no (a : Option Addr) (n c : Nat) (sent : Int) (s : ByteArray) (k : Int) (w : World) (hn : n ≤ maxLen) (hs : s.size ≤ maxLen) (h : 1048576 < n + s.size) :
    Calls Try.prog 13 #[.slice a n c, .int .i64 sent, .string s, .int .i64 k] w fun e w' => e = .returned (.bool false) ∧ w' = w := by
  unfold maxLen at hn hs
  go_enter Try.func13, Try.ntmps13
  go_wp2
  all_goals (go_ret; exact ⟨rfl, rfl⟩)

set_option maxRecDepth 100000 in
theorem out4 (a : Option Addr) (n c : Nat) (sent : Int) (s : ByteArray) (k : Int) (w : World) (hn : n ≤ maxLen) (hs : s.size ≤ maxLen)
    (h : ¬ (n ≤ 524288 ∧ s.size ≤ 524288 ∧ 0 ≤ sent ∧ sent ≤ n ∧ 0 ≤ k ∧ k ≤ s.size)) :
    Calls Try.prog 4 #[.slice a n c, .int .i64 sent, .string s, .int .i64 k] w fun e w' => e = .returned (.bool true) ∧ w' = w := by
  by_cases hz : n + s.size ≤ 1048576
  · by_cases h1 : n ≤ 524288
    · by_cases h2 : s.size ≤ 524288
      · by_cases h3 : 0 ≤ sent
        · by_cases h4 : sent ≤ n
          · by_cases h5 : 0 ≤ k
            · have h6 : (s.size : Int) < k := by omega
              clear h
              go_enter Try.func4, Try.ntmps4
              go_wp2_with (go_at_call 13; refine (bytes13_yes a n c sent s k _ hz).mono ?_; rintro e w' ⟨rfl, rfl⟩)
              all_goals (go_ret; exact ⟨rfl, rfl⟩)
            · clear h
              go_enter Try.func4, Try.ntmps4
              go_wp2_with (go_at_call 13; refine (bytes13_yes a n c sent s k _ hz).mono ?_; rintro e w' ⟨rfl, rfl⟩)
              all_goals (go_ret; exact ⟨rfl, rfl⟩)
          · clear h
            go_enter Try.func4, Try.ntmps4
            go_wp2_with (go_at_call 13; refine (bytes13_yes a n c sent s k _ hz).mono ?_; rintro e w' ⟨rfl, rfl⟩)
            all_goals (go_ret; exact ⟨rfl, rfl⟩)
        · clear h
          go_enter Try.func4, Try.ntmps4
          go_wp2_with (go_at_call 13; refine (bytes13_yes a n c sent s k _ hz).mono ?_; rintro e w' ⟨rfl, rfl⟩)
          all_goals (go_ret; exact ⟨rfl, rfl⟩)
      · clear h
        go_enter Try.func4, Try.ntmps4
        go_wp2_with (go_at_call 13; refine (bytes13_yes a n c sent s k _ hz).mono ?_; rintro e w' ⟨rfl, rfl⟩)
        all_goals (go_ret; exact ⟨rfl, rfl⟩)
    · clear h
      go_enter Try.func4, Try.ntmps4
      go_wp2_with (go_at_call 13; refine (bytes13_yes a n c sent s k _ hz).mono ?_; rintro e w' ⟨rfl, rfl⟩)
      all_goals (go_ret; exact ⟨rfl, rfl⟩)
  · clear h
    go_enter Try.func4, Try.ntmps4
    go_wp2_with (go_at_call 13; refine (bytes13_no a n c sent s k _ hn hs (by omega)).mono ?_; rintro e w' ⟨rfl, rfl⟩)
    all_goals (go_ret; exact ⟨rfl, rfl⟩)

set_option maxHeartbeats 3200000 in
theorem main4 (a : Option Addr) (n c : Nat) (zs : List Int) (sent : Int) (s : ByteArray) (k : Nat) (w : World) (h0 : IsRow .u8 w a n c zs) (hn : n ≤ 524288) (hs : s.size ≤ 524288) (hs1 : 0 ≤ sent) (hs2 : sent ≤ n) (hk : k ≤ s.size) :
    Calls Try.prog 4 #[.slice a n c, .int .i64 sent, .string s, .int .i64 k] w fun e w' => e = .returned (.bool true) ∧ Below w.heap.size w w' := by
  obtain ⟨Y, hY⟩ : ∃ Y, zs.take n = Y := ⟨_, rfl⟩
  have hYn : Y.length = n := by rw [← hY, List.length_take]; have := h0.le.1; omega
  subst hYn
  have HY : Hid (zs.take Y.length = Y) := hY
  clear hY
  go_enter Try.func4, Try.ntmps4
  go_wp2_with (go_at_call 13; refine (bytes13_yes a _ c sent s k _ (by omega)).mono ?_; rintro e w' ⟨rfl, rfl⟩)
  refine (clone_own a Y.length c zs _ h0 (by omega)).mono ?_
  rintro e w1 ⟨a0, rfl, o1, b1⟩
  rw [HY.out] at o1
  have i1 := h0.below b1
  have t1 := o1.at
  clear o1 h0
  -- the first Writer
  go_wp2_with (go_at_call 6; refine (clone_own a Y.length c zs _ i1 (by omega)).mono ?_)
  rintro e w2 ⟨a1, rfl, o2, b2⟩
  rw [HY.out] at o2
  have b2s := b2.size
  go_wp2_with (go_at_call 7; refine (newWriter a1 Y.length Y.length sent _).mono ?_; rintro e w3 ⟨rfl, rfl⟩)
  obtain ⟨r3, o3⟩ := laid_writer sent o2
  have b3 : Below w1.heap.size w1 (w2.alloc (.cells #[.slice a1 Y.length Y.length, .int .i64 sent] 34)) := b2.alloc b2s _
  clear o2 b2
  generalize w2.heap.size = p1 at *
  generalize w2.alloc (.cells #[.slice a1 Y.length Y.length, .int .i64 sent] 34) = w3 at *
  refine (simpleString w1.heap.size p1 a1 Y.length Y sent s _ r3 o3 b2s (by omega) (by omega)).mono ?_
  rintro e w4 ⟨rfl, a4, c4, r4, o4, b4⟩
  have b14 := b3.trans b4
  have i4 := i1.below b14
  have t4 := t1.below b14
  have u4 := o4.at
  clear o3 r3 o4 b4 b3 i1 t1
  -- the second Writer
  go_wp2_with (go_at_call 6; refine (clone_own a Y.length c zs _ i4 (by omega)).mono ?_)
  rintro e w5 ⟨a5, rfl, o5, b5⟩
  rw [HY.out] at o5
  have b5s := b5.size
  go_wp2_with (go_at_call 7; refine (newWriter a5 Y.length Y.length sent _).mono ?_; rintro e w6 ⟨rfl, rfl⟩)
  obtain ⟨r6, o6⟩ := laid_writer sent o5
  have b6 : Below w4.heap.size w4 (w5.alloc (.cells #[.slice a5 Y.length Y.length, .int .i64 sent] 34)) := b5.alloc b5s _
  clear o5 b5 i4
  generalize w5.heap.size = p2 at *
  generalize w5.alloc (.cells #[.slice a5 Y.length Y.length, .int .i64 sent] 34) = w6 at *
  have e1 : (s.extract 0 k).size ≤ 1048576 := by rw [ByteArray.size_extract]; omega
  have e2 : (s.extract k s.size).size ≤ 1048576 := by rw [ByteArray.size_extract]; omega
  have e3 : (Y ++ lineOf (s.extract 0 k)).length ≤ 16777216 := by rw [List.length_append, lineOf_length]; omega
  refine (simpleString w4.heap.size p2 a5 Y.length Y sent (s.extract 0 k) _ r6 o6 b5s e1 (by omega)).mono ?_
  rintro e w7 ⟨rfl, a7, c7, r7, o7, b7⟩
  clear r6 o6
  go_wp2_with (go_at_call 8; refine (simpleString w4.heap.size p2 a7 c7 _ sent (s.extract k s.size) _ r7 o7 b5s e2 e3).mono ?_)
  rintro e w8 ⟨rfl, a8, c8, r8, o8, b8⟩
  have b48 := (b6.trans b7).trans b8
  clear r7 o7 b6 b7 b8 e1 e2 e3
  have u8 := o8.at
  have t8 := t4.below b48
  have v8 := u4.below b48
  have q8 := r4.below b48
  clear o8 t4 u4 r4
  rw [two_lines Y s k] at u8 r8
  have hx2 : (head Y s k ++ ([13, 10, 43] ++ tail s k)).length = Y.length + s.size + 3 + 3 := by simp only [List.length_append, head_length Y s k hk, tail_length, List.length_cons, List.length_nil]; omega
  have hx1 : (Y ++ lineOf s).length = Y.length + s.size + 3 := by rw [List.length_append, lineOf_length]; omega
  rw [hx1] at q8
  rw [hx2] at r8
  obtain ⟨g1, rfl, hg1, x1⟩ : ∃ g, a4 = some ⟨g, 0, none⟩ ∧ g < w8.heap.size ∧ ∀ j, j < (Y ++ lineOf s).length → w8.cell? ⟨g, j, none⟩ = some (.int .u8 ((Y ++ lineOf s).getD j 0)) := by
    rcases v8 with ⟨_, h⟩ | h
    · rw [h] at hx1; simp at hx1
    · exact h
  obtain ⟨g2, rfl, hg2, x2⟩ : ∃ g, a8 = some ⟨g, 0, none⟩ ∧ g < w8.heap.size ∧ ∀ j, j < (head Y s k ++ ([13, 10, 43] ++ tail s k)).length → w8.cell? ⟨g, j, none⟩ = some (.int .u8 ((head Y s k ++ ([13, 10, 43] ++ tail s k)).getD j 0)) := by
    rcases u8 with ⟨_, h⟩ | h
    · rw [h] at hx2; simp at hx2
    · exact h
  clear u8 v8
  have bAll : Hid (Below w1.heap.size w1 w8) := b14.trans (b48.mono b14.size)
  have B1 : Hid (Below w'.heap.size w' w1) := b1
  have X1 : Hid (∀ j, j < (Y ++ lineOf s).length → w8.cell? ⟨g1, j, none⟩ = some (.int .u8 ((Y ++ lineOf s).getD j 0))) := x1
  have X2 : Hid (∀ j, j < (head Y s k ++ ([13, 10, 43] ++ tail s k)).length → w8.cell? ⟨g2, j, none⟩ = some (.int .u8 ((head Y s k ++ ([13, 10, 43] ++ tail s k)).getD j 0))) := x2
  have HX1 : Hid ((Y ++ lineOf s).length = Y.length + s.size + 3) := hx1
  have HX2 : Hid ((head Y s k ++ ([13, 10, 43] ++ tail s k)).length = Y.length + s.size + 3 + 3) := hx2
  clear x1 x2 b14 b48 hx1 hx2 b1
  go_wp2_with fail
  refine (writerBuf p1 _ _ _ sent _ q8).mono ?_
  rintro e w8 ⟨rfl, rfl⟩
  go_wp2_with fail
  refine (writerBuf p2 _ _ _ sent _ r8).mono ?_
  rintro e w8 ⟨rfl, rfl⟩
  go_wp2_with fail
  refine (writerSent p1 _ sent _ q8).mono ?_
  rintro e w8 ⟨rfl, rfl⟩
  go_wp2_with fail
  refine (writerSent p2 _ sent _ r8).mono ?_
  rintro e w8 ⟨rfl, rfl⟩
  go_wp2_with fail
  refine (lineAfter g1 c4 a0 Y.length Y s _ X1.out t8 (by omega) (by omega)).mono ?_
  rintro e w9 ⟨rfl, b9⟩
  have hH := head_length Y s k hk
  have hT := tail_length s k
  have e12 := one_line Y s k
  have y1 : ∀ j, j < Y.length + 1 + k → w9.cell? ⟨g1, j, none⟩ = some (.int .u8 ((head Y s k).getD j 0)) := fun j hj => by
    rw [b9.cell (p := ⟨g1, j, none⟩) hg1, X1.out j (by rw [HX1.out]; omega), e12, getD_left _ _ _ (by omega)]
  have y2 : ∀ j, j < Y.length + 1 + k → w9.cell? ⟨g2, j, none⟩ = some (.int .u8 ((head Y s k).getD j 0)) := fun j hj => by
    rw [b9.cell (p := ⟨g2, j, none⟩) hg2, X2.out j (by rw [HX2.out]; omega), getD_left _ _ _ (by omega)]
  have y3 : ∀ i, i < 3 → w9.cell? ⟨g2, Y.length + 1 + k + i, none⟩ = some (.int .u8 (([13, 10, 43] : List Int).getD i 0)) := fun i hi => by
    have e := getD_right (head Y s k) ([13, 10, 43] ++ tail s k) i
    rw [hH] at e
    rw [b9.cell (p := ⟨g2, Y.length + 1 + k + i, none⟩) hg2, X2.out _ (by rw [HX2.out]; omega), e, getD_left _ _ _ hi]
  have y4 : ∀ i, i < s.size - k + 2 → w9.cell? ⟨g1, Y.length + 1 + k + i, none⟩ = some (.int .u8 ((tail s k).getD i 0)) := fun i hi => by
    have e := getD_right (head Y s k) (tail s k) i
    rw [hH] at e
    rw [b9.cell (p := ⟨g1, Y.length + 1 + k + i, none⟩) hg1, X1.out _ (by rw [HX1.out]; omega), e12, e]
  have y5 : ∀ i, i < s.size - k + 2 → w9.cell? ⟨g2, Y.length + 1 + k + i + 3, none⟩ = some (.int .u8 ((tail s k).getD i 0)) := fun i hi => by
    have e := getD_right (head Y s k) ([13, 10, 43] ++ tail s k) (3 + i)
    have e' := getD_right ([13, 10, 43] : List Int) (tail s k) i
    rw [hH] at e
    rw [show Y.length + 1 + k + i + 3 = Y.length + 1 + k + (3 + i) by omega, b9.cell (p := ⟨g2, Y.length + 1 + k + (3 + i), none⟩) hg2, X2.out _ (by rw [HX2.out]; omega), e]
    rw [show 3 + i = ([13, 10, 43] : List Int).length + i from rfl, e']
  have z0 : w9.cell? ⟨g2, Y.length + 1 + k, none⟩ = some (.int .u8 13) := y3 0 (by omega)
  have z1 : w9.cell? ⟨g2, Y.length + 1 + k + 1, none⟩ = some (.int .u8 10) := y3 1 (by omega)
  have z2 : w9.cell? ⟨g2, Y.length + 1 + k + 2, none⟩ = some (.int .u8 43) := y3 2 (by omega)
  have BA : Hid (Below w'.heap.size w' w9) := B1.out.trans ((bAll.out.trans (b9.mono bAll.out.size)).mono B1.out.size)
  clear y3 e12 hH hT b9 t8 q8 r8
  go_wp2_with fail
  go_loopw [15] (fun i wr => ∃ j : Nat, j ≤ Y.length + 1 + k ∧ i = .int .i64 j ∧ ∃ q, wr = w9.drewN q) (fun i _ => Y.length + 1 + k - (intOf i).toNat)
  case atStart => exact ⟨0, Nat.zero_le _, rfl, 0, rfl⟩
  case round =>
    obtain ⟨j, hj, rfl, q, rfl⟩ := hrel
    by_cases hlt : j < Y.length + 1 + k
    · have hax := y1 j hlt
      have hbx := y2 j hlt
      have n1 : (j : Int) < (Y.length : Int) + s.size + 3 := by omega
      have n2 : (j : Int) < (Y.length : Int) + s.size + 3 + 3 := by omega
      clear y1 y2 y4 y5 z0 z1 z2
      go_wp2
      go_quiet (fail)
      go_wp2
      go_roundw
      case rel => exact ⟨j + 1, by omega, by go_num, _, rfl⟩
      case measure => simp [intOf]; omega
    · clear y1 y2
      go_wp2
      clear z0 z1 z2
      go_loopw [16] (fun i wr => ∃ j : Nat, Y.length + 1 + k ≤ j ∧ j ≤ Y.length + s.size + 3 ∧ i = .int .i64 j ∧ ∃ q, wr = w9.drewN q) (fun i _ => Y.length + s.size + 3 - (intOf i).toNat)
      case atStart => exact ⟨Y.length + 1 + k, Nat.le_refl _, by omega, by go_num, q, rfl⟩
      case round =>
        obtain ⟨j2, hj2, hj3, rfl, q2, rfl⟩ := hrel
        by_cases hlt2 : j2 < Y.length + s.size + 3
        · have hax := y4 (j2 - (Y.length + 1 + k)) (by omega)
          have hbx := y5 (j2 - (Y.length + 1 + k)) (by omega)
          rw [show Y.length + 1 + k + (j2 - (Y.length + 1 + k)) = j2 by omega] at hax hbx
          have n1 : (j2 : Int) < (Y.length : Int) + s.size + 3 := by omega
          have n2 : (j2 : Int) + 3 < (Y.length : Int) + s.size + 3 + 3 := by omega
          clear y4 y5
          go_wp2
          go_quiet (fail)
          go_wp2
          go_roundw
          case rel => exact ⟨j2 + 1, by omega, by omega, by go_num, _, rfl⟩
          case measure => simp [intOf]; omega
        · clear y4 y5
          go_wp2
          go_ret
          exact ⟨rfl, BA.out.trans ⟨rfl, rfl, rfl, Nat.le_refl _, fun _ _ => rfl⟩⟩
end Go.Proofs.Qxb6608628a
