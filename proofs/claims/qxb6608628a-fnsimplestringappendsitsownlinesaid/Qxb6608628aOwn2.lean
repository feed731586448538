import Derived.Test.Qxb6608628aOwn
namespace Go.Proofs.Qxb6608628a
open Go.RowKit

/-- A fact kept from the walk. -/
theorem hide {p : Prop} (h : p) : Hid p := h

/-- A row's bytes, read at a later world. -/
theorem later {w w' : World} {g : Nat} {l : List Int} (h : ∀ j, j < l.length → w.cell? ⟨g, j, none⟩ = some (.int .u8 (l.getD j 0))) (hg : g < w.heap.size) (hb : Below w.heap.size w w') : ∀ j, j < l.length → w'.cell? ⟨g, j, none⟩ = some (.int .u8 (l.getD j 0)) :=
  fun j hj => (hb.cell (p := ⟨g, j, none⟩) hg).trans (h j hj)

set_option maxRecDepth 100000 in
set_option maxHeartbeats 6400000 in
theorem main3 (a : Option Addr) (n c : Nat) (zs : List Int) (sent : Int) (s t : ByteArray) (w : World) (h0 : IsRow .u8 w a n c zs) (hn : n ≤ 262144) (hs : s.size ≤ 262144) (ht : t.size ≤ 262144) (hs1 : 0 ≤ sent) (hs2 : sent ≤ n) :
    Calls Try.prog 3 #[.slice a n c, .int .i64 sent, .string s, .string t] w fun e w' => e = .returned (.bool true) ∧ Below w.heap.size w w' := by
  obtain ⟨Y, hY⟩ : ∃ Y, zs.take n = Y := ⟨_, rfl⟩
  have hYn : Y.length = n := by rw [← hY, List.length_take]; have := h0.le.1; omega
  subst hYn
  have HY : Hid (zs.take Y.length = Y) := hY
  clear hY
  go_enter Try.func3, Try.ntmps3
  go_wp2_with (go_at_call 5; refine (bytes5_yes a _ c sent s t _ (by omega)).mono ?_; rintro e w0 ⟨rfl, rfl⟩)
  refine (clone_own a Y.length c zs _ h0 (by omega)).mono ?_
  rintro e w1 ⟨a0, rfl, o1, b01⟩
  rw [HY.out] at o1
  have i1 := h0.below b01
  have t1 := o1.at
  clear o1 h0
  -- ws
  go_wp2_with (go_at_call 7; refine (newWriter none 0 0 0 _).mono ?_; rintro e w1' ⟨rfl, rfl⟩)
  refine (fresh s w1 (by omega)).mono ?_
  rintro e w2 ⟨rfl, g2, c2, r2, hc2, hm2, hg2, x2, b12⟩
  have X2 := hide x2
  clear x2
  go_wp2_with (go_at_call 9; refine (writerBuf w1.heap.size _ _ _ 0 _ r2).mono ?_; rintro e w2' ⟨rfl, rfl⟩)
  have i2 := i1.below b12
  have t2 := t1.below b12
  clear r2 i1 t1
  -- wt
  refine (newWriter none 0 0 0 _).mono ?_
  rintro e w1' ⟨rfl, rfl⟩
  go_wp2_with fail
  refine (fresh t _ (by omega)).mono ?_
  rintro e w3 ⟨rfl, g3, c3, r3, hc3, hm3, hg3, x3, b23⟩
  have X3 := hide x3
  clear x3
  go_wp2_with (go_at_call 9; refine (writerBuf _ _ _ _ 0 _ r3).mono ?_; rintro e w3' ⟨rfl, rfl⟩)
  have i3 := i2.below b23
  have t3 := t2.below b23
  clear r3 i2 t2
  -- w
  refine (clone_own a Y.length c zs _ i3 (by omega)).mono ?_
  rintro e w4 ⟨a4, rfl, o4, b34⟩
  rw [HY.out] at o4
  have b34s := b34.size
  go_wp2_with (go_at_call 7; refine (newWriter a4 Y.length Y.length sent _).mono ?_; rintro e w5 ⟨rfl, rfl⟩)
  obtain ⟨r5, o5⟩ := laid_writer sent o4
  have b35 := b34.alloc b34s (.cells #[.slice a4 Y.length Y.length, .int .i64 sent] 34)
  clear o4 b34 i3
  generalize w4.heap.size = p4 at *
  generalize w4.alloc (.cells #[.slice a4 Y.length Y.length, .int .i64 sent] 34) = w5 at *
  refine (simpleString _ p4 a4 Y.length Y sent s _ r5 o5 b34s (by omega) (by omega)).mono ?_
  rintro e w6 ⟨rfl, a6, c6, r6, o6, b56⟩
  clear r5 o5
  have e6 : (Y ++ lineOf s).length ≤ 16777216 := by rw [List.length_append, lineOf_length]; omega
  go_wp2_with (go_at_call 8; refine (simpleString _ p4 a6 c6 _ sent t _ r6 o6 b34s (by omega) e6).mono ?_)
  rintro e w7 ⟨rfl, a7, c7, r7, o7, b67⟩
  have b37 := (b35.trans b56).trans b67
  clear r6 o6 b35 b56 b67 e6
  have hX : (Y ++ lineOf s ++ lineOf t).length = Y.length + (s.size + 3) + (t.size + 3) := by rw [List.length_append, List.length_append, lineOf_length, lineOf_length]
  have u7 := o7.at
  clear o7
  rw [hX] at r7
  obtain ⟨g7, rfl, hg7, x7⟩ : ∃ g, a7 = some ⟨g, 0, none⟩ ∧ g < w7.heap.size ∧ ∀ j, j < (Y ++ lineOf s ++ lineOf t).length → w7.cell? ⟨g, j, none⟩ = some (.int .u8 ((Y ++ lineOf s ++ lineOf t).getD j 0)) := by
    rcases u7 with ⟨_, h⟩ | h
    · rw [h] at hX; simp at hX
    · exact h
  have X7 := hide x7
  have HX := hide hX
  have t7 := t3.below b37
  have b27 := hide (b23.trans (b37.mono b23.size))
  have B37 := hide b37
  have B07 := hide (b01.trans ((b12.trans (b27.out.mono b12.size)).mono b01.size))
  clear u7 x7 hX t3 b01 b12 b23 b37
  go_wp2_with (go_at_call 9; refine (writerBuf p4 _ _ _ sent _ r7).mono ?_; rintro e w7' ⟨rfl, rfl⟩)
  refine (lineAfter0 g2 c2 s _ (later X2.out hg2 b27.out) (by omega)).mono ?_
  rintro e w8 ⟨rfl, b78⟩
  have b28 := hide (b27.out.trans (b78.mono b27.out.size))
  have b38 := hide (B37.out.trans (b78.mono B37.out.size))
  have t8 := t7.below b78
  have r8 := r7.below b78
  have X8 := hide (later X7.out hg7 b78)
  have hg8 := Nat.lt_of_lt_of_le hg7 b78.size
  have B08 := hide (B07.out.trans (b78.mono B07.out.size))
  clear b27 B37 t7 r7 X7 hg7 B07 b78
  go_wp2_with fail
  refine (lineAfter0 g3 c3 t _ (later X3.out hg3 b38.out) (by omega)).mono ?_
  rintro e w9 ⟨rfl, b89⟩
  have b29 := hide (b28.out.trans (b89.mono b28.out.size))
  have b39 := hide (b38.out.trans (b89.mono b38.out.size))
  have t9 := t8.below b89
  have r9 := r8.below b89
  have X9 := hide (later X8.out hg8 b89)
  have B09 := hide (B08.out.trans (b89.mono B08.out.size))
  clear b28 b38 t8 r8 X8 hg8 B08 b89
  go_wp2_with (go_at_call 11; refine (writerSent p4 _ sent _ r9).mono ?_; rintro e w9' ⟨rfl, rfl⟩)
  have ls' := lineOf_length s
  have lt' := lineOf_length t
  have y0 : ∀ j, j < Y.length → w9'.cell? ⟨g7, j, none⟩ = some (.int .u8 (Y.getD j 0)) := fun j hj => by
    rw [X9.out j (by rw [HX.out]; omega), List.append_assoc, getD_left _ _ _ hj]
  have y1 : ∀ j, j < s.size + 3 → w9'.cell? ⟨g7, Y.length + j, none⟩ = some (.int .u8 ((lineOf s).getD j 0)) := fun j hj => by
    rw [X9.out _ (by rw [HX.out]; omega), List.append_assoc, getD_right, getD_left _ _ _ (by omega)]
  have y2 : ∀ j, j < t.size + 3 → w9'.cell? ⟨g7, Y.length + (s.size + 3) + j, none⟩ = some (.int .u8 ((lineOf t).getD j 0)) := fun j hj => by
    have e : Y.length + (s.size + 3) + j = (Y ++ lineOf s).length + j := by rw [List.length_append, ls']
    rw [X9.out _ (by rw [HX.out]; omega), e, getD_right]
  have z1 : ∀ j, j < s.size + 3 → w9'.cell? ⟨g2, j, none⟩ = some (.int .u8 ((lineOf s).getD j 0)) := fun j hj => later X2.out hg2 b29.out j (by omega)
  have z2 : ∀ j, j < t.size + 3 → w9'.cell? ⟨g3, j, none⟩ = some (.int .u8 ((lineOf t).getD j 0)) := fun j hj => later X3.out hg3 b39.out j (by omega)
  clear X9 HX r9 ls' lt' b39 X3 hg3
  go_loopw [16] (fun i wr => ∃ j : Nat, j ≤ Y.length ∧ i = .int .i64 j ∧ ∃ q, wr = w9'.drewN q) (fun i _ => Y.length - (intOf i).toNat)
  case atStart => exact ⟨0, Nat.zero_le _, rfl, 0, rfl⟩
  case round =>
    obtain ⟨j, hj, rfl, q, rfl⟩ := hrel
    by_cases hlt : j < Y.length
    · obtain ⟨gb, rfl, hr⟩ : ∃ gb, a0 = some ⟨gb, 0, none⟩ ∧ ∀ j, j < Y.length → w9'.cell? ⟨gb, j, none⟩ = some (.int .u8 (Y.getD j 0)) := by
        rcases t9 with ⟨_, h⟩ | ⟨g, h, _, hr⟩
        · rw [h] at hlt; simp at hlt
        · exact ⟨g, h, hr⟩
      have hax := y0 j hlt
      have hbx := hr j hlt
      have n1 : (j : Int) < (Y.length : Int) := by omega
      have n2 : (j : Int) < (Y.length : Int) + ((s.size : Int) + 3) + ((t.size : Int) + 3) := by omega
      clear y0 y1 y2 z1 z2 hr t9
      go_wp2
      go_quiet (fail)
      go_wp2
      go_roundw
      case rel => exact ⟨j + 1, by omega, by go_num, _, rfl⟩
      case measure => simp [intOf]; omega
    · clear y0 t9
      go_wp2
      go_loopw [17] (fun i wr => ∃ j : Nat, j ≤ s.size + 3 ∧ i = .int .i64 j ∧ ∃ q, wr = w9'.drewN q) (fun i _ => s.size + 3 - (intOf i).toNat)
      case atStart => exact ⟨0, Nat.zero_le _, rfl, q, rfl⟩
      case round =>
        obtain ⟨j1, hj1, rfl, q1, rfl⟩ := hrel
        by_cases hlt1 : j1 < s.size + 3
        · have hax := y1 j1 hlt1
          have hbx := z1 j1 hlt1
          have n1 : (j1 : Int) < (s.size : Int) + 3 := by omega
          have n2 : (Y.length : Int) + (j1 : Int) < (Y.length : Int) + ((s.size : Int) + 3) + ((t.size : Int) + 3) := by omega
          clear y1 y2 z1 z2
          go_wp2
          go_quiet (fail)
          go_wp2
          go_roundw
          case rel => exact ⟨j1 + 1, by omega, by go_num, _, rfl⟩
          case measure => simp [intOf]; omega
        · clear y1
          go_wp2
          go_loopw [18] (fun i wr => ∃ j : Nat, j ≤ t.size + 3 ∧ i = .int .i64 j ∧ ∃ q, wr = w9'.drewN q) (fun i _ => t.size + 3 - (intOf i).toNat)
          case atStart => exact ⟨0, Nat.zero_le _, rfl, q1, rfl⟩
          case round =>
            obtain ⟨j2, hj2, rfl, q2, rfl⟩ := hrel
            by_cases hlt2 : j2 < t.size + 3
            · have hax := y2 j2 hlt2
              have hbx := z2 j2 hlt2
              have n1 : (j2 : Int) < (t.size : Int) + 3 := by omega
              have n2 : (Y.length : Int) + ((s.size : Int) + 3) + (j2 : Int) < (Y.length : Int) + ((s.size : Int) + 3) + ((t.size : Int) + 3) := by omega
              clear y2 z1 z2
              go_wp2
              go_quiet (fail)
              go_wp2
              go_roundw
              case rel => exact ⟨j2 + 1, by omega, by go_num, _, rfl⟩
              case measure => simp [intOf]; omega
            · clear y2 z2
              have Z1 := hide z1
              clear z1
              unfold maxLen at hm2
              have hcv : (convert 22 9 (.slice (some ⟨g2, 1, none⟩) s.size (c2 - 1))).run Try.prog (w9'.drewN q2) = .ok (.string (midS s)) (w9'.drewN q2) := by
                have h := run_convert_bytes_back (P := Try.prog) (w9'.drewN q2) 22 9 5 ⟨g2, 1, none⟩ (c2 - 1) (midL s) Try.underlying22 Try.underlying5 Try.underlying9 (fun j hj => by
                  have hj' : j < s.size := by rw [← midL_length]; exact hj
                  rw [Lib.addr_add, midL_get s j hj]
                  have hz := Z1.out (j + 1) (by omega)
                  rw [lineOf, getD_cons_succ, getD_left _ _ _ (by rw [body_length]; exact hj')] at hz
                  rw [show 1 + j = j + 1 by omega]
                  exact hz)
                rw [midL_length] at h
                exact h
              have hB : Hid (Below w0.heap.size w0 (w9'.drewN q2)) := B09.out.trans ⟨rfl, rfl, rfl, Nat.le_refl _, fun _ _ => rfl⟩
              have hb2 : Hid (Below w2'.heap.size w2' (w9'.drewN q2)) := b29.out.trans ⟨rfl, rfl, rfl, Nat.le_refl _, fun _ _ => rfl⟩
              have hsz : (midS s).size ≤ 1048576 := by rw [midS_size]; omega
              clear Z1 B09 b29
              generalize w9'.drewN q2 = W at *
              go_wp2_with (go_at_call 7; refine (newWriter none 0 0 0 _).mono ?_; rintro e w1' ⟨rfl, rfl⟩)
              refine (fresh (midS s) _ hsz).mono ?_
              rintro e w10 ⟨rfl, g10, c10, r10, hc10, hm10, hg10, x10, b10⟩
              rw [midS_size] at r10
              rw [midS_line] at x10
              have X10 := hide x10
              clear x10 hcv hsz hc10 hm10
              go_wp2_with (go_at_call 9; refine (writerBuf _ _ _ _ 0 _ r10).mono ?_; rintro e w10' ⟨rfl, rfl⟩)
              have hb210 := hb2.out.trans (b10.mono hb2.out.size)
              have hll := lineOf_length s
              refine (bytesEqual g10 g2 (s.size + 3) c10 c2 (lineOf s) _ (by omega) (fun j hj => X10.out j (by omega)) (fun j hj => later X2.out hg2 hb210 j (by omega))).mono ?_
              rintro e w11 ⟨rfl, b11⟩
              have hfin := hide ((hB.out.trans (b10.mono hB.out.size)).trans (b11.mono (Nat.le_trans hB.out.size b10.size)))
              clear b11 b10 hb210 hB hb2 X10
              go_wp2
              go_ret
              exact ⟨rfl, hfin.out⟩
end Go.Proofs.Qxb6608628a
