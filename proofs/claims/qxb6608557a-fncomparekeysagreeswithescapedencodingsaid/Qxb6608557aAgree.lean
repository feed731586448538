import Derived.Test.Qxb6608557aEnc
namespace Go.Proofs.Qxb6608557a
open Go.RowKit

theorem bytes5_yes (a b c d : ByteArray) (w : World) (h : a.size + b.size + c.size + d.size ≤ 1048576) :
    Calls Try.prog 5 #[.string a, .string b, .string c, .string d] w fun e w' => e = .returned (.bool true) ∧ w' = w := by
  go_enter Try.func5, Try.ntmps5
  go_wp2
  go_ret
  exact ⟨rfl, rfl⟩

theorem bytes5_no (a b c d : ByteArray) (w : World) (ha : a.size ≤ maxLen) (hb : b.size ≤ maxLen) (hc : c.size ≤ maxLen) (hd : d.size ≤ maxLen) (h : 1048576 < a.size + b.size + c.size + d.size) :
    Calls Try.prog 5 #[.string a, .string b, .string c, .string d] w fun e w' => e = .returned (.bool false) ∧ w' = w := by
  unfold maxLen at ha hb hc hd
  go_enter Try.func5, Try.ntmps5
  go_wp2
  all_goals (go_ret; exact ⟨rfl, rfl⟩)

/-- Too long: true at once. -/
theorem long3 (a b c d : ByteArray) (w : World) (ha : a.size ≤ maxLen) (hb : b.size ≤ maxLen) (hc : c.size ≤ maxLen) (hd : d.size ≤ maxLen) (h : ¬ (a.size ≤ 262144 ∧ b.size ≤ 262144 ∧ c.size ≤ 262144 ∧ d.size ≤ 262144)) :
    Calls Try.prog 3 #[.string a, .string b, .string c, .string d] w fun e w' => e = .returned (.bool true) ∧ w' = w := by
  by_cases hs : a.size + b.size + c.size + d.size ≤ 1048576
  · by_cases h1 : a.size ≤ 262144
    · by_cases h2 : b.size ≤ 262144
      · by_cases h3 : c.size ≤ 262144
        · have h4 : 262144 < d.size := by omega
          go_enter Try.func3, Try.ntmps3
          go_wp2_with (go_at_call 5; refine (bytes5_yes a b c d _ hs).mono ?_; rintro e w' ⟨rfl, rfl⟩)
          go_ret
          exact ⟨rfl, rfl⟩
        · go_enter Try.func3, Try.ntmps3
          go_wp2_with (go_at_call 5; refine (bytes5_yes a b c d _ hs).mono ?_; rintro e w' ⟨rfl, rfl⟩)
          go_ret
          exact ⟨rfl, rfl⟩
      · go_enter Try.func3, Try.ntmps3
        go_wp2_with (go_at_call 5; refine (bytes5_yes a b c d _ hs).mono ?_; rintro e w' ⟨rfl, rfl⟩)
        go_ret
        exact ⟨rfl, rfl⟩
    · go_enter Try.func3, Try.ntmps3
      go_wp2_with (go_at_call 5; refine (bytes5_yes a b c d _ hs).mono ?_; rintro e w' ⟨rfl, rfl⟩)
      go_ret
      exact ⟨rfl, rfl⟩
  · go_enter Try.func3, Try.ntmps3
    go_wp2_with (go_at_call 5; refine (bytes5_no a b c d _ ha hb hc hd (by omega)).mono ?_; rintro e w' ⟨rfl, rfl⟩)
    go_ret
    exact ⟨rfl, rfl⟩

theorem keys_neg (a b c d : List UInt8) : keyCmp c d a b = - keyCmp a b c d := by
  unfold keyCmp orI
  rw [cmpL_neg a c, cmpL_neg b d]
  by_cases h : cmpL a c = 0
  · simp [h]
  · rw [if_neg h, if_neg (by omega)]

theorem keys_self (a b : List UInt8) : keyCmp a b a b = 0 := by
  unfold keyCmp orI
  rw [cmpL_self, cmpL_self]; rfl

theorem keys_bound (a b c d : List UInt8) : -1 ≤ keyCmp a b c d ∧ keyCmp a b c d ≤ 1 := by
  have h1 := cmpL_cases a c
  have h2 := cmpL_cases b d
  unfold keyCmp orI
  split <;> omega

/-- The two keys' cells behind calls that turn nothing old. -/
theorem old_cells {w w1 : World} {a b c d : Value} (h : Below ((w.alloc (.cells #[a, b] 24)).alloc (.cells #[c, d] 24)).heap.size ((w.alloc (.cells #[a, b] 24)).alloc (.cells #[c, d] 24)) w1) :
    w1.cell? ⟨w.heap.size, 0, none⟩ = some a ∧ w1.cell? ⟨w.heap.size, 1, none⟩ = some b ∧ w1.cell? ⟨w.heap.size + 1, 0, none⟩ = some c ∧ w1.cell? ⟨w.heap.size + 1, 1, none⟩ = some d := by
  have hs : ((w.alloc (.cells #[a, b] 24)).alloc (.cells #[c, d] 24)).heap.size = w.heap.size + 2 := by simp
  have e0 : w1.heap[w.heap.size]? = some (.cells #[a, b] 24 (0, 0)) := by
    rw [h.block _ (by omega), Below.heap_alloc _ _ _ (by simp)]
    exact heap_alloc_new w _
  have e1 : w1.heap[w.heap.size + 1]? = some (.cells #[c, d] 24 (0, 0)) := by
    rw [h.block _ (by omega)]
    have := heap_alloc_new (w.alloc (.cells #[a, b] 24)) (.cells #[c, d] 24)
    simpa using this
  refine ⟨?_, ?_, ?_, ?_⟩
  · rw [cell_of_row _ _ 0 _ _ _ e0]; rfl
  · rw [cell_of_row _ _ 1 _ _ _ e0]; rfl
  · rw [cell_of_row _ _ 0 _ _ _ e1]; rfl
  · rw [cell_of_row _ _ 1 _ _ _ e1]; rfl

set_option maxHeartbeats 1600000 in
theorem main3 (a b c d : ByteArray) (w : World) (h1 : a.size ≤ 262144) (h2 : b.size ≤ 262144) (h3 : c.size ≤ 262144) (h4 : d.size ≤ 262144) :
    Calls Try.prog 3 #[.string a, .string b, .string c, .string d] w fun e w' => e = .returned (.bool true) ∧ Below w.heap.size w w' := by
  obtain ⟨K, hK⟩ : ∃ K, keyCmp a.toList b.toList c.toList d.toList = K := ⟨_, rfl⟩
  have hb := keys_bound a.toList b.toList c.toList d.toList
  rw [hK] at hb
  obtain ⟨hb1, hb2⟩ := hb
  have k2 : keyCmp c.toList d.toList a.toList b.toList = -K := by rw [keys_neg a.toList b.toList, hK]
  have k3 : keyCmp a.toList b.toList a.toList b.toList = 0 := keys_self _ _
  have k4 : cmpL (encKey a.data.toList b.data.toList) (encKey c.data.toList d.data.toList) = K := by
    rw [cmp_enc, ← Lib.toList_data, ← Lib.toList_data, ← Lib.toList_data, ← Lib.toList_data]; exact hK
  have la := encKey_len a.data.toList b.data.toList
  have lc := encKey_len c.data.toList d.data.toList
  have pa : 1 ≤ (encKey a.data.toList b.data.toList).length := by simp only [encKey, List.length_append, List.length_cons]; omega
  have pc : 1 ≤ (encKey c.data.toList d.data.toList).length := by simp only [encKey, List.length_append, List.length_cons]; omega
  rw [← Lib.size_eq, ← Lib.size_eq] at la lc
  have HK : Hid (keyCmp a.toList b.toList c.toList d.toList = K) := hK
  have HK2 : Hid (keyCmp c.toList d.toList a.toList b.toList = -K) := k2
  have HK3 : Hid (keyCmp a.toList b.toList a.toList b.toList = 0) := k3
  have HK4 : Hid (cmpL (encKey a.data.toList b.data.toList) (encKey c.data.toList d.data.toList) = K) := k4
  clear hK k2 k3 k4
  go_enter Try.func3, Try.ntmps3
  go_wp2_with (go_at_call 5; refine (bytes5_yes a b c d _ (by omega)).mono ?_; rintro e w' ⟨rfl, rfl⟩)
  refine (encodeKey a b _ h1 h2).mono ?_
  rintro e w1 ⟨v1, rfl, o1, b1⟩
  go_wp2_with (go_at_call 7; refine (encodeKey c d _ h3 h4).mono ?_)
  rintro e w2 ⟨v2, rfl, o2, b2⟩
  have o1' : Own w2 ((w'.alloc (.cells #[.string a, .string b] 24)).alloc (.cells #[.string c, .string d] 24)).heap.size v1 (encKey a.data.toList b.data.toList) := by
    refine World.ownsRow.kept (row := none) o1 ⟨b2.os, b2.tape, b2.output, b2.size, fun k hk _ => b2.block k hk⟩ ?_
    cases hv : v1.ownBlock with
    | none => exact .inl rfl
    | some g => exact .inr (by simp)
  have b12 : Below ((w'.alloc (.cells #[.string a, .string b] 24)).alloc (.cells #[.string c, .string d] 24)).heap.size ((w'.alloc (.cells #[.string a, .string b] 24)).alloc (.cells #[.string c, .string d] 24)) w2 := b1.trans (b2.mono b1.size)
  clear b1 b2 o1
  obtain ⟨g1, c1, rfl, _, r1⟩ := o1'.slice pa
  obtain ⟨g2, c2, rfl, _, r2⟩ := o2.slice pc
  clear o1' o2
  go_wp2_with (go_at_call 6; refine (compareBytes g1 g2 c1 c2 _ _ _ (by omega) (by omega) r1 r2).mono ?_)
  rintro e w3 ⟨rfl, b3⟩
  rw [HK4.out]
  have b13 := b12.trans (b3.mono b12.size)
  obtain ⟨c0, c1', c2', c3⟩ := old_cells b13
  clear r1 r2 b12 b3
  go_wp2_with (go_at_call 8; refine (compareKeys _ _ _ _ _).mono ?_)
  rintro e w4 ⟨rfl, b4⟩
  rw [HK.out]
  have b14 := b13.trans (b4.mono b13.size)
  clear c0 c1' c2' c3 b13 b4
  obtain ⟨c0, c1', c2', c3⟩ := old_cells b14
  go_wp2_with (go_at_call 8; refine (compareKeys _ _ _ _ _).mono ?_)
  rintro e w5 ⟨rfl, b5⟩
  rw [HK2.out]
  have b15 := b14.trans (b5.mono b14.size)
  clear c0 c1' c2' c3 b14 b5
  obtain ⟨c0, c1', c2', c3⟩ := old_cells b15
  go_wp2_with (go_at_call 8; refine (compareKeys _ _ _ _ _).mono ?_)
  rintro e w6 ⟨rfl, b6⟩
  rw [HK3.out]
  have b16 := b15.trans (b6.mono b15.size)
  clear c0 c1' c2' c3 b15 b6
  go_wp2
  go_ret
  exact ⟨rfl, (((Below.refl _ _).alloc (Nat.le_refl _) _).alloc (by simp) _).trans (b16.mono (by simp; omega))⟩
end Go.Proofs.Qxb6608557a
