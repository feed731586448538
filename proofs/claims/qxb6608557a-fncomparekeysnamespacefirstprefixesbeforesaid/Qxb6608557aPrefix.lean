import Derived.Test.Qxb6608557aKeys
namespace Go.Proofs.Qxb6608557a
open Go.RowKit

theorem cmpL_prefix (x t : List UInt8) (h : t ≠ []) : cmpL x (x ++ t) = -1 := by
  induction x with
  | nil => cases t with
    | nil => exact absurd rfl h
    | cons a t => rfl
  | cons a x ih => simp [cmpL, ih]

theorem bytes9_yes (a b c d : ByteArray) (w : World) (h : a.size + b.size + c.size + d.size ≤ 1048576) :
    Calls Try.prog 9 #[.string a, .string b, .string c, .string d] w fun e w' => e = .returned (.bool true) ∧ w' = w := by
  go_enter Try.func9, Try.ntmps9
  go_wp2
  go_ret
  exact ⟨rfl, rfl⟩

theorem bytes9_no (a b c d : ByteArray) (w : World) (ha : a.size ≤ maxLen) (hb : b.size ≤ maxLen) (hc : c.size ≤ maxLen) (hd : d.size ≤ maxLen) (h : 1048576 < a.size + b.size + c.size + d.size) :
    Calls Try.prog 9 #[.string a, .string b, .string c, .string d] w fun e w' => e = .returned (.bool false) ∧ w' = w := by
  unfold maxLen at ha hb hc hd
  go_enter Try.func9, Try.ntmps9
  go_wp2
  all_goals (go_ret; exact ⟨rfl, rfl⟩)

/-- Too long: true at once. -/
theorem long4 (a b c d : ByteArray) (w : World) (ha : a.size ≤ maxLen) (hb : b.size ≤ maxLen) (hc : c.size ≤ maxLen) (hd : d.size ≤ maxLen) (h : ¬ (a.size ≤ 262144 ∧ b.size ≤ 262144 ∧ c.size ≤ 262144 ∧ d.size ≤ 262144)) :
    Calls Try.prog 4 #[.string a, .string b, .string c, .string d] w fun e w' => e = .returned (.bool true) ∧ w' = w := by
  by_cases hs : a.size + b.size + c.size + d.size ≤ 1048576
  · by_cases h1 : a.size ≤ 262144
    · by_cases h2 : b.size ≤ 262144
      · by_cases h3 : c.size ≤ 262144
        · have h4 : 262144 < d.size := by omega
          go_enter Try.func4, Try.ntmps4
          go_wp2_with (go_at_call 9; refine (bytes9_yes a b c d _ hs).mono ?_; rintro e w' ⟨rfl, rfl⟩)
          go_ret
          exact ⟨rfl, rfl⟩
        · go_enter Try.func4, Try.ntmps4
          go_wp2_with (go_at_call 9; refine (bytes9_yes a b c d _ hs).mono ?_; rintro e w' ⟨rfl, rfl⟩)
          go_ret
          exact ⟨rfl, rfl⟩
      · go_enter Try.func4, Try.ntmps4
        go_wp2_with (go_at_call 9; refine (bytes9_yes a b c d _ hs).mono ?_; rintro e w' ⟨rfl, rfl⟩)
        go_ret
        exact ⟨rfl, rfl⟩
    · go_enter Try.func4, Try.ntmps4
      go_wp2_with (go_at_call 9; refine (bytes9_yes a b c d _ hs).mono ?_; rintro e w' ⟨rfl, rfl⟩)
      go_ret
      exact ⟨rfl, rfl⟩
  · go_enter Try.func4, Try.ntmps4
    go_wp2_with (go_at_call 9; refine (bytes9_no a b c d _ ha hb hc hd (by omega)).mono ?_; rintro e w' ⟨rfl, rfl⟩)
    go_ret
    exact ⟨rfl, rfl⟩

theorem append_toList (x y : ByteArray) : (x ++ y).toList = x.toList ++ y.toList := by
  rw [Lib.toList_data, Lib.toList_data, Lib.toList_data]
  simp

theorem keys_neg (a b c d : List UInt8) : keyCmp c d a b = - keyCmp a b c d := by
  unfold keyCmp orI
  rw [cmpL_neg a c, cmpL_neg b d]
  by_cases h : cmpL a c = 0
  · simp [h]
  · rw [if_neg h, if_neg (by omega)]

/-- What the law wants. -/
def want (t u : List UInt8) : Int := if t.isEmpty then (if u.isEmpty then 0 else 1) else -1

theorem keys_want (ns nm t u : List UInt8) : keyCmp ns (nm ++ u) (ns ++ t) nm = want t u := by
  unfold keyCmp orI want
  cases t with
  | cons a t => rw [cmpL_prefix ns (a :: t) (by simp)]; simp
  | nil =>
    rw [List.append_nil, cmpL_self]
    cases u with
    | nil => rw [List.append_nil, cmpL_self]; simp
    | cons a u =>
      rw [cmpL_neg nm (nm ++ a :: u), cmpL_prefix nm (a :: u) (by simp)]
      simp

/-- The two keys' cells behind a call that turns nothing old. -/
theorem old_cells {w w1 : World} {a b c d : Value} (h : Below ((w.alloc (.cells #[a, b] 24)).alloc (.cells #[c, d] 24)).heap.size ((w.alloc (.cells #[a, b] 24)).alloc (.cells #[c, d] 24)) w1) :
    w1.cell? ⟨w.heap.size, 0, none⟩ = some a ∧ w1.cell? ⟨w.heap.size, 1, none⟩ = some b ∧ w1.cell? ⟨w.heap.size + 1, 0, none⟩ = some c ∧ w1.cell? ⟨w.heap.size + 1, 1, none⟩ = some d := by
  have hs : ((w.alloc (.cells #[a, b] 24)).alloc (.cells #[c, d] 24)).heap.size = w.heap.size + 2 := by simp
  have e0 : w1.heap[w.heap.size]? = some (.cells #[a, b] 24 (0, 0)) := by
    rw [h.block _ (by omega), Below.heap_alloc _ _ _ (by simp)]
    exact heap_alloc_new w _
  have e1 : w1.heap[w.heap.size + 1]? = some (.cells #[c, d] 24 (0, 0)) := by
    rw [h.block _ (by omega)]
    have := heap_alloc_new (w.alloc (.cells #[a, b] 24)) (.cells #[c, d] 24)
    simpa using this
  refine ⟨?_, ?_, ?_, ?_⟩
  · rw [cell_of_row _ _ 0 _ _ _ e0]; rfl
  · rw [cell_of_row _ _ 1 _ _ _ e0]; rfl
  · rw [cell_of_row _ _ 0 _ _ _ e1]; rfl
  · rw [cell_of_row _ _ 1 _ _ _ e1]; rfl

set_option maxHeartbeats 800000 in
theorem main4 (ns nm t u : ByteArray) (w : World) (h1 : ns.size ≤ 262144) (h2 : nm.size ≤ 262144) (h3 : t.size ≤ 262144) (h4 : u.size ≤ 262144) :
    Calls Try.prog 4 #[.string ns, .string nm, .string t, .string u] w fun e w' => e = .returned (.bool true) ∧ Below w.heap.size w w' := by
  have k1 : keyCmp ns.toList (nm ++ u).toList (ns ++ t).toList nm.toList = want t.toList u.toList := by rw [append_toList, append_toList]; exact keys_want _ _ _ _
  have k2 : keyCmp (ns ++ t).toList nm.toList ns.toList (nm ++ u).toList = - want t.toList u.toList := by rw [keys_neg ns.toList (nm ++ u).toList, k1]
  obtain ⟨W, hW⟩ : ∃ W, want t.toList u.toList = W := ⟨_, rfl⟩
  rw [hW] at k1 k2
  unfold want at hW
  cases ht : t.toList.isEmpty <;> cases hu : u.toList.isEmpty <;> rw [ht] at hW <;> rw [hu] at hW <;> simp only [if_true, if_false, Bool.false_eq_true] at hW <;> subst hW
  all_goals
    go_enter Try.func4, Try.ntmps4
    go_wp2_with (go_at_call 9; refine (bytes9_yes ns nm t u _ (by omega)).mono ?_; rintro e w' ⟨rfl, rfl⟩)
    refine (compareKeys _ _ _ _ _).mono ?_
    rintro e w1 ⟨rfl, hb1⟩
    obtain ⟨c0, c1, c2, c3⟩ := old_cells hb1
    have HB1 := hb1
    have HB : Hid _ := hb1
    clear hb1
    go_wp2_with (go_at_call 8; refine (compareKeys _ _ _ _ _).mono ?_)
    rintro e w2 ⟨rfl, hb2⟩
    go_wp2
    go_ret
    refine ⟨rfl, ?_⟩
    exact ((((Below.refl _ _).alloc (Nat.le_refl _) _).alloc (by simp) _).trans (HB1.mono (by simp; omega))).trans (hb2.mono (by have := HB1.size; simp at this; omega))
end Go.Proofs.Qxb6608557a
