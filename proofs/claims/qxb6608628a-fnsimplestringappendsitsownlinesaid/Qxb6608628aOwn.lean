import Derived.Test.Qxb6608628aSplit
import Derived.Laws.IdiomStrings
namespace Go.Proofs.Qxb6608628a
open Go.RowKit

theorem bytes5_yes (a : Option Addr) (n c : Nat) (sent : Int) (s t : ByteArray) (w : World) (h : n + s.size + t.size ≤ 1048576) :
    Calls Try.prog 5 #[.slice a n c, .int .i64 sent, .string s, .string t] w fun e w' => e = .returned (.bool true) ∧ w' = w := by
  go_enter Try.func5, Try.ntmps5
  go_wp2
  go_ret
  exact ⟨rfl, rfl⟩

theorem bytes5_no (a : Option Addr) (n c : Nat) (sent : Int) (s t : ByteArray) (w : World) (hn : n ≤ maxLen) (hs : s.size ≤ maxLen) (ht : t.size ≤ maxLen) (h : 1048576 < n + s.size + t.size) :
    Calls Try.prog 5 #[.slice a n c, .int .i64 sent, .string s, .string t] w fun e w' => e = .returned (.bool false) ∧ w' = w := by
  unfold maxLen at hn hs ht
  go_enter Try.func5, Try.ntmps5
  go_wp2
  all_goals (go_ret; exact ⟨rfl, rfl⟩)

set_option maxRecDepth 100000 in
theorem out3 (a : Option Addr) (n c : Nat) (sent : Int) (s t : ByteArray) (w : World) (hn : n ≤ maxLen) (hs : s.size ≤ maxLen) (ht : t.size ≤ maxLen)
    (h : ¬ (n ≤ 262144 ∧ s.size ≤ 262144 ∧ t.size ≤ 262144 ∧ 0 ≤ sent ∧ sent ≤ n)) :
    Calls Try.prog 3 #[.slice a n c, .int .i64 sent, .string s, .string t] w fun e w' => e = .returned (.bool true) ∧ w' = w := by
  by_cases hz : n + s.size + t.size ≤ 1048576
  · by_cases h1 : n ≤ 262144
    · by_cases h2 : s.size ≤ 262144
      · by_cases h3 : t.size ≤ 262144
        · by_cases h4 : 0 ≤ sent
          · have h5 : (n : Int) < sent := by omega
            clear h
            go_enter Try.func3, Try.ntmps3
            go_wp2_with (go_at_call 5; refine (bytes5_yes a n c sent s t _ hz).mono ?_; rintro e w' ⟨rfl, rfl⟩)
            all_goals (go_ret; exact ⟨rfl, rfl⟩)
          · clear h
            go_enter Try.func3, Try.ntmps3
            go_wp2_with (go_at_call 5; refine (bytes5_yes a n c sent s t _ hz).mono ?_; rintro e w' ⟨rfl, rfl⟩)
            all_goals (go_ret; exact ⟨rfl, rfl⟩)
        · clear h
          go_enter Try.func3, Try.ntmps3
          go_wp2_with (go_at_call 5; refine (bytes5_yes a n c sent s t _ hz).mono ?_; rintro e w' ⟨rfl, rfl⟩)
          all_goals (go_ret; exact ⟨rfl, rfl⟩)
      · clear h
        go_enter Try.func3, Try.ntmps3
        go_wp2_with (go_at_call 5; refine (bytes5_yes a n c sent s t _ hz).mono ?_; rintro e w' ⟨rfl, rfl⟩)
        all_goals (go_ret; exact ⟨rfl, rfl⟩)
    · clear h
      go_enter Try.func3, Try.ntmps3
      go_wp2_with (go_at_call 5; refine (bytes5_yes a n c sent s t _ hz).mono ?_; rintro e w' ⟨rfl, rfl⟩)
      all_goals (go_ret; exact ⟨rfl, rfl⟩)
  · clear h
    go_enter Try.func3, Try.ntmps3
    go_wp2_with (go_at_call 5; refine (bytes5_no a n c sent s t _ hn hs ht (by omega)).mono ?_; rintro e w' ⟨rfl, rfl⟩)
    all_goals (go_ret; exact ⟨rfl, rfl⟩)

/-- lineAfter where nothing was there before. -/
theorem lineAfter0 (go co : Nat) (s : ByteArray) (w : World) (hout : ∀ j, j < (lineOf s).length → w.cell? ⟨go, j, none⟩ = some (.int .u8 ((lineOf s).getD j 0))) (hs : s.size ≤ 1048576) :
    Calls Try.prog 10 #[.slice (some ⟨go, 0, none⟩) (s.size + 3) co, .slice none 0 0, .string s] w fun e w' => e = .returned (.bool true) ∧ Below w.heap.size w w' := by
  have h := lineAfter go co none 0 [] s w hout (.inl ⟨rfl, rfl⟩) (by simp) hs
  rw [List.length_nil, Nat.zero_add] at h
  exact h

set_option maxHeartbeats 400000 in
theorem bytesEqual (ga gb n ca cb : Nat) (zs : List Int) (w : World) (hn : n ≤ 2097152)
    (ha : ∀ i, i < n → w.cell? ⟨ga, i, none⟩ = some (.int .u8 (zs.getD i 0))) (hb : ∀ i, i < n → w.cell? ⟨gb, i, none⟩ = some (.int .u8 (zs.getD i 0))) :
    Calls Try.prog 12 #[.slice (some ⟨ga, 0, none⟩) n ca, .slice (some ⟨gb, 0, none⟩) n cb] w fun e w' => e = .returned (.bool true) ∧ Below w.heap.size w w' := by
  go_enter Try.func12, Try.ntmps12
  go_wp2
  go_loopw [5] (fun i wr => ∃ k : Nat, k ≤ n ∧ i = .int .i64 k ∧ ∃ q, wr = w.drewN q) (fun i _ => n - (intOf i).toNat)
  case atStart => exact ⟨0, Nat.zero_le _, rfl, 0, rfl⟩
  case round =>
    obtain ⟨k, hk, rfl, q, rfl⟩ := hrel
    by_cases hlt : k < n
    · have hax := ha k hlt
      have hbx := hb k hlt
      have hkn : (k : Int) < (n : Int) := by omega
      clear ha hb
      go_wp2
      go_quiet (fail)
      go_wp2
      go_roundw
      case rel => exact ⟨k + 1, by omega, by go_num, _, rfl⟩
      case measure => simp [intOf]; omega
    · go_wp2
      go_ret
      exact ⟨rfl, ⟨rfl, rfl, rfl, Nat.le_refl _, fun _ _ => rfl⟩⟩

/-- A Writer over the nil slice. -/
theorem nil_writer (w : World) : WrAt (w.alloc (.cells #[.slice none 0 0, .int .i64 0] 34)) w.heap.size (.slice none 0 0) 0 ∧ Own (w.alloc (.cells #[.slice none 0 0, .int .i64 0] 34)) w.heap.size (.slice none 0 0) [] :=
  ⟨heap_alloc_new w _, World.ownsRow_nil _ _ _ _⟩

/-- SimpleString on a fresh Writer over nil. -/
theorem fresh (s : ByteArray) (w : World) (hs : s.size ≤ 1048576) :
    Calls Try.prog 8 #[.pointer (some ⟨w.heap.size, 0, none⟩), .string s] (w.alloc (.cells #[.slice none 0 0, .int .i64 0] 34)) fun e w' => e = .returned (.tuple #[]) ∧ ∃ g c, WrAt w' w.heap.size (.slice (some ⟨g, 0, none⟩) (s.size + 3) c) 0 ∧ s.size + 3 ≤ c ∧ c ≤ maxLen ∧ g < w'.heap.size ∧
      (∀ j, j < (lineOf s).length → w'.cell? ⟨g, j, none⟩ = some (.int .u8 ((lineOf s).getD j 0))) ∧ Below w.heap.size w w' := by
  obtain ⟨h1, h2⟩ := nil_writer w
  refine (simpleString w.heap.size w.heap.size none 0 [] 0 s _ h1 h2 (Nat.le_refl _) hs (by simp)).mono ?_
  rintro e w' ⟨rfl, a, c, hw, ho, hb⟩
  rw [List.nil_append] at hw ho
  have hl := lineOf_length s
  rcases id ho.2 with ⟨_, h0⟩ | ⟨g, cap, cur, hv, _, hg, hnc, hcm, _⟩
  · rw [hl] at h0; omega
  · simp at hv
    obtain ⟨rfl, rfl⟩ := hv
    rw [hl] at hw hnc
    rcases ho.at with ⟨h, _⟩ | ⟨g', h, hlt, hr⟩
    · simp at h
    · simp at h
      subst h
      exact ⟨rfl, g, c, hw, hnc, hcm, hlt, hr, Below.trans ((Below.refl _ _).alloc (Nat.le_refl _) _) hb⟩

/-! ### A line's text written again -/
def blankU (c : UInt8) : UInt8 := if c = 13 ∨ c = 10 then 32 else c
theorem blankU_toNat (c : UInt8) : ((blankU c).toNat : Int) = blank (c.toNat : Int) := by
  have h : (c = 13 ∨ c = 10) ↔ ((c.toNat : Int) = 13 ∨ (c.toNat : Int) = 10) := by
    rw [← UInt8.toNat_inj, ← UInt8.toNat_inj]
    show c.toNat = 13 ∨ c.toNat = 10 ↔ _
    omega
  unfold blankU blank
  by_cases hc : c = 13 ∨ c = 10
  · rw [if_pos hc, if_pos (h.1 hc)]; rfl
  · rw [if_neg hc, if_neg (fun e => hc (h.2 e))]
/-- The text between a line's '+' and its end. -/
def midL (s : ByteArray) : List UInt8 := s.data.toList.map blankU
theorem midL_length (s : ByteArray) : (midL s).length = s.size := by unfold midL; rw [List.length_map]; exact (Lib.size_eq s).symm
theorem midL_get (s : ByteArray) (j : Nat) (h : j < (midL s).length) : ((midL s)[j].toNat : Int) = (body s).getD j 0 := by
  have h' : j < s.size := by rw [← midL_length]; exact h
  rw [body_get s j h']
  simp only [midL, List.getElem_map]
  rw [blankU_toNat]
  rfl
def midS (s : ByteArray) : ByteArray := ⟨(midL s).toArray⟩
theorem midS_size (s : ByteArray) : (midS s).size = s.size := by
  rw [Lib.size_eq]
  show (midL s).toArray.toList.length = _
  rw [List.toList_toArray, midL_length]
theorem midS_line (s : ByteArray) : lineOf (midS s) = lineOf s := by
  have : body (midS s) = body s := by
    unfold body sz midS
    show List.map blank (List.map (fun c : UInt8 => (c.toNat : Int)) (midL s).toArray.toList) = _
    rw [List.toList_toArray, midL, List.map_map, List.map_map, List.map_map]
    apply List.map_congr_left
    intro c _
    simp only [Function.comp]
    rw [blankU_toNat, blank_blank]
  unfold lineOf
  rw [this]
end Go.Proofs.Qxb6608628a
