import Derived.Test.Qxb6608747aSink
namespace Go.Proofs.Qxb6608747a
open Go.RowKit

/-- The k-th piece. -/
def pc (ss : List ByteArray) (k : Nat) : ByteArray := ss.getD k ByteArray.empty
/-- The bytes of the first k pieces together: how many, and which. -/
def tot (ss : List ByteArray) : Nat → Nat
  | 0 => 0
  | k + 1 => tot ss k + (pc ss k).size
def flat (ss : List ByteArray) : Nat → List UInt8
  | 0 => []
  | k + 1 => flat ss k ++ (pc ss k).data.toList
theorem flat_length (ss : List ByteArray) (k : Nat) : (flat ss k).length = tot ss k := by
  induction k with
  | zero => rfl
  | succ k ih => rw [flat, tot, List.length_append, ih, ← Lib.size_eq]
theorem tot_mono (ss : List ByteArray) {j k : Nat} (h : j ≤ k) : tot ss j ≤ tot ss k := by
  induction k with
  | zero => obtain rfl : j = 0 := by omega
            exact Nat.le_refl _
  | succ k ih =>
    rcases Nat.lt_or_ge k j with h1 | h1
    · obtain rfl : j = k + 1 := by omega
      exact Nat.le_refl _
    · have := ih h1
      rw [tot]; omega
theorem pc_le (ss : List ByteArray) {k n : Nat} (h : k < n) : tot ss k + (pc ss k).size ≤ tot ss n := tot_mono ss (j := k + 1) h

/-- The n pieces lie where the slice says. -/
def PAt (w : World) (a : Option Addr) (n : Nat) (ss : List ByteArray) : Prop :=
  n = 0 ∨ ∃ g off, a = some ⟨g, off, none⟩ ∧ g < w.heap.size ∧ ∀ j, j < n → w.cell? ⟨g, off + j, none⟩ = some (.string (pc ss j))

theorem PAt.below {w w' : World} {B : Nat} {a : Option Addr} {n : Nat} {ss : List ByteArray} (h : PAt w a n ss) (hb : Below B w w') (hB : w.heap.size ≤ B) : PAt w' a n ss := by
  rcases h with h | ⟨g, off, rfl, hlt, hr⟩
  · exact .inl h
  · exact .inr ⟨g, off, rfl, Nat.lt_of_lt_of_le hlt hb.size, fun j hj => (hb.cell (p := ⟨g, off + j, none⟩) (Nat.lt_of_lt_of_le hlt hB)).trans (hr j hj)⟩

/-- What the bound on the lengths answers. -/
def Told (ss : List ByteArray) (n : Nat) (e : Ending) : Prop := e = .returned (.bool false) ∨ (e = .returned (.bool true) ∧ n + tot ss n ≤ 1048576)

set_option maxHeartbeats 800000 in
theorem bytes4 (start : Int) (a : Option Addr) (n c : Nat) (ss : List ByteArray) (w : World) (h : PAt w a n ss) (hn : n ≤ maxLen) (hs : ∀ j, j < n → (pc ss j).size ≤ maxLen) :
    Calls Try.prog 4 #[.int .i64 start, .slice a n c] w fun e w' => Told ss n e ∧ w' = w := by
  unfold maxLen at hn
  by_cases hbig : 1048576 < n
  · go_enter Try.func4, Try.ntmps4
    go_wp2
    go_ret
    exact ⟨.inl rfl, rfl⟩
  · have HS := hide hs
    clear hs
    go_enter Try.func4, Try.ntmps4
    go_wp2
    go_loop [5, 6] (fun z i => ∃ k : Nat, k ≤ n ∧ i = .int .i64 k ∧ n + tot ss k ≤ 1048576 ∧ z = .int .i64 ((n : Int) + (tot ss k : Nat))) (fun _ i => n - (intOf i).toNat)
    case atStart => exact ⟨0, Nat.zero_le _, rfl, by simp [tot]; omega, by simp [tot]⟩
    case round =>
      obtain ⟨k, hk, rfl, hle, rfl⟩ := hrel
      by_cases hlt : k < n
      · obtain ⟨g, off, rfl, hr⟩ : ∃ g off, a = some ⟨g, off, none⟩ ∧ ∀ j, j < n → w.cell? ⟨g, off + j, none⟩ = some (.string (pc ss j)) := by
          rcases h with h | ⟨g, off, h1, _, h2⟩
          · omega
          · exact ⟨g, off, h1, h2⟩
        have hcx := hr k hlt
        have hsz := HS.out k hlt
        unfold maxLen at hsz
        have HT := hide (show tot ss (k + 1) = tot ss k + (pc ss k).size from rfl)
        generalize pc ss k = s at *
        generalize tot ss k = tk at *
        clear hr h
        by_cases h1 : 1048576 < s.size
        · go_wp2
          go_ret
          exact ⟨.inl rfl, rfl⟩
        · by_cases h2 : 1048576 < n + tk + s.size
          · go_wp2
            go_ret
            exact ⟨.inl rfl, rfl⟩
          · go_wp2
            go_round
            case rel => exact ⟨k + 1, by omega, by go_num, by rw [HT.out]; omega, by rw [HT.out]; go_num⟩
            case measure => simp [intOf]; omega
      · obtain rfl : k = n := by omega
        have HL := hide hle
        clear hle
        go_wp2
        go_ret
        exact ⟨.inr ⟨rfl, HL.out⟩, rfl⟩
end Go.Proofs.Qxb6608747a
