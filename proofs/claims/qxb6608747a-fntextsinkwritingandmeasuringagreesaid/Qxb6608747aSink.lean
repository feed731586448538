import Derived.Test.Qxb6608747aBuild
namespace Go.Proofs.Qxb6608747a
open Go.RowKit

theorem hide {p : Prop} (h : p) : Hid p := h

/-- The two sinks: a strings.Builder in block N that holds the bytes l; the writing sink behind it, its count n; the measuring sink, its count m. -/
def Sinks (w : World) (N : Nat) (l : List UInt8) (n m : Int) : Prop :=
  Lib.IsBuilder 32 5 N N (Lib.byteCells l) w ∧ w.heap[N + 1]? = some (.cells #[.pointer (some ⟨N, 0, none⟩), .int .i64 n] 34 (0, 0)) ∧ w.heap[N + 2]? = some (.cells #[.pointer none, .int .i64 m] 34 (0, 0))

theorem newWriting (start : Int) (w : World) :
    Calls Try.prog 5 #[.int .i64 start] w fun e w' => e = .returned (.pointer (some ⟨w.heap.size + 1, 0, none⟩)) ∧ w' = (w.alloc (.cells #[.pointer none, .slice none 0 0] 32)).alloc (.cells #[.pointer (some ⟨w.heap.size, 0, none⟩), .int .i64 start] 34) := by
  go_enter Try.func5, Try.ntmps5
  go_wp2
  go_ret
  exact ⟨rfl, rfl⟩

theorem newMeasuring (start : Int) (w : World) :
    Calls Try.prog 6 #[.int .i64 start] w fun e w' => e = .returned (.pointer (some ⟨w.heap.size, 0, none⟩)) ∧ w' = w.alloc (.cells #[.pointer none, .int .i64 start] 34) := by
  go_enter Try.func6, Try.ntmps6
  go_wp2
  go_ret
  exact ⟨rfl, rfl⟩

theorem made (start : Int) (w : World) : Sinks (((w.alloc (.cells #[.pointer none, .slice none 0 0] 32)).alloc (.cells #[.pointer (some ⟨w.heap.size, 0, none⟩), .int .i64 start] 34)).alloc (.cells #[.pointer none, .int .i64 start] 34)) w.heap.size [] start start := by
  have s1 : (w.alloc (.cells #[.pointer none, .slice none 0 0] 32)).heap.size = w.heap.size + 1 := by simp
  have s2 : ((w.alloc (.cells #[.pointer none, .slice none 0 0] 32)).alloc (.cells #[.pointer (some ⟨w.heap.size, 0, none⟩), .int .i64 start] 34)).heap.size = w.heap.size + 2 := by simp
  refine ⟨.inl ⟨Nat.le_refl _, .slice none 0 0, ?_, World.ownsRow_nil _ _ _ _, by simp [Value.ownBlock]⟩, ?_, ?_⟩
  · rw [Below.heap_alloc _ _ _ (by omega), Below.heap_alloc _ _ _ (by omega)]
    exact heap_alloc_new w _
  · rw [Below.heap_alloc _ _ _ (by omega), ← s1]
    exact heap_alloc_new _ _
  · rw [← s2]
    exact heap_alloc_new _ _

/-- The builder stands while another struct's block is written. -/
theorem builder_kept {w : World} {B b k : Nat} {p : Value} {bs : List Value} {cs : Array Value} {i : Nat} {v : Value} (h : Lib.BuilderAt 32 5 B b p bs w) (hk : w.heap[k]? = some (.cells cs 34 (0, 0))) : Lib.BuilderAt 32 5 B b p bs (w.setCell ⟨k, i, none⟩ v) := by
  obtain ⟨hB, u, hb, hown, hne⟩ := h
  have hkb : b ≠ k := by
    rintro rfl
    rw [hb] at hk
    simp at hk
  refine ⟨hB, u, ?_, ?_, hne⟩
  · rw [Below.heap_setCell _ _ _ _ hkb]; exact hb
  · refine hown.kept (row := some k) ⟨rfl, rfl, rfl, by simp [World.setCell], fun j _ hj => Below.heap_setCell _ _ _ _ (fun e => hj (by simp [e]))⟩ (.inr ?_)
    exact Lib.ownBlock_ne hown hk (by decide)
theorem isBuilder_kept {w : World} {B b k : Nat} {bs : List Value} {cs : Array Value} {i : Nat} {v : Value} (h : Lib.IsBuilder 32 5 B b bs w) (hk : w.heap[k]? = some (.cells cs 34 (0, 0))) : Lib.IsBuilder 32 5 B b bs (w.setCell ⟨k, i, none⟩ v) := by
  rcases h with h | h
  · exact .inl (builder_kept h hk)
  · exact .inr (builder_kept h hk)

theorem Sinks.setN {w : World} {N : Nat} {l : List UInt8} {n m : Int} (h : Sinks w N l n m) (x : Int) : Sinks (w.setCell ⟨N + 1, 1, none⟩ (.int .i64 x)) N l x m := by
  obtain ⟨h0, h1, h2⟩ := h
  refine ⟨isBuilder_kept h0 h1, Lib.heap_setCell_same (i := 1) h1 _, ?_⟩
  rw [Below.heap_setCell _ _ _ _ (by show N + 2 ≠ N + 1; omega)]
  exact h2
theorem Sinks.setM {w : World} {N : Nat} {l : List UInt8} {n m : Int} (h : Sinks w N l n m) (x : Int) : Sinks (w.setCell ⟨N + 2, 1, none⟩ (.int .i64 x)) N l n x := by
  obtain ⟨h0, h1, h2⟩ := h
  refine ⟨isBuilder_kept h0 h2, ?_, Lib.heap_setCell_same (i := 1) h2 _⟩
  rw [Below.heap_setCell _ _ _ _ (by show N + 1 ≠ N + 2; omega)]
  exact h1

set_option maxHeartbeats 800000 in
theorem addM (N : Nat) (l : List UInt8) (n m : Int) (s : ByteArray) (w : World) (h : Sinks w N l n m) :
    Calls Try.prog 7 #[.pointer (some ⟨N + 2, 0, none⟩), .string s] w fun e w' => e = .returned (.tuple #[]) ∧ Sinks w' N l n (wrap64 (m + s.size)) ∧ Below N w w' := by
  have c0 : w.cell? ⟨N + 2, 0, none⟩ = some (.pointer none) := by rw [Lib.cell_of_heap h.2.2]; rfl
  have c1 : w.cell? ⟨N + 2, 1, none⟩ = some (.int .i64 m) := by rw [Lib.cell_of_heap h.2.2]; rfl
  have f1 : w.frozen? ⟨N + 2, 1, none⟩ = false := Lib.frozen_of_heap h.2.2 1
  have fin := hide (And.intro (h.setM (wrap64 (m + s.size))) ((Below.refl N w).setCell (p := ⟨N + 2, 1, none⟩) (by show N ≤ N + 2; omega) (.int .i64 (wrap64 (m + s.size)))))
  clear h
  go_enter Try.func7, Try.ntmps7
  go_wp2
  go_end0
  exact ⟨rfl, fin.out⟩

set_option maxHeartbeats 800000 in
theorem addW (N : Nat) (l : List UInt8) (n m : Int) (s : ByteArray) (w : World) (h : Sinks w N l n m) (hlen : l.length + s.size ≤ 140737488355328) :
    Calls Try.prog 7 #[.pointer (some ⟨N + 1, 0, none⟩), .string s] w fun e w' => e = .returned (.tuple #[]) ∧ Sinks w' N (l ++ s.data.toList) (wrap64 (n + s.size)) m ∧ Below N w w' := by
  have c0 : w.cell? ⟨N + 1, 0, none⟩ = some (.pointer (some ⟨N, 0, none⟩)) := by rw [Lib.cell_of_heap h.2.1]; rfl
  have c1 : w.cell? ⟨N + 1, 1, none⟩ = some (.int .i64 n) := by rw [Lib.cell_of_heap h.2.1]; rfl
  have f1 : w.frozen? ⟨N + 1, 1, none⟩ = false := Lib.frozen_of_heap h.2.1 1
  have h1 := h.setN (wrap64 (n + s.size))
  have hb1 := (Below.refl N w).setCell (p := ⟨N + 1, 1, none⟩) (by show N ≤ N + 1; omega) (.int .i64 (wrap64 (n + s.size)))
  have hlt : N + 2 < w.heap.size := Lib.lt_of_heap h.2.2
  have hsz : N ≤ (w.setCell ⟨N + 1, 1, none⟩ (.int .i64 (wrap64 (n + s.size)))).heap.size := by have := hb1.size; omega
  clear h
  go_enter Try.func7, Try.ntmps7
  go_wp2_with (first | (go_at_call 12; refine (writeString N N (Lib.byteCells l) s _ ?_ (by rw [Lib.byteCells_length]; exact hlen) ?_).mono ?_) | go_in)
  · exact h1.1
  · exact hsz
  rintro e w2 ⟨rfl, hbu, hb2, hk2⟩
  have fin : Sinks w2 N (l ++ s.data.toList) (wrap64 (n + s.size)) m ∧ Below N w w2 := by
    refine ⟨⟨.inr ?_, ?_, ?_⟩, hb1.trans hb2⟩
    · rw [Lib.byteCells_append]; exact hbu
    · exact hk2 _ _ h1.2.1 (by simp) (fun c fz => by simp)
    · exact hk2 _ _ h1.2.2 (by simp) (fun c fz => by simp)
  have FIN := hide fin
  clear fin hbu hb2 hk2 h1 hb1
  go_wp2
  go_end0
  exact ⟨rfl, FIN.out⟩

theorem countN (N : Nat) (p : Value) (n : Int) (w : World) (h : w.heap[N]? = some (.cells #[p, .int .i64 n] 34 (0, 0))) :
    Calls Try.prog 9 #[.pointer (some ⟨N, 0, none⟩)] w fun e w' => e = .returned (.int .i64 n) ∧ w' = w := by
  have c1 : w.cell? ⟨N, 1, none⟩ = some (.int .i64 n) := by rw [Lib.cell_of_heap h]; rfl
  go_enter Try.func9, Try.ntmps9
  go_wp2
  go_ret
  exact ⟨rfl, rfl⟩

theorem textOf (N : Nat) (l : List UInt8) (n m : Int) (w : World) (h : Sinks w N l n m) :
    Calls Try.prog 8 #[.pointer (some ⟨N + 1, 0, none⟩)] w fun e w' => e = .returned (.string ⟨l.toArray⟩) ∧ Below N w w' ∧ w'.heap[N + 1]? = some (.cells #[.pointer (some ⟨N, 0, none⟩), .int .i64 n] 34 (0, 0)) ∧ w'.heap[N + 2]? = some (.cells #[.pointer none, .int .i64 m] 34 (0, 0)) := by
  have c0 : w.cell? ⟨N + 1, 0, none⟩ = some (.pointer (some ⟨N, 0, none⟩)) := by rw [Lib.cell_of_heap h.2.1]; rfl
  have hlt : N + 2 < w.heap.size := Lib.lt_of_heap h.2.2
  go_enter Try.func8, Try.ntmps8
  go_wp2_with (go_at_call 11; refine (string_any N N l _ h.1 (by omega)).mono ?_)
  rintro e w2 ⟨rfl, hb, hk⟩
  have fin := hide (And.intro hb (And.intro (hk _ _ h.2.1 (by simp) (fun c fz => by simp)) (hk _ _ h.2.2 (by simp) (fun c fz => by simp))))
  clear hb hk h
  go_wp2
  go_ret
  exact ⟨rfl, fin.out⟩
end Go.Proofs.Qxb6608747a
