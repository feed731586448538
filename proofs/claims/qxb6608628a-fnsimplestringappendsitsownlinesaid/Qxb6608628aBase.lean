import Derived.Test.Qxb6608628aRows
import Derived.WalkKit
import Derived.ProofKit
import Derived.OwnWalk
import Derived.Handy
import Derived.Lib.BufferMore
import Derived.Lib.Strings
import Derived.Deep.QuietTactic
import Derived.BigQuiet
namespace Go.Proofs.Qxb6608628a
open Go.RowKit

/-- Bytes, as cells. -/
def ic (zs : List Int) : List Value := zs.map (Value.int .u8)

/-- Block g is a row of bytes, the cells xs, none frozen. -/
def Row (w : World) (g : Nat) (xs : List Value) : Prop := w.heap[g]? = some (.cells xs.toArray 5 (0, 0))

theorem Row.cell {w : World} {g : Nat} {xs : List Value} (h : Row w g xs) (j : Nat) : w.cell? ⟨g, j, none⟩ = xs[j]? := by
  rw [cell_of_row w g j _ _ _ h]; simp
theorem Row.frozen {w : World} {g : Nat} {xs : List Value} (h : Row w g xs) (j : Nat) : w.frozen? ⟨g, j, none⟩ = false :=
  frozen_of_row w g j _ _ h
theorem Row.set {w : World} {g : Nat} {xs : List Value} (h : Row w g xs) (j : Nat) (v : Value) : Row (w.setCell ⟨g, j, none⟩ v) g (xs.set j v) := by
  unfold Row; rw [heap_setCell_same w g j _ _ v h]; simp
theorem Row.new (w : World) (xs : List Value) : Row (w.alloc (.cells xs.toArray 5)) w.heap.size xs := heap_alloc_new w _
theorem Row.lt {w : World} {g : Nat} {xs : List Value} (h : Row w g xs) : g < w.heap.size := by
  rcases Nat.lt_or_ge g w.heap.size with h' | h'
  · exact h'
  · unfold Row at h; simp [Array.getElem?_eq_none h'] at h

theorem clone_nil (w : World) :
    Calls Try.prog 6 #[.slice none 0 0] w fun e w' => e = .returned (.slice none 0 0) ∧ w' = w := by
  have hq : ∀ W, (binOp .eql 22 (.slice none 0 0) (.slice none 0 0)).run Try.prog W = .ok (.bool true) W := fun W => Lib.run_eql_slice_nil_nil W _ _ Try.underlying22
  go_enter Try.func6, Try.ntmps6
  go_wp2
  go_ret
  exact ⟨rfl, rfl⟩

theorem Try.info5 : (Try.prog.info? 5).map (fun i => (i.zero, i.size, i.bytes)) = some (some (.int .u8 0), 1, 1) := by kernel_rfl

/-- What the clone's row holds behind k rounds: the first k bytes, then zeros. -/
def part (zs : List Int) (n k : Nat) : List Value := ic (zs.take k) ++ List.replicate (n - k) (.int .u8 0)

theorem part_zero (zs : List Int) (n : Nat) : part zs n 0 = List.replicate n (.int .u8 0) := by simp [part, ic]
theorem part_full (zs : List Int) (n : Nat) : part zs n n = ic (zs.take n) := by simp [part]
theorem part_len (zs : List Int) (n k : Nat) (hk : k ≤ n) (hz : n ≤ zs.length) : (part zs n k).length = n := by
  simp [part, ic]; omega
theorem ic_take_succ (zs : List Int) (k : Nat) (h : k < zs.length) : ic (zs.take (k + 1)) = ic (zs.take k) ++ [.int .u8 (zs.getD k 0)] := by
  unfold ic
  rw [List.take_succ_eq_append_getElem h, List.map_append, List.getD_eq_getElem?_getD, List.getElem?_eq_getElem h]
  rfl
theorem part_succ (zs : List Int) (n k : Nat) (hk : k < n) (hz : n ≤ zs.length) : (part zs n k).set k (.int .u8 (zs.getD k 0)) = part zs n (k + 1) := by
  unfold part
  have hl : (ic (zs.take k)).length = k := by simp [ic]; omega
  rw [List.set_append_right _ _ (by rw [hl]; exact Nat.le_refl _), hl, Nat.sub_self]
  obtain ⟨m, hm⟩ : ∃ m, n - k = m + 1 := ⟨n - k - 1, by omega⟩
  have hm' : n - (k + 1) = m := by omega
  rw [hm, hm', List.replicate_succ, List.set_cons_zero, ic_take_succ zs k (by omega)]
  simp

/-- A 'make' of n bytes, as a row. -/
theorem row_of_owns {w : World} {B g n : Nat} {xs : List Value} (h : w.ownsRow B 5 1 (.slice (some ⟨g, 0, none⟩) n n) n xs) : Row w g xs := by
  rcases h.2 with ⟨h', _⟩ | ⟨g', cap', cur, h', _, hg, _, _, hs, htake⟩
  · simp at h'
  · simp only [Value.slice.injEq, Option.some.injEq, Addr.mk.injEq, and_true, true_and] at h'
    obtain ⟨rfl, rfl⟩ := h'
    rw [Nat.mul_one] at htake hs
    rw [List.take_of_length_le (by rw [Array.length_toList, hs]; exact Nat.le_refl _)] at htake
    unfold Row
    rw [hg, ← htake]

set_option maxHeartbeats 400000 in
theorem clone_some (b off n c : Nat) (zs : List Int) (w : World) (hn : n ≤ 1048576) (hz : n ≤ zs.length) (hb : b < w.heap.size)
    (hc : ∀ i, i < n → w.cell? ⟨b, off + i, none⟩ = some (.int .u8 (zs.getD i 0))) :
    Calls Try.prog 6 #[.slice (some ⟨b, off, none⟩) n c] w fun e w' => e = .returned (.slice (some ⟨w.heap.size, 0, none⟩) n n) ∧ Row w' w.heap.size (ic (zs.take n)) ∧ Below w.heap.size w w' := by
  have hq : ∀ W, (binOp .eql 22 (.slice (some ⟨b, off, none⟩) n c) (.slice none 0 0)).run Try.prog W = .ok (.bool false) W := fun W => Lib.run_eql_slice_some_nil W _ _ _ Try.underlying22
  obtain ⟨i0, hi, hz0, hz1, hz2⟩ := info_parts Try.info5
  go_enter Try.func6, Try.ntmps6
  go_wp2_with (at_make; refine wpList_make_full _ rfl _ _ 22 rfl w.heap.size 5 i0 (.int .u8 0) 1 Try.underlying22 hi hz0 hz1 .i64 .i64 _ _ n rfl rfl rfl rfl (by rw [hz2]; omega) (by unfold maxLen; omega) (Nat.le_refl _) ?_; intro w1 hown hgr)
  have hrow := row_of_owns hown
  have hbel : Below w.heap.size w w1 := (Below.refl _ _).grown hgr (Nat.le_refl _) (fun k h => by cases h)
  have hrow0 : Row w1 w.heap.size (part zs n 0) := by rw [part_zero]; simpa [Value.cells, toList_madeCells_one] using hrow
  clear hown hgr hrow
  go_loopw [4] (fun i wr => ∃ k : Nat, k ≤ n ∧ i = .int .i64 k ∧ Row wr w.heap.size (part zs n k) ∧ Below w.heap.size w wr) (fun i _ => n - (intOf i).toNat)
  case atStart => exact ⟨0, Nat.zero_le _, rfl, hrow0, hbel⟩
  case round =>
    obtain ⟨k, hk, rfl, hr, hb'⟩ := hrel
    clear hrow0 hbel
    by_cases hlt : k < n
    · have hcx : wr.cell? ⟨b, off + k, none⟩ = some (.int .u8 (zs.getD k 0)) := (hb'.cell (by exact hb)).trans (hc k hlt)
      have hcn := hr.cell k
      have hfn := hr.frozen k
      have hpl : k < (part zs n k).length := by rw [part_len zs n k hk hz]; exact hlt
      rw [List.getElem?_eq_getElem hpl] at hcn
      have H1 : Hid (Row (wr.setCell ⟨w.heap.size, k, none⟩ (.int .u8 (zs.getD k 0))) w.heap.size (part zs n (k + 1))) := by
        rw [← part_succ zs n k hlt hz]; exact hr.set k _
      have H2 : Hid (Below w.heap.size w (wr.setCell ⟨w.heap.size, k, none⟩ (.int .u8 (zs.getD k 0)))) := hb'.setCell (p := ⟨w.heap.size, k, none⟩) (Nat.le_refl _) _
      clear hr hb' hc
      go_wp2
      go_roundw
      case rel => exact ⟨k + 1, by omega, by go_num, by simpa using H1.out, by simpa using H2.out⟩
      case measure => simp [intOf]; omega
    · have hkn : k = n := by omega
      have H1 : Hid (Row wr w.heap.size (ic (zs.take n))) := by rw [← part_full zs n, ← hkn]; rw [hkn] at hr ⊢; exact hr
      clear hr hkn
      go_wp2
      go_ret
      exact ⟨rfl, H1.out, hb'⟩

theorem clone_empty (x : Addr) (c : Nat) (w : World) :
    Calls Try.prog 6 #[.slice (some x) 0 c] w fun e w' => e = .returned (.slice (some ⟨w.heap.size, 0, none⟩) 0 0) ∧ Row w' w.heap.size [] ∧ Below w.heap.size w w' := by
  have hq : ∀ W, (binOp .eql 22 (.slice (some x) 0 c) (.slice none 0 0)).run Try.prog W = .ok (.bool false) W := fun W => Lib.run_eql_slice_some_nil W _ _ _ Try.underlying22
  obtain ⟨i0, hi, hz0, hz1, hz2⟩ := info_parts Try.info5
  go_enter Try.func6, Try.ntmps6
  go_wp2_with (at_make; refine wpList_make_full _ rfl _ _ 22 rfl w.heap.size 5 i0 (.int .u8 0) 1 Try.underlying22 hi hz0 hz1 .i64 .i64 _ _ 0 rfl rfl rfl rfl (by rw [hz2]; omega) (by unfold maxLen; omega) (Nat.le_refl _) ?_; intro w1 hown hgr)
  have hrow := row_of_owns hown
  have hbel : Below w.heap.size w w1 := (Below.refl _ _).grown hgr (Nat.le_refl _) (fun k h => by cases h)
  have hrow0 : Row w1 w.heap.size [] := by simpa [Value.cells, toList_madeCells_one] using hrow
  clear hown hgr hrow
  go_rounds 1
  go_ret
  exact ⟨rfl, hrow0, hbel⟩

/-- What the walk is told of a slice of bytes that came in: it is nil; or it leads to a row of 'cap' cells, the numbers 'zs' (the first 'len' are its elements). -/
def IsRow (k : IntKind) (w : World) (a : Option Addr) (len cap : Nat) (zs : List Int) : Prop :=
  (a = none ∧ len = 0 ∧ cap = 0 ∧ zs = []) ∨
  ∃ x, a = some x ∧ len ≤ cap ∧ cap ≤ maxLen ∧ zs.length = cap ∧ (∀ i, i < zs.length → w.cell? (x.add i) = some (.int k (zs.getD i 0))) ∧ ∀ n ∈ zs, (Lit.int k n).wf = true

/-- The bytes ys lie where the slice (a, its length and capacity those of ys) says: nil and none, or a row of their own. -/
def DataAt (w : World) (a : Option Addr) (ys : List Int) : Prop := (a = none ∧ ys = []) ∨ ∃ g, a = some ⟨g, 0, none⟩ ∧ Row w g (ic ys)

theorem clone_any (a : Option Addr) (n c : Nat) (zs : List Int) (w : World) (h : IsRow .u8 w a n c zs) (hn : n ≤ 1048576) :
    Calls Try.prog 6 #[.slice a n c] w fun e w' => ∃ a' ys, ys.length = n ∧ e = .returned (.slice a' n n) ∧ DataAt w' a' ys ∧ Below w.heap.size w w' := by
  rcases h with ⟨rfl, rfl, rfl, rfl⟩ | ⟨x, rfl, hlc, hcm, hzl, hcell, hwf⟩
  · refine (clone_nil w).mono ?_
    rintro e w' ⟨rfl, rfl⟩
    exact ⟨none, [], rfl, rfl, .inl ⟨rfl, rfl⟩, Below.refl _ _⟩
  · by_cases h0 : n = 0
    · subst h0
      refine (clone_empty x c w).mono ?_
      rintro e w' ⟨rfl, hr, hb⟩
      exact ⟨_, [], rfl, rfl, .inr ⟨_, rfl, hr⟩, hb⟩
    · obtain ⟨b, off, spot⟩ := x
      have hspot : spot = none := by simpa [Addr.add] using World.cell?_spot (hcell 0 (by omega))
      subst hspot
      have hc' : ∀ i, i < n → w.cell? ⟨b, off + i, none⟩ = some (.int .u8 (zs.getD i 0)) := fun i hi => by rw [← Lib.addr_add]; exact hcell i (by omega)
      refine (clone_some b off n c zs w (by omega) (by omega) ?_ hc').mono ?_
      · exact World.block_lt_of_cell? w ⟨b, off + 0, none⟩ (hc' 0 (by omega))
      rintro e w' ⟨rfl, hr, hb⟩
      exact ⟨_, zs.take n, by rw [List.length_take]; omega, rfl, .inr ⟨_, rfl, hr⟩, hb⟩


theorem newWriter (a : Option Addr) (n c : Nat) (sent : Int) (w : World) :
    Calls Try.prog 7 #[.slice a n c, .int .i64 sent] w fun e w' => e = .returned (.pointer (some ⟨w.heap.size, 0, none⟩)) ∧ w' = w.alloc (.cells #[.slice a n c, .int .i64 sent] 34) := by
  go_enter Try.func7, Try.ntmps7
  go_wp2
  go_ret
  exact ⟨rfl, rfl⟩

/-- Block b is a Writer: its buffer v, its count sent. -/
def WrAt (w : World) (b : Nat) (v : Value) (sent : Int) : Prop := w.heap[b]? = some (.cells #[v, .int .i64 sent] 34 (0, 0))
theorem WrAt.c0 {w : World} {b : Nat} {v : Value} {sent : Int} (h : WrAt w b v sent) : w.cell? ⟨b, 0, none⟩ = some v := by rw [Lib.cell_of_heap h]; rfl
theorem WrAt.c1 {w : World} {b : Nat} {v : Value} {sent : Int} (h : WrAt w b v sent) : w.cell? ⟨b, 1, none⟩ = some (.int .i64 sent) := by rw [Lib.cell_of_heap h]; rfl
theorem WrAt.f {w : World} {b : Nat} {v : Value} {sent : Int} (h : WrAt w b v sent) (i : Nat) : w.frozen? ⟨b, i, none⟩ = false := Lib.frozen_of_heap h i

theorem writerBuf (b : Nat) (a : Option Addr) (n c : Nat) (sent : Int) (w : World) (h : WrAt w b (.slice a n c) sent) :
    Calls Try.prog 9 #[.pointer (some ⟨b, 0, none⟩)] w fun e w' => e = .returned (.slice a n c) ∧ w' = w := by
  have c0 := h.c0
  go_enter Try.func9, Try.ntmps9
  go_wp2
  go_ret
  exact ⟨rfl, rfl⟩

theorem writerSent (b : Nat) (v : Value) (sent : Int) (w : World) (h : WrAt w b v sent) :
    Calls Try.prog 11 #[.pointer (some ⟨b, 0, none⟩)] w fun e w' => e = .returned (.int .i64 sent) ∧ w' = w := by
  have c1 := h.c1
  go_enter Try.func11, Try.ntmps11
  go_wp2
  go_ret
  exact ⟨rfl, rfl⟩
end Go.Proofs.Qxb6608628a
