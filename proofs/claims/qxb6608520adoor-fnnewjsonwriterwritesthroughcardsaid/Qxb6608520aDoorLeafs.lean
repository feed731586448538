import Derived.Test.Qxb6608520aDoorRows
import Derived.WalkKit
import Derived.ProofKit
import Derived.OwnWalk
import Derived.Handy
import Derived.Lib.BufferMore
import Derived.Deep.QuietTactic
import Derived.BigQuiet
import Derived.Stop.Asserts
namespace Go.Proofs.Qxb6608520aDoor
open Go.RowKit

/-- Bytes, as cells. -/
def ic (zs : List Int) : List Value := zs.map (Value.int .u8)

/-- Block g is a row of bytes, the cells xs, none frozen. -/
def Row (w : World) (g : Nat) (xs : List Value) : Prop := w.heap[g]? = some (.cells xs.toArray 5 (0, 0))

theorem Row.cell {w : World} {g : Nat} {xs : List Value} (h : Row w g xs) (j : Nat) : w.cell? ⟨g, j, none⟩ = xs[j]? := by
  rw [cell_of_row w g j _ _ _ h]; simp
theorem Row.frozen {w : World} {g : Nat} {xs : List Value} (h : Row w g xs) (j : Nat) : w.frozen? ⟨g, j, none⟩ = false :=
  frozen_of_row w g j _ _ h
theorem Row.set {w : World} {g : Nat} {xs : List Value} (h : Row w g xs) (j : Nat) (v : Value) : Row (w.setCell ⟨g, j, none⟩ v) g (xs.set j v) := by
  unfold Row; rw [heap_setCell_same w g j _ _ v h]; simp
theorem Row.new (w : World) (xs : List Value) : Row (w.alloc (.cells xs.toArray 5)) w.heap.size xs := heap_alloc_new w _
theorem Row.lt {w : World} {g : Nat} {xs : List Value} (h : Row w g xs) : g < w.heap.size := by
  rcases Nat.lt_or_ge g w.heap.size with h' | h'
  · exact h'
  · unfold Row at h; simp [Array.getElem?_eq_none h'] at h

theorem bytes_yes (a : Option Addr) (n c : Nat) (s : ByteArray) (w : World) (h : n + s.size ≤ 1048576) :
    Calls Tryd.prog 4 #[.slice a n c, .string s] w fun e w' => e = .returned (.bool true) ∧ w' = w := by
  go_enter Tryd.func4, Tryd.ntmps4
  go_wp2
  go_ret
  exact ⟨rfl, rfl⟩

theorem bytes_no (a : Option Addr) (n c : Nat) (s : ByteArray) (w : World) (hn : n ≤ maxLen) (hs : s.size ≤ maxLen) (h : 1048576 < n + s.size) :
    Calls Tryd.prog 4 #[.slice a n c, .string s] w fun e w' => e = .returned (.bool false) ∧ w' = w := by
  unfold maxLen at hn hs
  go_enter Tryd.func4, Tryd.ntmps4
  go_wp2
  all_goals (go_ret; exact ⟨rfl, rfl⟩)

theorem clone_nil (w : World) :
    Calls Tryd.prog 5 #[.slice none 0 0] w fun e w' => e = .returned (.slice none 0 0) ∧ w' = w := by
  have hq : ∀ W, (binOp .eql 22 (.slice none 0 0) (.slice none 0 0)).run Tryd.prog W = .ok (.bool true) W := fun W => Lib.run_eql_slice_nil_nil W _ _ Tryd.underlying22
  go_enter Tryd.func5, Tryd.ntmps5
  go_wp2
  go_ret
  exact ⟨rfl, rfl⟩

theorem Tryd.info5 : (Tryd.prog.info? 5).map (fun i => (i.zero, i.size, i.bytes)) = some (some (.int .u8 0), 1, 1) := by kernel_rfl

/-- What the clone's row holds behind k rounds: the first k bytes, then zeros. -/
def part (zs : List Int) (n k : Nat) : List Value := ic (zs.take k) ++ List.replicate (n - k) (.int .u8 0)

theorem part_zero (zs : List Int) (n : Nat) : part zs n 0 = List.replicate n (.int .u8 0) := by simp [part, ic]
theorem part_full (zs : List Int) (n : Nat) : part zs n n = ic (zs.take n) := by simp [part]
theorem part_len (zs : List Int) (n k : Nat) (hk : k ≤ n) (hz : n ≤ zs.length) : (part zs n k).length = n := by
  simp [part, ic]; omega
theorem ic_take_succ (zs : List Int) (k : Nat) (h : k < zs.length) : ic (zs.take (k + 1)) = ic (zs.take k) ++ [.int .u8 (zs.getD k 0)] := by
  unfold ic
  rw [List.take_succ_eq_append_getElem h, List.map_append, List.getD_eq_getElem?_getD, List.getElem?_eq_getElem h]
  rfl
theorem part_succ (zs : List Int) (n k : Nat) (hk : k < n) (hz : n ≤ zs.length) : (part zs n k).set k (.int .u8 (zs.getD k 0)) = part zs n (k + 1) := by
  unfold part
  have hl : (ic (zs.take k)).length = k := by simp [ic]; omega
  rw [List.set_append_right _ _ (by rw [hl]; exact Nat.le_refl _), hl, Nat.sub_self]
  obtain ⟨m, hm⟩ : ∃ m, n - k = m + 1 := ⟨n - k - 1, by omega⟩
  have hm' : n - (k + 1) = m := by omega
  rw [hm, hm', List.replicate_succ, List.set_cons_zero, ic_take_succ zs k (by omega)]
  simp

/-- A 'make' of n bytes, as a row. -/
theorem row_of_owns {w : World} {B g n : Nat} {xs : List Value} (h : w.ownsRow B 5 1 (.slice (some ⟨g, 0, none⟩) n n) n xs) : Row w g xs := by
  rcases h.2 with ⟨h', _⟩ | ⟨g', cap', cur, h', _, hg, _, _, hs, htake⟩
  · simp at h'
  · simp only [Value.slice.injEq, Option.some.injEq, Addr.mk.injEq, and_true, true_and] at h'
    obtain ⟨rfl, rfl⟩ := h'
    rw [Nat.mul_one] at htake hs
    rw [List.take_of_length_le (by rw [Array.length_toList, hs]; exact Nat.le_refl _)] at htake
    unfold Row
    rw [hg, ← htake]

set_option maxHeartbeats 400000 in
theorem clone_some (b off n c : Nat) (zs : List Int) (w : World) (hn : n ≤ 1048576) (hz : n ≤ zs.length) (hb : b < w.heap.size)
    (hc : ∀ i, i < n → w.cell? ⟨b, off + i, none⟩ = some (.int .u8 (zs.getD i 0))) :
    Calls Tryd.prog 5 #[.slice (some ⟨b, off, none⟩) n c] w fun e w' => e = .returned (.slice (some ⟨w.heap.size, 0, none⟩) n n) ∧ Row w' w.heap.size (ic (zs.take n)) ∧ Below w.heap.size w w' := by
  have hq : ∀ W, (binOp .eql 22 (.slice (some ⟨b, off, none⟩) n c) (.slice none 0 0)).run Tryd.prog W = .ok (.bool false) W := fun W => Lib.run_eql_slice_some_nil W _ _ _ Tryd.underlying22
  obtain ⟨i0, hi, hz0, hz1, hz2⟩ := info_parts Tryd.info5
  go_enter Tryd.func5, Tryd.ntmps5
  go_wp2_with (at_make; refine wpList_make_full _ rfl _ _ 22 rfl w.heap.size 5 i0 (.int .u8 0) 1 Tryd.underlying22 hi hz0 hz1 .i64 .i64 _ _ n rfl rfl rfl rfl (by rw [hz2]; omega) (by unfold maxLen; omega) (Nat.le_refl _) ?_; intro w1 hown hgr)
  have hrow := row_of_owns hown
  have hbel : Below w.heap.size w w1 := (Below.refl _ _).grown hgr (Nat.le_refl _) (fun k h => by cases h)
  have hrow0 : Row w1 w.heap.size (part zs n 0) := by rw [part_zero]; simpa [Value.cells, toList_madeCells_one] using hrow
  clear hown hgr hrow
  go_loopw [4] (fun i wr => ∃ k : Nat, k ≤ n ∧ i = .int .i64 k ∧ Row wr w.heap.size (part zs n k) ∧ Below w.heap.size w wr) (fun i _ => n - (intOf i).toNat)
  case atStart => exact ⟨0, Nat.zero_le _, rfl, hrow0, hbel⟩
  case round =>
    obtain ⟨k, hk, rfl, hr, hb'⟩ := hrel
    clear hrow0 hbel
    by_cases hlt : k < n
    · have hcx : wr.cell? ⟨b, off + k, none⟩ = some (.int .u8 (zs.getD k 0)) := (hb'.cell (by exact hb)).trans (hc k hlt)
      have hcn := hr.cell k
      have hfn := hr.frozen k
      have hpl : k < (part zs n k).length := by rw [part_len zs n k hk hz]; exact hlt
      rw [List.getElem?_eq_getElem hpl] at hcn
      have H1 : Hid (Row (wr.setCell ⟨w.heap.size, k, none⟩ (.int .u8 (zs.getD k 0))) w.heap.size (part zs n (k + 1))) := by
        rw [← part_succ zs n k hlt hz]; exact hr.set k _
      have H2 : Hid (Below w.heap.size w (wr.setCell ⟨w.heap.size, k, none⟩ (.int .u8 (zs.getD k 0)))) := hb'.setCell (p := ⟨w.heap.size, k, none⟩) (Nat.le_refl _) _
      clear hr hb' hc
      go_wp2
      go_roundw
      case rel => exact ⟨k + 1, by omega, by go_num, by simpa using H1.out, by simpa using H2.out⟩
      case measure => simp [intOf]; omega
    · have hkn : k = n := by omega
      have H1 : Hid (Row wr w.heap.size (ic (zs.take n))) := by rw [← part_full zs n, ← hkn]; rw [hkn] at hr ⊢; exact hr
      clear hr hkn
      go_wp2
      go_ret
      exact ⟨rfl, H1.out, hb'⟩

theorem clone_empty (x : Addr) (c : Nat) (w : World) :
    Calls Tryd.prog 5 #[.slice (some x) 0 c] w fun e w' => e = .returned (.slice (some ⟨w.heap.size, 0, none⟩) 0 0) ∧ Row w' w.heap.size [] ∧ Below w.heap.size w w' := by
  have hq : ∀ W, (binOp .eql 22 (.slice (some x) 0 c) (.slice none 0 0)).run Tryd.prog W = .ok (.bool false) W := fun W => Lib.run_eql_slice_some_nil W _ _ _ Tryd.underlying22
  obtain ⟨i0, hi, hz0, hz1, hz2⟩ := info_parts Tryd.info5
  go_enter Tryd.func5, Tryd.ntmps5
  go_wp2_with (at_make; refine wpList_make_full _ rfl _ _ 22 rfl w.heap.size 5 i0 (.int .u8 0) 1 Tryd.underlying22 hi hz0 hz1 .i64 .i64 _ _ 0 rfl rfl rfl rfl (by rw [hz2]; omega) (by unfold maxLen; omega) (Nat.le_refl _) ?_; intro w1 hown hgr)
  have hrow := row_of_owns hown
  have hbel : Below w.heap.size w w1 := (Below.refl _ _).grown hgr (Nat.le_refl _) (fun k h => by cases h)
  have hrow0 : Row w1 w.heap.size [] := by simpa [Value.cells, toList_madeCells_one] using hrow
  clear hown hgr hrow
  go_rounds 1
  go_ret
  exact ⟨rfl, hrow0, hbel⟩

set_option maxHeartbeats 400000 in
theorem same_yes (ga gb n ca cb : Nat) (zs : List Int) (w : World) (hn : n ≤ 2097152)
    (ha : ∀ i, i < n → w.cell? ⟨ga, i, none⟩ = some (.int .u8 (zs.getD i 0))) (hb : ∀ i, i < n → w.cell? ⟨gb, i, none⟩ = some (.int .u8 (zs.getD i 0))) :
    Calls Tryd.prog 11 #[.slice (some ⟨ga, 0, none⟩) n ca, .slice (some ⟨gb, 0, none⟩) n cb] w fun e w' => e = .returned (.bool true) ∧ Below w.heap.size w w' := by
  go_enter Tryd.func11, Tryd.ntmps11
  go_wp2
  go_loopw [5] (fun i wr => ∃ k : Nat, k ≤ n ∧ i = .int .i64 k ∧ ∃ q, wr = w.drewN q) (fun i _ => n - (intOf i).toNat)
  case atStart => exact ⟨0, Nat.zero_le _, rfl, 0, rfl⟩
  case round =>
    obtain ⟨k, hk, rfl, q, rfl⟩ := hrel
    by_cases hlt : k < n
    · have hax := ha k hlt
      have hbx := hb k hlt
      have hkn : (k : Int) < (n : Int) := by omega
      clear ha hb
      go_wp2
      go_quiet (fail)
      go_wp2
      go_roundw
      case rel => exact ⟨k + 1, by omega, by go_num, _, rfl⟩
      case measure => simp [intOf]; omega
    · go_wp2
      go_ret
      exact ⟨rfl, ⟨rfl, rfl, rfl, Nat.le_refl _, fun _ _ => rfl⟩⟩

theorem same_empty (a b : Option Addr) (ca cb : Nat) (w : World) :
    Calls Tryd.prog 11 #[.slice a 0 ca, .slice b 0 cb] w fun e w' => e = .returned (.bool true) ∧ Below w.heap.size w w' := by
  go_enter Tryd.func11, Tryd.ntmps11
  go_wp2
  go_rounds 1
  go_ret
  exact ⟨rfl, Below.refl _ _⟩

theorem bufferOf (a : Option Addr) (n c : Nat) (w : World) :
    Calls Tryd.prog 6 #[.slice a n c] w fun e w' => e = .returned (.pointer (some ⟨w.heap.size, 0, none⟩)) ∧ w' = w.alloc (.cells #[.slice a n c, .int .i64 0, .int .i8 0] 43) := by
  go_enter Tryd.func6, Tryd.ntmps6
  go_wp2
  go_ret
  exact ⟨rfl, rfl⟩

theorem assertW (v : Value) (w : World) : (Instr.typeAssert (.iface 25 v) 50 29 true).run Tryd.prog w = .ok (.tuple #[.pointer none, .bool false]) w := by kernel_rfl
theorem assertS (v : Value) (w : World) : (Instr.typeAssert (.iface 25 v) 50 47 true).run Tryd.prog w = .ok (.tuple #[.iface 25 v, .bool true]) w := run_typeAssert_hasB Tryd.underlying47 (by kernel_rfl) v 50 w

theorem newJSON (b : Nat) (w : World) :
    Calls Tryd.prog 7 #[.pointer (some ⟨b, 0, none⟩)] w fun e w' => ∃ w1 z, Row w1 w.heap.size z ∧ z.length = 4096 ∧ Below w.heap.size w w1 ∧ e = .returned (.pointer (some ⟨w1.heap.size + 1, 0, none⟩)) ∧
      w' = (w1.alloc (.cells #[.nilIface, .slice (some ⟨w.heap.size, 0, none⟩) 4096 4096, .int .i64 0, .iface 25 (.pointer (some ⟨b, 0, none⟩))] 52)).alloc (.cells #[.pointer (some ⟨w1.heap.size, 0, none⟩), .string ByteArray.empty, .slice none 0 0, .bool false, .slice none 0 0, .int .i64 0, .int .i8 0, .nilIface] 45) := by
  obtain ⟨i0, hi, hz0, hz1, hz2⟩ := info_parts Tryd.info5
  have hA := assertW
  go_enter Tryd.func7, Tryd.ntmps7
  go_wp2_with (first | (at_make; refine wpList_make_full _ rfl _ _ 22 rfl w.heap.size 5 i0 (.int .u8 0) 1 Tryd.underlying22 hi hz0 hz1 .i64 .i64 _ _ 4096 rfl rfl rfl rfl (by rw [hz2]; omega) (by unfold maxLen; omega) (Nat.le_refl _) ?_; intro w1 hown hgr) | go_in)
  go_ret
  have hrow := row_of_owns hown
  have hbel : Below w.heap.size w w1 := (Below.refl _ _).grown hgr (Nat.le_refl _) (fun k h => by cases h)
  rw [show (Value.int IntKind.u8 0).cells = #[Value.int IntKind.u8 0] from rfl, toList_madeCells_one] at hrow
  exact ⟨w1, _, hrow, List.length_replicate, hbel, rfl, rfl⟩

theorem jwWriter (j bw : Nat) (w : World) (hc : w.cell? ⟨j, 0, none⟩ = some (.pointer (some ⟨bw, 0, none⟩))) :
    Calls Tryd.prog 8 #[.pointer (some ⟨j, 0, none⟩)] w fun e w' => e = .returned (.pointer (some ⟨bw, 0, none⟩)) ∧ w' = w := by
  go_enter Tryd.func8, Tryd.ntmps8
  go_wp2
  go_ret
  exact ⟨rfl, rfl⟩

theorem bufBytes (b g n c : Nat) (w : World) (h0 : w.cell? ⟨b, 0, none⟩ = some (.slice (some ⟨g, 0, none⟩) n c)) (h1 : w.cell? ⟨b, 1, none⟩ = some (.int .i64 0)) :
    Calls Tryd.prog 12 #[.pointer (some ⟨b, 0, none⟩)] w fun e w' => e = .returned (.slice (some ⟨g, 0, none⟩) n c) ∧ ∃ q, w' = w.drewN q := by
  go_enter Tryd.func12, Tryd.ntmps12
  go_wp2
  go_quiet (fail)
  go_wp2
  go_ret
  exact ⟨rfl, _, rfl⟩

theorem bufBytes_nil (b : Nat) (w : World) (h0 : w.cell? ⟨b, 0, none⟩ = some (.slice none 0 0)) (h1 : w.cell? ⟨b, 1, none⟩ = some (.int .i64 0)) :
    Calls Tryd.prog 12 #[.pointer (some ⟨b, 0, none⟩)] w fun e w' => e = .returned (.slice none 0 0) ∧ ∃ q, w' = w.drewN q := by
  go_enter Tryd.func12, Tryd.ntmps12
  go_wp2
  go_quiet (fail)
  go_wp2
  go_ret
  exact ⟨rfl, _, rfl⟩
end Go.Proofs.Qxb6608520aDoor
