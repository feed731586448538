import Derived.Test.Qxb6608520aDoorBuf
namespace Go.Proofs.Qxb6608520aDoor
open Go.RowKit

/-- No old block has turned but those listed. -/
structure Kept (ex : List Nat) (w w' : World) : Prop where
  os : w'.os = w.os
  tape : w'.tape = w.tape
  output : w'.output = w.output
  size : w.heap.size ≤ w'.heap.size
  block : ∀ k, k < w.heap.size → k ∉ ex → w'.heap[k]? = w.heap[k]?

theorem Kept.refl (ex : List Nat) (w : World) : Kept ex w w := ⟨rfl, rfl, rfl, Nat.le_refl _, fun _ _ _ => rfl⟩
theorem Kept.trans {ex : List Nat} {a b c : World} (h : Kept ex a b) (k : Kept ex b c) : Kept ex a c :=
  ⟨k.os.trans h.os, k.tape.trans h.tape, k.output.trans h.output, Nat.le_trans h.size k.size, fun i hi hx => (k.block i (Nat.lt_of_lt_of_le hi h.size) hx).trans (h.block i hi hx)⟩
theorem Kept.mono {ex ex' : List Nat} {w w' : World} (h : Kept ex w w') (hs : ∀ k ∈ ex, k ∈ ex') : Kept ex' w w' := ⟨h.os, h.tape, h.output, h.size, fun k hk hx => h.block k hk (fun hm => hx (hs k hm))⟩
theorem Kept.drewN {ex : List Nat} {a w : World} (h : Kept ex a w) (n : Nat) : Kept ex a (w.drewN n) := ⟨h.os, h.tape, h.output, h.size, h.block⟩
theorem Kept.drew {ex : List Nat} {a w : World} (h : Kept ex a w) : Kept ex a w.drew := ⟨h.os, h.tape, h.output, h.size, h.block⟩
theorem Kept.setCell {ex : List Nat} {a w : World} (h : Kept ex a w) {p : Addr} (hp : p.block ∈ ex) (u : Value) : Kept ex a (w.setCell p u) :=
  h.trans ⟨rfl, rfl, rfl, by simp [World.setCell], fun k _ hx => Below.heap_setCell _ _ _ _ (fun e => hx (e ▸ hp))⟩
theorem Kept.setRow {ex : List Nat} {a w : World} (h : Kept ex a w) {g : Nat} (hp : g ∈ ex) (arr : Array Value) : Kept ex a (w.setRow g arr) :=
  h.trans ⟨rfl, rfl, rfl, by simp, fun k _ hx => setRow_other _ _ _ _ (fun e => hx (e ▸ hp))⟩
theorem Kept.grown {ex : List Nat} {a w w' : World} (h : Kept ex a w) {b : Nat} (hg : w.grownBy w' (some b)) (hb : b ∈ ex) : Kept ex a w' :=
  h.trans ⟨hg.os, hg.tape, hg.output, hg.size, fun k hk hx => hg.block k hk (fun e => hx ((Option.some.inj e) ▸ hb))⟩

/-- Block bw is a bufio.Writer without an error: its buffer the row gb of 4096 bytes, n of them used; it writes to the bytes.Buffer at block b. -/
def WrAt (w : World) (bw gb n b : Nat) (xs : List Value) : Prop :=
  w.heap[bw]? = some (.cells #[.nilIface, .slice (some ⟨gb, 0, none⟩) 4096 4096, .int .i64 n, .iface 25 (.pointer (some ⟨b, 0, none⟩))] 52 (0, 0)) ∧ Row w gb xs ∧ xs.length = 4096

section
variable {w : World} {bw gb n b : Nat} {xs : List Value}
theorem WrAt.c0 (h : WrAt w bw gb n b xs) : w.cell? ⟨bw, 0, none⟩ = some .nilIface := by rw [Lib.cell_of_heap h.1]; rfl
theorem WrAt.c1 (h : WrAt w bw gb n b xs) : w.cell? ⟨bw, 1, none⟩ = some (.slice (some ⟨gb, 0, none⟩) 4096 4096) := by rw [Lib.cell_of_heap h.1]; rfl
theorem WrAt.c2 (h : WrAt w bw gb n b xs) : w.cell? ⟨bw, 2, none⟩ = some (.int .i64 n) := by rw [Lib.cell_of_heap h.1]; rfl
theorem WrAt.c3 (h : WrAt w bw gb n b xs) : w.cell? ⟨bw, 3, none⟩ = some (.iface 25 (.pointer (some ⟨b, 0, none⟩))) := by rw [Lib.cell_of_heap h.1]; rfl
theorem WrAt.f (h : WrAt w bw gb n b xs) (i : Nat) : w.frozen? ⟨bw, i, none⟩ = false := Lib.frozen_of_heap h.1 i
theorem WrAt.ne (h : WrAt w bw gb n b xs) : gb ≠ bw := by
  rintro rfl
  have h1 := h.1
  have h2 := h.2.1
  unfold Row at h2
  rw [h1] at h2
  simp at h2
end

theorem Wrote.grown {w w' : World} {b : Nat} {zs : List Int} (h : Wrote w w' b zs) : w.grownBy w' (some b) := by
  obtain ⟨_, _, _, _, _, _, _, hg⟩ := h
  exact hg
theorem grownBy_frozen {w w' : World} {row : Option Nat} (hg : w.grownBy w' row) {a : Addr} (hlt : a.block < w.heap.size) (hne : some a.block ≠ row) (h : w.frozen? a = false) : w'.frozen? a = false :=
  (World.frozen?_of_block (hg.block a.block hlt hne)).trans h

theorem available (bw gb n b : Nat) (xs : List Value) (w : World) (h : WrAt w bw gb n b xs) (hn : n ≤ 4096) :
    Calls Tryd.prog 15 #[.pointer (some ⟨bw, 0, none⟩)] w fun e w' => e = .returned (.int .i64 (4096 - n)) ∧ ∃ q, w' = w.drewN q := by
  have c1 := h.c1
  have c2 := h.c2
  go_enter Tryd.func15, Tryd.ntmps15
  go_wp2
  go_quiet (fail)
  go_wp2
  go_ret
  exact ⟨by simp, _, rfl⟩

theorem buffered (bw gb n b : Nat) (xs : List Value) (w : World) (h : WrAt w bw gb n b xs) :
    Calls Tryd.prog 16 #[.pointer (some ⟨bw, 0, none⟩)] w fun e w' => e = .returned (.int .i64 n) ∧ w' = w := by
  have c2 := h.c2
  go_enter Tryd.func16, Tryd.ntmps16
  go_wp2
  go_ret
  exact ⟨rfl, rfl⟩

theorem flush_empty (bw gb b : Nat) (xs : List Value) (w : World) (h : WrAt w bw gb 0 b xs) :
    Calls Tryd.prog 10 #[.pointer (some ⟨bw, 0, none⟩)] w fun e w' => e = .returned .nilIface ∧ w' = w := by
  have c0 := h.c0
  have c2 := h.c2
  go_enter Tryd.func10, Tryd.ntmps10
  go_wp2
  go_ret
  exact ⟨rfl, rfl⟩

set_option maxHeartbeats 1600000 in
theorem flush_some (bw gb b : Nat) (lr : Int) (zs ys : List Int) (xs : List Value) (w : World) (h : WrAt w bw gb ys.length b xs) (hx : xs.take ys.length = ic ys) (hb : BufAt w b lr zs) (hgb : gb ≠ b) (hbw : bw ≠ b) (h1 : 1 ≤ ys.length) (h2 : ys.length ≤ 4096) (hlim : zs.length ≤ 1048576) :
    Calls Tryd.prog 10 #[.pointer (some ⟨bw, 0, none⟩)] w fun e w' => e = .returned .nilIface ∧ ∃ w1 q, Wrote (w.drewN q) w1 b (zs ++ ys) ∧ w' = w1.setCell ⟨bw, 2, none⟩ (.int .i64 0) := by
  have c0 := h.c0
  have c1 := h.c1
  have c2 := h.c2
  have c3 := h.c3
  have f2 := h.f 2
  have hlt : bw < w.heap.size := Lib.lt_of_heap h.1
  go_enter Tryd.func10, Tryd.ntmps10
  go_wp2
  go_region_with (
    go_at_call 37
    refine (bufWrite b lr zs ys gb 4096 xs _ ?_ ?_ hx hgb h1 (by omega)).mono ?_
    exact hb
    exact h.2.1
    rintro e w2 ⟨rfl, hw⟩
    have hg := hw.grown
    have d2 := (hg.cell (a := ⟨bw, 2, none⟩) c2 (by simpa using hbw))
    have e2 := grownBy_frozen hg (a := ⟨bw, 2, none⟩) hlt (by simpa using hbw) f2
    clear hg)
  all_goals
    go_wp2
    go_ret
    exact ⟨rfl, w2, 1, hw, rfl⟩
end Go.Proofs.Qxb6608520aDoor
