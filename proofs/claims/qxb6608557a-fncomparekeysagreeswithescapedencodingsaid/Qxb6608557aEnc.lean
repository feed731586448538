import Derived.Test.Qxb6608557aEsc
namespace Go.Proofs.Qxb6608557a
open Go.RowKit

theorem Try.info5 : (Try.prog.info? 5).map (fun i => (i.zero, i.size, i.bytes)) = some (some (.int .u8 0), 1, 1) := by kernel_rfl

/-- The slice v owns the bytes l, in blocks from B on. -/
def Own (w : World) (B : Nat) (v : Value) (l : List UInt8) : Prop := w.ownsRow B 5 1 v l.length (uc l)

theorem Own.of {w : World} {B : Nat} {v : Value} {n m : Nat} {xs ys : List Value} {l r : List UInt8} (h : w.ownsRow B 5 1 v (n + m) (xs ++ ys)) (hx : xs = uc l) (hy : ys = uc r) (hn : n = l.length) (hm : m = r.length) : Own w B v (l ++ r) := by
  unfold Own
  rw [uc_append, List.length_append, ← hx, ← hy, ← hn, ← hm]
  exact h

theorem new_cells (w : World) (cs : List Value) (j : Nat) (u : Value) (hj : cs[j]? = some u) : (w.alloc (.cells cs.toArray 5)).cell? ((⟨w.heap.size, 0, none⟩ : Addr).add j) = some u := by
  have e : (⟨w.heap.size, 0, none⟩ : Addr).add j = ⟨w.heap.size, j, none⟩ := by
    unfold Addr.add
    split
    · rename_i h; subst h; rfl
    · simp
  rw [e, cell_of_row _ _ j _ _ _ (heap_alloc_new w _)]
  simpa using hj

theorem take_snoc (s : ByteArray) (k : Nat) (h : k < s.size) : s.data.toList.take (k + 1) = s.data.toList.take k ++ [s[k]] := by
  rw [List.take_succ_eq_append_getElem (by simpa using h)]; rfl

theorem esc_zero : esc [0] = [0, 255] := rfl
theorem esc_one (c : UInt8) (h : ¬ c = 0) : esc [c] = [c] := by simp [esc, h]

set_option maxHeartbeats 800000 in
theorem escapeInto (B : Nat) (v : Value) (l : List UInt8) (s : ByteArray) (w : World) (h : Own w B v l) (hB : B ≤ w.heap.size) (hs : s.size ≤ 1048576) (hl : l.length ≤ 4194304) :
    Calls Try.prog 10 #[v, .string s] w fun e w' => ∃ v', e = .returned v' ∧ Own w' B v' (l ++ esc s.data.toList) ∧ Below B w w' := by
  obtain ⟨i0, hi, hz0, hz1, hz2⟩ := info_parts Try.info5
  go_enter Try.func10, Try.ntmps10
  go_wp2
  go_loopw [0, 5] (fun x i wr => ∃ k : Nat, k ≤ s.size ∧ i = .int .i64 k ∧ Own wr B x (l ++ esc (s.data.toList.take k)) ∧ Below B w wr) (fun _ i _ => s.size - (intOf i).toNat)
  case atStart => exact ⟨0, Nat.zero_le _, rfl, by simpa [esc] using h, Below.refl _ _⟩
  case round =>
    obtain ⟨k, hk, rfl, hown, hbel⟩ := hrel
    clear h
    have hBr : B ≤ wr.heap.size := Nat.le_trans hB hbel.size
    by_cases hlt : k < s.size
    · have HT : Hid (s.data.toList.take (k + 1) = s.data.toList.take k ++ [s[k]]) := take_snoc s k hlt
      have hlen : (l ++ esc (s.data.toList.take k)).length ≤ 6291456 := by
        have h1 := esc_len (s.data.toList.take k)
        have h2 : (s.data.toList.take k).length ≤ k := List.length_take_le _ _
        rw [List.length_append]; omega
      have HE : Hid (esc (s.data.toList.take (k + 1)) = esc (s.data.toList.take k) ++ esc [s[k]]) := by rw [Hid, HT.out, esc_append]
      clear HT
      by_cases h0 : s[k] = 0
      · have h0' : ((s[k].toNat : Int) == 0) = true := by rw [h0]; rfl
        rw [h0, esc_zero] at HE
        generalize hL : l ++ esc (s.data.toList.take k) = L at *
        have HL : Hid (l ++ esc (s.data.toList.take k) = L) := hL
        clear hL
        clear h0
        go_wp2_with (at_builtin; refine wpList_append_own _ rfl _ _ 26 rfl B 5 i0 (.int .u8 0) 1 1 Try.underlying26 hi hz0 hz1 hz2 rfl (by decide) _ L.length (uc L) rfl (World.ownsRow.alloc hown _) ⟨wr.heap.size, 0, none⟩ 2 2 [.int .u8 0, .int .u8 255] rfl rfl (fun j u hj => new_cells wr [.int .u8 0, .int .u8 255] j u hj) (by intro u hu; simp at hu; rcases hu with rfl | rfl <;> rfl) (by unfold maxLen; omega) (by omega) (by simp; omega) ?_; intro v' w1 hown' hgrow _)
        have R1 : Hid (Own w1 B v' (l ++ esc (s.data.toList.take (k + 1)))) := by
          rw [HE.out, ← List.append_assoc, HL.out]
          exact Own.of hown' rfl rfl rfl rfl
        have R2 : Hid (Below B w w1) := (hbel.alloc hBr _).grown hgrow (by simp; omega) (fun g hg => (World.ownsRow.lt hown g hg).1)
        clear hown' hgrow hown
        go_roundw
        case rel => exact ⟨k + 1, by omega, by go_num, R1.out, R2.out⟩
        case measure => simp [intOf]; omega
      · have h0' : ((s[k].toNat : Int) == 0) = false := by
          have : ¬ s[k].toNat = 0 := fun e => h0 (UInt8.toNat_inj.1 e)
          simp; omega
        rw [esc_one _ h0] at HE
        generalize hL : l ++ esc (s.data.toList.take k) = L at *
        have HL : Hid (l ++ esc (s.data.toList.take k) = L) := hL
        clear hL
        clear h0
        go_wp2_with (at_builtin; refine wpList_append_own _ rfl _ _ 26 rfl B 5 i0 (.int .u8 0) 1 1 Try.underlying26 hi hz0 hz1 hz2 rfl (by decide) _ L.length (uc L) rfl (World.ownsRow.alloc hown _) ⟨wr.heap.size, 0, none⟩ 1 1 [.int .u8 s[k].toNat] rfl rfl (fun j u hj => new_cells wr [.int .u8 s[k].toNat] j u hj) (by intro u hu; simp at hu; subst hu; rfl) (by unfold maxLen; omega) (by omega) (by simp; omega) ?_; intro v' w1 hown' hgrow _)
        have R1 : Hid (Own w1 B v' (l ++ esc (s.data.toList.take (k + 1)))) := by
          rw [HE.out, ← List.append_assoc, HL.out]
          exact Own.of hown' rfl rfl rfl rfl
        have R2 : Hid (Below B w w1) := (hbel.alloc hBr _).grown hgrow (by simp; omega) (fun g hg => (World.ownsRow.lt hown g hg).1)
        clear hown' hgrow hown
        go_roundw
        case rel => exact ⟨k + 1, by omega, by go_num, R1.out, R2.out⟩
        case measure => simp [intOf]; omega
    · have HF : Hid (Own wr B u0 (l ++ esc s.data.toList)) := by
        rw [List.take_of_length_le (by rw [← Lib.size_eq]; omega)] at hown
        exact hown
      clear hown
      go_wp2
      go_ret
      exact ⟨_, rfl, HF.out, hbel⟩

/-- What a slice that owns bytes, one at least, is. -/
theorem Own.slice {w : World} {B : Nat} {v : Value} {l : List UInt8} (h : Own w B v l) (hl : 1 ≤ l.length) : ∃ g cap, v = .slice (some ⟨g, 0, none⟩) l.length cap ∧ g < w.heap.size ∧ ∀ j, j < l.length → w.cell? ⟨g, j, none⟩ = some (.int .u8 (l.getD j 0).toNat) := by
  rcases id h.2 with ⟨_, h0⟩ | ⟨g, cap, cur, rfl, _, hg, _⟩
  · omega
  · refine ⟨g, cap, rfl, ?_, fun j hj => ?_⟩
    · rcases Nat.lt_or_ge g w.heap.size with h' | h'
      · exact h'
      · simp [Array.getElem?_eq_none h'] at hg
    · rw [World.ownsRow.cellAt h j (by omega)]
      simp [uc, List.getElem?_eq_getElem hj, List.getD_eq_getElem?_getD]

set_option maxHeartbeats 800000 in
theorem encodeKey (a b : ByteArray) (w : World) (ha : a.size ≤ 262144) (hb : b.size ≤ 262144) :
    Calls Try.prog 7 #[.string a, .string b] w fun e w' => ∃ v', e = .returned v' ∧ Own w' w.heap.size v' (encKey a.data.toList b.data.toList) ∧ Below w.heap.size w w' := by
  obtain ⟨i0, hi, hz0, hz1, hz2⟩ := info_parts Try.info5
  have l1 := esc_len a.data.toList
  have l2 := esc_len b.data.toList
  rw [← Lib.size_eq] at l1 l2
  go_enter Try.func7, Try.ntmps7
  go_wp2_with (at_make; refine wpList_make_own _ rfl _ _ 26 rfl w.heap.size 5 i0 (.int .u8 0) 1 Try.underlying26 hi hz0 hz1 .i64 .i64 _ (2 * a.size + 2 * b.size + 4) rfl rfl (by omega) (by rw [hz2]; omega) (by unfold maxLen; omega) (Nat.le_refl _) ?_; intro w1 hown1 hgr1)
  have o1 : Own w1 w.heap.size (.slice (some ⟨w.heap.size, 0, none⟩) 0 (2 * a.size + 2 * b.size + 4)) [] := hown1
  have b1 : Below w.heap.size w w1 := (Below.refl _ _).grown hgr1 (Nat.le_refl _) (fun k h => by cases h)
  clear hown1 hgr1
  go_wp2_with (go_at_call 10; refine (escapeInto w.heap.size _ [] a _ o1 b1.size (by omega) (by simp)).mono ?_)
  rintro e w2 ⟨v2, rfl, o2, b2⟩
  rw [List.nil_append] at o2
  generalize hA : esc a.data.toList = A at *
  generalize hC : esc b.data.toList = C at *
  have HA : Hid (esc a.data.toList = A) := hA
  have HC : Hid (esc b.data.toList = C) := hC
  clear hA hC o1
  have hs2 : w.heap.size ≤ w2.heap.size := Nat.le_trans b1.size b2.size
  go_wp2_with (at_builtin; refine wpList_append_own _ rfl _ _ 26 rfl w.heap.size 5 i0 (.int .u8 0) 1 1 Try.underlying26 hi hz0 hz1 hz2 rfl (by decide) _ A.length (uc A) rfl (World.ownsRow.alloc o2 _) ⟨w2.heap.size, 0, none⟩ 2 2 [.int .u8 0, .int .u8 1] rfl rfl (fun j u hj => new_cells w2 [.int .u8 0, .int .u8 1] j u hj) (by intro u hu; simp at hu; rcases hu with rfl | rfl <;> rfl) (by unfold maxLen; omega) (by omega) (by simp; omega) ?_; intro v3 w3 hown' hgrow _)
  have o3 : Own w3 w.heap.size v3 (A ++ [0, 1]) := Own.of hown' rfl rfl rfl rfl
  have b3 : Below w.heap.size w w3 := ((b1.trans b2).alloc hs2 _).grown hgrow (by simp; omega) (fun g hg => (World.ownsRow.lt o2 g hg).1)
  clear hown' hgrow o2 b1 b2 hs2
  go_wp2_with (go_at_call 10; refine (escapeInto w.heap.size _ (A ++ [0, 1]) b _ o3 b3.size (by omega) (by simp; omega)).mono ?_)
  rintro e w4 ⟨v4, rfl, o4, b4⟩
  rw [HC.out] at o4
  have hs4 : w.heap.size ≤ w4.heap.size := Nat.le_trans b3.size b4.size
  clear o3
  have hlD : (A ++ [0, 1] ++ C).length ≤ 2 * a.size + 2 * b.size + 2 := by simp; omega
  have HD : Hid (A ++ [0, 1] ++ C ++ [0, 1] = encKey a.data.toList b.data.toList) := by rw [Hid, encKey, HA.out, HC.out]
  generalize A ++ [0, 1] ++ C = D at *
  go_wp2_with (at_builtin; refine wpList_append_own _ rfl _ _ 26 rfl w.heap.size 5 i0 (.int .u8 0) 1 1 Try.underlying26 hi hz0 hz1 hz2 rfl (by decide) _ D.length (uc D) rfl (World.ownsRow.alloc o4 _) ⟨w4.heap.size, 0, none⟩ 2 2 [.int .u8 0, .int .u8 1] rfl rfl (fun j u hj => new_cells w4 [.int .u8 0, .int .u8 1] j u hj) (by intro u hu; simp at hu; rcases hu with rfl | rfl <;> rfl) (by unfold maxLen; omega) (by omega) (by simp; omega) ?_; intro v5 w5 hown' hgrow _)
  have o5 : Own w5 w.heap.size v5 (D ++ [0, 1]) := Own.of hown' rfl rfl rfl rfl
  have b5 : Below w.heap.size w w5 := ((b3.trans b4).alloc hs4 _).grown hgrow (by simp; omega) (fun g hg => (World.ownsRow.lt o4 g hg).1)
  clear hown' hgrow o4 b3 b4 hs4
  go_wp2
  go_ret
  exact ⟨_, rfl, by rw [← HD.out]; exact o5, b5⟩
end Go.Proofs.Qxb6608557a
