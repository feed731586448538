import Derived.Test.Qxb6608628aBase
namespace Go.Proofs.Qxb6608628a
open Go.RowKit

theorem ic_length (zs : List Int) : (ic zs).length = zs.length := by simp [ic]
theorem ic_append (xs ys : List Int) : ic (xs ++ ys) = ic xs ++ ic ys := by simp [ic]

/-- A string's bytes, as numbers. -/
def sz (s : ByteArray) : List Int := s.data.toList.map fun c => (c.toNat : Int)
theorem sz_length (s : ByteArray) : (sz s).length = s.size := by unfold sz; rw [List.length_map]; exact (Lib.size_eq s).symm

/-- A line break becomes a space. -/
def blank (c : Int) : Int := if c = 13 ∨ c = 10 then 32 else c
theorem blank_blank (c : Int) : blank (blank c) = blank c := by
  unfold blank
  by_cases h : c = 13 ∨ c = 10
  · rw [if_pos h]; rfl
  · rw [if_neg h, if_neg h]

/-- What SimpleString writes of s. -/
def body (s : ByteArray) : List Int := (sz s).map blank
def lineOf (s : ByteArray) : List Int := 43 :: (body s ++ [13, 10])
theorem body_length (s : ByteArray) : (body s).length = s.size := by unfold body; rw [List.length_map, sz_length]
theorem lineOf_length (s : ByteArray) : (lineOf s).length = s.size + 3 := by unfold lineOf; simp [body_length]

theorem body_take_succ (s : ByteArray) (k : Nat) (h : k < s.size) : (body s).take (k + 1) = (body s).take k ++ [blank (s[k].toNat : Int)] := by
  have hl : k < (body s).length := by rw [body_length]; exact h
  have e : (body s)[k] = blank (s[k].toNat : Int) := by
    simp only [body, sz, List.getElem_map]
    rfl
  rw [List.take_succ_eq_append_getElem hl, e]

/-- The slice v owns the bytes l, in blocks from B on. -/
def Own (w : World) (B : Nat) (v : Value) (l : List Int) : Prop := w.ownsRow B 5 1 v l.length (ic l)

theorem Own.ne {w : World} {B b : Nat} {v u : Value} {l : List Int} {sent : Int} (h : Own w B v l) (hw : WrAt w b u sent) : v.ownBlock ≠ some b := by
  rcases h.2 with ⟨rfl, _⟩ | ⟨g, cap, cur, rfl, _, hg, _⟩
  · simp [Value.ownBlock]
  · intro e
    simp [Value.ownBlock] at e
    subst e
    unfold WrAt at hw
    rw [hw] at hg
    simp at hg

theorem Own.lt {w : World} {B : Nat} {v : Value} {l : List Int} (h : Own w B v l) (g : Nat) (hg : v.ownBlock = some g) : B ≤ g ∧ g < w.heap.size := World.ownsRow.lt h g hg

/-- 'w.buf = append(w.buf, ..)' behind its append and its store. -/
theorem step {wr w1 : World} {B b m : Nat} {v v' : Value} {l r : List Int} {sent : Int} {o : Obj} (hw : WrAt wr b v sent) (hown : Own wr B v l) (hB : B ≤ b)
    (hown' : w1.ownsRow B 5 1 v' (l.length + m) (ic l ++ ic r)) (hm : m = r.length) (hgrow : (wr.alloc o).grownBy w1 v.ownBlock) :
    WrAt (w1.setCell ⟨b, 0, none⟩ v') b v' sent ∧ Own (w1.setCell ⟨b, 0, none⟩ v') B v' (l ++ r) ∧ Below B wr (w1.setCell ⟨b, 0, none⟩ v') ∧ w1.cell? ⟨b, 0, none⟩ = some v ∧ w1.frozen? ⟨b, 0, none⟩ = false := by
  have hlt : b < wr.heap.size := Lib.lt_of_heap hw
  have hb1 : WrAt w1 b v sent := by
    unfold WrAt
    rw [hgrow.block b (by simp; omega) (Ne.symm (hown.ne hw)), Below.heap_alloc _ _ _ hlt]
    exact hw
  have ho1 : Own w1 B v' (l ++ r) := by
    unfold Own
    rw [ic_append, List.length_append, ← hm]
    exact hown'
  refine ⟨Lib.heap_setCell_same (i := 0) hb1 _, ?_, ?_, hb1.c0, hb1.f 0⟩
  · have hg : w1.grownBy (w1.setCell ⟨b, 0, none⟩ v') (some b) := ⟨rfl, rfl, rfl, by simp [World.setCell], fun k _ hk => Below.heap_setCell _ _ _ _ (fun e => hk (by simp [e]))⟩
    exact World.ownsRow.kept ho1 hg (.inr (ho1.ne hb1))
  · exact (((Below.refl B wr).alloc (by omega) o).grown hgrow (by simp; omega) (fun g hg => (hown.lt g hg).1)).setCell (p := ⟨b, 0, none⟩) hB _

theorem owns_slice {w : World} {B n : Nat} {v : Value} {xs : List Value} (h : w.ownsRow B 5 1 v n xs) : ∃ a c, v = .slice a n c := by
  rcases h.2 with ⟨rfl, rfl⟩ | ⟨g, cap, cur, rfl, _⟩
  · exact ⟨_, _, rfl⟩
  · exact ⟨_, _, rfl⟩

theorem new_cells (w : World) (cs : List Value) (j : Nat) (u : Value) (hj : cs[j]? = some u) : (w.alloc (.cells cs.toArray 5)).cell? ((⟨w.heap.size, 0, none⟩ : Addr).add j) = some u := by
  rw [Lib.addr_add, Nat.zero_add, cell_of_row _ _ j _ _ _ (heap_alloc_new w _)]
  simpa using hj

set_option maxHeartbeats 1600000 in
theorem line (B b : Nat) (ao : Option Addr) (co : Nat) (l : List Int) (sent : Int) (s : ByteArray) (w : World) (hw : WrAt w b (.slice ao l.length co) sent) (hown : Own w B (.slice ao l.length co) l) (hB : B ≤ b) (hs : s.size ≤ 1048576) (hl : l.length ≤ 16777216) :
    Calls Try.prog 14 #[.pointer (some ⟨b, 0, none⟩), .int .u8 43, .string s] w fun e w' => e = .returned (.tuple #[]) ∧ ∃ a' c', WrAt w' b (.slice a' (l ++ lineOf s).length c') sent ∧ Own w' B (.slice a' (l ++ lineOf s).length c') (l ++ lineOf s) ∧ Below B w w' := by
  obtain ⟨i0, hi, hz0, hz1, hz2⟩ := info_parts Try.info5
  have hlt : b < w.heap.size := Lib.lt_of_heap hw
  have c0 := hw.c0
  have f0 := hw.f 0
  go_enter Try.func14, Try.ntmps14
  go_wp2_with (at_builtin; refine wpList_append_own _ rfl _ _ 22 rfl B 5 i0 (.int .u8 0) 1 1 Try.underlying22 hi hz0 hz1 hz2 rfl (by decide) _ l.length (ic l) rfl (World.ownsRow.alloc hown _) ⟨w.heap.size, 0, none⟩ 1 1 (ic [43]) rfl rfl (fun j u hj => new_cells w [.int .u8 43] j u hj) (by intro u hu; simp [ic] at hu; subst hu; rfl) (by unfold maxLen; omega) (by omega) (by simp; omega) ?_; intro v1 w1 hown1 hgrow1 _; obtain ⟨a1, c1, rfl⟩ := owns_slice hown1; obtain ⟨s1, s2, s3, s4, s5⟩ := step hw hown hB hown1 rfl hgrow1; clear hown1 hgrow1 hw hown c0 f0)
  go_loopw [20] (fun i wr => ∃ k : Nat, k ≤ s.size ∧ i = .int .i64 k ∧ ∃ a c, WrAt wr b (.slice a (l.length + 1 + k) c) sent ∧ Own wr B (.slice a (l.length + 1 + k) c) (l ++ 43 :: (body s).take k) ∧ Below B w wr) (fun i _ => s.size - (intOf i).toNat)
  case atStart => exact ⟨0, Nat.zero_le _, rfl, a1, c1, s1, s2, s3⟩
  case round =>
    obtain ⟨k, hk, rfl, a, c, hw, hown, hbel⟩ := hrel
    clear s1 s2 s3 s4 s5
    have hsz := hbel.size
    obtain ⟨P, hP⟩ : ∃ P, l ++ 43 :: (body s).take k = P := ⟨_, rfl⟩
    have hPl : P.length = l.length + 1 + k := by rw [← hP]; simp [body_length]; omega
    rw [← hPl] at hw hown
    rw [hP] at hown
    have HP : Hid (l ++ 43 :: (body s).take k = P) := hP
    have HPL : Hid (P.length = l.length + 1 + k) := hPl
    have hPm : P.length ≤ 33554432 := by omega
    clear hP hPl
    have c0 := hw.c0
    have f0 := hw.f 0
    have hwlt : b < wr.heap.size := Lib.lt_of_heap hw
    by_cases hlt2 : k < s.size
    · have HT : Hid ((body s).take (k + 1) = (body s).take k ++ [blank (s[k].toNat : Int)]) := body_take_succ s k hlt2
      by_cases h13 : (s[k].toNat : Int) = 13
      · have HBL : Hid (blank (s[k].toNat : Int) = 32) := by rw [Hid, h13]; rfl
        have g1 : ((s[k].toNat : Int) == 13) = true := by simpa using h13
        clear h13
        go_wp2_with (at_builtin; refine wpList_append_own _ rfl _ _ 22 rfl B 5 i0 (.int .u8 0) 1 1 Try.underlying22 hi hz0 hz1 hz2 rfl (by decide) _ P.length (ic P) rfl (World.ownsRow.alloc hown _) ⟨wr.heap.size, 0, none⟩ 1 1 (ic [32]) rfl rfl (fun j u hj => new_cells wr (ic [32]) j u hj) (by intro u hu; simp [ic] at hu; subst hu; rfl) (by unfold maxLen; omega) (by omega) (by simp; omega) ?_; intro v1 w1 hown1 hgrow1 _; obtain ⟨a1, c1, rfl⟩ := owns_slice hown1; obtain ⟨s1, s2, s3, s4, s5⟩ := step hw hown hB hown1 rfl hgrow1; clear hown1 hgrow1 hw hown c0 f0)
        have R : Hid (∃ a c, WrAt (w1.setCell ⟨b, 0, none⟩ (.slice a1 (P.length + 1) c1)) b (.slice a (l.length + 1 + (k + 1)) c) sent ∧ Own (w1.setCell ⟨b, 0, none⟩ (.slice a1 (P.length + 1) c1)) B (.slice a (l.length + 1 + (k + 1)) c) (l ++ 43 :: (body s).take (k + 1)) ∧ Below B w (w1.setCell ⟨b, 0, none⟩ (.slice a1 (P.length + 1) c1))) := by
          refine ⟨a1, c1, ?_, ?_, hbel.trans s3⟩
          · rw [← Nat.add_assoc, ← HPL.out]; exact s1
          · rw [← Nat.add_assoc, ← HPL.out, HT.out, HBL.out, ← List.cons_append, ← List.append_assoc, HP.out]; exact s2
        clear s1 s2 s3 s4 s5
        go_wp2
        go_roundw
        case rel => exact ⟨k + 1, by omega, by go_num, R.out⟩
        case measure => simp [intOf]; omega
      · by_cases h10 : (s[k].toNat : Int) = 10
        · have HBL : Hid (blank (s[k].toNat : Int) = 32) := by rw [Hid, h10]; rfl
          have g1 : ((s[k].toNat : Int) == 13) = false := by simpa using h13
          have g2 : ((s[k].toNat : Int) == 10) = true := by simpa using h10
          clear h13 h10
          go_wp2_with (at_builtin; refine wpList_append_own _ rfl _ _ 22 rfl B 5 i0 (.int .u8 0) 1 1 Try.underlying22 hi hz0 hz1 hz2 rfl (by decide) _ P.length (ic P) rfl (World.ownsRow.alloc hown _) ⟨wr.heap.size, 0, none⟩ 1 1 (ic [32]) rfl rfl (fun j u hj => new_cells wr (ic [32]) j u hj) (by intro u hu; simp [ic] at hu; subst hu; rfl) (by unfold maxLen; omega) (by omega) (by simp; omega) ?_; intro v1 w1 hown1 hgrow1 _; obtain ⟨a1, c1, rfl⟩ := owns_slice hown1; obtain ⟨s1, s2, s3, s4, s5⟩ := step hw hown hB hown1 rfl hgrow1; clear hown1 hgrow1 hw hown c0 f0)
          have R : Hid (∃ a c, WrAt (w1.setCell ⟨b, 0, none⟩ (.slice a1 (P.length + 1) c1)) b (.slice a (l.length + 1 + (k + 1)) c) sent ∧ Own (w1.setCell ⟨b, 0, none⟩ (.slice a1 (P.length + 1) c1)) B (.slice a (l.length + 1 + (k + 1)) c) (l ++ 43 :: (body s).take (k + 1)) ∧ Below B w (w1.setCell ⟨b, 0, none⟩ (.slice a1 (P.length + 1) c1))) := by
            refine ⟨a1, c1, ?_, ?_, hbel.trans s3⟩
            · rw [← Nat.add_assoc, ← HPL.out]; exact s1
            · rw [← Nat.add_assoc, ← HPL.out, HT.out, HBL.out, ← List.cons_append, ← List.append_assoc, HP.out]; exact s2
          clear s1 s2 s3 s4 s5
          go_wp2
          go_roundw
          case rel => exact ⟨k + 1, by omega, by go_num, R.out⟩
          case measure => simp [intOf]; omega
        · have HBL : Hid (blank (s[k].toNat : Int) = (s[k].toNat : Int)) := by rw [Hid, blank, if_neg (by omega)]
          have g1 : ((s[k].toNat : Int) == 13) = false := by simpa using h13
          have g2 : ((s[k].toNat : Int) == 10) = false := by simpa using h10
          clear h13 h10
          go_wp2_with (at_builtin; refine wpList_append_own _ rfl _ _ 22 rfl B 5 i0 (.int .u8 0) 1 1 Try.underlying22 hi hz0 hz1 hz2 rfl (by decide) _ P.length (ic P) rfl (World.ownsRow.alloc hown _) ⟨wr.heap.size, 0, none⟩ 1 1 (ic [(s[k].toNat : Int)]) rfl rfl (fun j u hj => new_cells wr (ic [(s[k].toNat : Int)]) j u hj) (by intro u hu; simp [ic] at hu; subst hu; rfl) (by unfold maxLen; omega) (by omega) (by simp; omega) ?_; intro v1 w1 hown1 hgrow1 _; obtain ⟨a1, c1, rfl⟩ := owns_slice hown1; obtain ⟨s1, s2, s3, s4, s5⟩ := step hw hown hB hown1 rfl hgrow1; clear hown1 hgrow1 hw hown c0 f0)
          have R : Hid (∃ a c, WrAt (w1.setCell ⟨b, 0, none⟩ (.slice a1 (P.length + 1) c1)) b (.slice a (l.length + 1 + (k + 1)) c) sent ∧ Own (w1.setCell ⟨b, 0, none⟩ (.slice a1 (P.length + 1) c1)) B (.slice a (l.length + 1 + (k + 1)) c) (l ++ 43 :: (body s).take (k + 1)) ∧ Below B w (w1.setCell ⟨b, 0, none⟩ (.slice a1 (P.length + 1) c1))) := by
            refine ⟨a1, c1, ?_, ?_, hbel.trans s3⟩
            · rw [← Nat.add_assoc, ← HPL.out]; exact s1
            · rw [← Nat.add_assoc, ← HPL.out, HT.out, HBL.out, ← List.cons_append, ← List.append_assoc, HP.out]; exact s2
          clear s1 s2 s3 s4 s5
          go_wp2
          go_roundw
          case rel => exact ⟨k + 1, by omega, by go_num, R.out⟩
          case measure => simp [intOf]; omega
    · go_wp2_with (at_builtin; refine wpList_append_own _ rfl _ _ 22 rfl B 5 i0 (.int .u8 0) 1 1 Try.underlying22 hi hz0 hz1 hz2 rfl (by decide) _ P.length (ic P) rfl (World.ownsRow.alloc hown _) ⟨wr.heap.size, 0, none⟩ 2 2 (ic [13, 10]) rfl rfl (fun j u hj => new_cells wr (ic [13, 10]) j u hj) (by intro u hu; simp [ic] at hu; rcases hu with rfl | rfl <;> rfl) (by unfold maxLen; omega) (by omega) (by simp; omega) ?_; intro v1 w1 hown1 hgrow1 _; obtain ⟨a1, c1, rfl⟩ := owns_slice hown1; obtain ⟨s1, s2, s3, s4, s5⟩ := step hw hown hB hown1 rfl hgrow1; clear hown1 hgrow1 hw hown c0 f0)
      have R : Hid (∃ a c, WrAt (w1.setCell ⟨b, 0, none⟩ (.slice a1 (P.length + 2) c1)) b (.slice a (l ++ lineOf s).length c) sent ∧ Own (w1.setCell ⟨b, 0, none⟩ (.slice a1 (P.length + 2) c1)) B (.slice a (l ++ lineOf s).length c) (l ++ lineOf s) ∧ Below B w (w1.setCell ⟨b, 0, none⟩ (.slice a1 (P.length + 2) c1))) := by
        have e : l ++ lineOf s = P ++ [13, 10] := by
          rw [← HP.out, List.take_of_length_le (by rw [body_length]; omega)]
          simp [lineOf]
        rw [e]
        refine ⟨a1, c1, ?_, ?_, hbel.trans s3⟩
        · rw [List.length_append]; exact s1
        · rw [List.length_append]; exact s2
      clear s1 s2 s3 s4 s5
      go_end0
      exact ⟨rfl, R.out⟩
end Go.Proofs.Qxb6608628a
