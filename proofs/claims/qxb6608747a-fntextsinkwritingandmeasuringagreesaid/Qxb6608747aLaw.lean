import Derived.Test.Qxb6608747aPieces
import Derived.Laws.IdiomStrings
import Derived.Lib.BufferRead
namespace Go.Proofs.Qxb6608747a
open Go.RowKit

/-- The slice v owns the bytes l, in blocks from B on. -/
def Own (w : World) (B : Nat) (v : Value) (l : List UInt8) : Prop := w.ownsRow B 5 1 v l.length (Lib.byteCells l)

theorem Own.of {w : World} {B : Nat} {v : Value} {n m : Nat} {xs ys : List Value} {l r : List UInt8} (h : w.ownsRow B 5 1 v (n + m) (xs ++ ys)) (hx : xs = Lib.byteCells l) (hy : ys = Lib.byteCells r) (hn : n = l.length) (hm : m = r.length) : Own w B v (l ++ r) := by
  unfold Own
  rw [Lib.byteCells_append, List.length_append, ← hx, ← hy, ← hn, ← hm]
  exact h

theorem new_cells (w : World) (cs : List Value) (j : Nat) (u : Value) (hj : cs[j]? = some u) : (w.alloc (.cells cs.toArray 5)).cell? ((⟨w.heap.size, 0, none⟩ : Addr).add j) = some u := by
  rw [Lib.addr_add, Nat.zero_add, cell_of_row _ _ j _ _ _ (heap_alloc_new w _)]
  simpa using hj

theorem take_snoc (s : ByteArray) (k : Nat) (h : k < s.size) : s.data.toList.take (k + 1) = s.data.toList.take k ++ [s[k]] := by
  rw [List.take_succ_eq_append_getElem (by simpa using h)]; rfl

/-- 'string(joined)'. -/
theorem conv {w : World} {B : Nat} {v : Value} {l : List UInt8} (h : Own w B v l) : (convert 27 9 v).run Try.prog w = .ok (.string ⟨l.toArray⟩) w := by
  rcases id h.2 with ⟨rfl, h0⟩ | ⟨g, cap, cur, rfl, _, hg, _⟩
  · have hl : l = [] := List.eq_nil_of_length_eq_zero h0
    subst hl
    exact Lib.run_convert_nil_bytes w 27 9 5 0 Try.underlying27 Try.underlying5 Try.underlying9
  · refine run_convert_bytes_back w 27 9 5 ⟨g, 0, none⟩ cap l Try.underlying27 Try.underlying5 Try.underlying9 (fun j hj => ?_)
    rw [Lib.addr_add, Nat.zero_add, World.ownsRow.cellAt h j (by omega)]
    simp [Lib.byteCells, List.getElem?_eq_getElem hj]

theorem wrap_more (x : Int) (a b : Nat) : wrap64 (wrap64 (x + a) + b) = wrap64 (x + (a + b : Nat)) := by
  unfold wrap64; omega
theorem wrap_zero (x : Int) (h : -9223372036854775808 ≤ x ∧ x ≤ 9223372036854775807) : wrap64 (x + (0 : Nat)) = x := by
  unfold wrap64; omega

theorem Sinks.below {w w' : World} {N : Nat} {l : List UInt8} {n m : Int} (h : Sinks w N l n m) (hb : Below w.heap.size w w') : Sinks w' N l n m := by
  obtain ⟨h0, h1, h2⟩ := h
  have bk : ∀ p, Lib.BuilderAt 32 5 N N p (Lib.byteCells l) w → Lib.BuilderAt 32 5 N N p (Lib.byteCells l) w' := by
    rintro p ⟨hB, u, hk, hown, hne⟩
    refine ⟨hB, u, (hb.block N (Lib.lt_of_heap hk)).trans hk, hown.kept (row := none) ⟨hb.os, hb.tape, hb.output, hb.size, fun k hk _ => hb.block k hk⟩ ?_, hne⟩
    cases hv : u.ownBlock with
    | none => exact .inl rfl
    | some g => exact .inr (by simp)
  refine ⟨?_, (hb.block _ (Lib.lt_of_heap h1)).trans h1, (hb.block _ (Lib.lt_of_heap h2)).trans h2⟩
  rcases h0 with h0 | h0
  · exact .inl (bk _ h0)
  · exact .inr (bk _ h0)

theorem flatS_size (ss : List ByteArray) (k : Nat) : (⟨(flat ss k).toArray⟩ : ByteArray).size = tot ss k := by
  rw [Lib.size_eq]
  show (flat ss k).toArray.toList.length = _
  rw [List.toList_toArray, flat_length]

set_option maxRecDepth 100000 in
set_option maxHeartbeats 6400000 in
theorem law (start : Int) (a : Option Addr) (n c : Nat) (ss : List ByteArray) (w : World) (hst : -9223372036854775808 ≤ start ∧ start ≤ 9223372036854775807) (hp : PAt w a n ss) (hn : n ≤ maxLen) (hs : ∀ j, j < n → (pc ss j).size ≤ maxLen) :
    Calls Try.prog 3 #[.int .i64 start, .slice a n c] w fun e w' => e = .returned (.bool true) ∧ Below w.heap.size w w' := by
  obtain ⟨i0, hi, hz0, hz1, hz2⟩ := info_parts Try.info5
  have HST := hide hst
  have HI := hide (And.intro hi (And.intro hz0 (And.intro hz1 hz2)))
  clear hst hi hz0 hz1 hz2
  go_enter Try.func3, Try.ntmps3
  go_wp2_with (go_at_call 4; refine (bytes4 start a n c ss _ hp hn hs).mono ?_)
  rintro e w' ⟨rfl | ⟨rfl, hle⟩, rfl⟩
  · clear hs hp
    go_wp2
    go_ret
    exact ⟨rfl, Below.refl _ _⟩
  have HP := hide hp
  have hle' := hle
  clear hs hn hp
  have HLE := hide hle
  clear hle
  go_wp2
  go_loop [5, 6] (fun z i => ∃ k : Nat, k ≤ n ∧ i = .int .i64 k ∧ tot ss k + 16 * k ≤ 1048576 ∧ z = .int .i64 ((tot ss k : Nat) + 16 * (k : Int))) (fun _ i => n - (intOf i).toNat)
  case atStart => exact ⟨0, Nat.zero_le _, rfl, by simp [tot], by simp [tot]⟩
  case round =>
    obtain ⟨k, hk, rfl, hle, rfl⟩ := hrel
    by_cases hlt : k < n
    · obtain ⟨g, off, rfl, hr⟩ : ∃ g off, a = some ⟨g, off, none⟩ ∧ ∀ j, j < n → w'.cell? ⟨g, off + j, none⟩ = some (.string (pc ss j)) := by
        rcases HP.out with h | ⟨g, off, h1, _, h2⟩
        · omega
        · exact ⟨g, off, h1, h2⟩
      have hcx := hr k hlt
      have hpc := pc_le ss hlt
      have hsz : (pc ss k).size ≤ 1048576 := by have := HLE.out; omega
      have HT := hide (show tot ss (k + 1) = tot ss k + (pc ss k).size from rfl)
      clear hpc hle'
      generalize pc ss k = s at *
      generalize tot ss k = tk at *
      clear hr
      have hle2 : (tk : Int) + 16 * (k : Int) ≤ 1048576 := by omega
      clear hle
      by_cases h2 : (1048576 : Int) < (tk : Int) + 16 * (k : Int) + ((s.size : Int) + 16)
      · go_wp2
        go_ret
        exact ⟨rfl, Below.refl _ _⟩
      · go_wp2
        go_round
        case rel => exact ⟨k + 1, by omega, by go_num, by rw [HT.out]; omega, by rw [HT.out]; go_num⟩
        case measure => simp [intOf]; omega
    · obtain rfl : k = n := by omega
      clear hle'
      go_wp2_with (go_at_call 5; refine (newWriting start _).mono ?_; rintro e w1 ⟨rfl, rfl⟩)
      refine (newMeasuring start _).mono ?_
      rintro e w2 ⟨rfl, rfl⟩
      have hmade := made start w'
      have hbm : Below w'.heap.size w' (((w'.alloc (.cells #[.pointer none, .slice none 0 0] 32)).alloc (.cells #[.pointer (some ⟨w'.heap.size, 0, none⟩), .int .i64 start] 34)).alloc (.cells #[.pointer none, .int .i64 start] 34)) :=
        (((Below.refl _ _).alloc (Nat.le_refl _) _).alloc (by simp) _).alloc (by simp; omega) _
      have hs2 : ((w'.alloc (.cells #[.pointer none, .slice none 0 0] 32)).alloc (.cells #[.pointer (some ⟨w'.heap.size, 0, none⟩), .int .i64 start] 34)).heap.size = w'.heap.size + 2 := by simp
      rw [hs2]
      generalize (((w'.alloc (.cells #[.pointer none, .slice none 0 0] 32)).alloc (.cells #[.pointer (some ⟨w'.heap.size, 0, none⟩), .int .i64 start] 34)).alloc (.cells #[.pointer none, .int .i64 start] 34)) = W at *
      have HM := hide hmade
      have HB := hide hbm
      have HP2 : Hid (k = 0 ∨ ∃ g off, a = some ⟨g, off, none⟩ ∧ g < w'.heap.size ∧ ∀ j, j < k → W.cell? ⟨g, off + j, none⟩ = some (.string (pc ss j))) := by
        rcases HP.out with h | ⟨g, off, h1, h2, h3⟩
        · exact .inl h
        · exact .inr ⟨g, off, h1, h2, fun j hj => (hbm.cell (p := ⟨g, off + j, none⟩) h2).trans (h3 j hj)⟩
      clear hmade hbm hs2 HP
      generalize hN : w'.heap.size = N at *
      have HN := hide hN
      clear hN
      go_wp2
      go_loopw [9] (fun i wr => ∃ j : Nat, j ≤ k ∧ i = .int .i64 j ∧ Sinks wr N (flat ss j) (wrap64 (start + (tot ss j : Nat))) (wrap64 (start + (tot ss j : Nat))) ∧ Below N W wr) (fun i _ => k - (intOf i).toNat)
      case atStart => exact ⟨0, Nat.zero_le _, rfl, by rw [tot, wrap_zero start HST.out]; exact HM.out, Below.refl _ _⟩
      case round =>
        obtain ⟨j, hj, rfl, hsk, hbr⟩ := hrel
        by_cases hlt2 : j < k
        · obtain ⟨g, off, rfl, hg, hr⟩ : ∃ g off, a = some ⟨g, off, none⟩ ∧ g < N ∧ ∀ j, j < k → W.cell? ⟨g, off + j, none⟩ = some (.string (pc ss j)) := by
            rcases HP2.out with h | h
            · omega
            · exact h
          have hcx : wr.cell? ⟨g, off + j, none⟩ = some (.string (pc ss j)) := (hbr.cell (p := ⟨g, off + j, none⟩) hg).trans (hr j hlt2)
          have hpc := pc_le ss hlt2
          have hfl := flat_length ss j
          have hln : (flat ss j).length + (pc ss j).size ≤ 140737488355328 := by have := HLE.out; omega
          have HF := hide (show flat ss (j + 1) = flat ss j ++ (pc ss j).data.toList from rfl)
          have HT := hide (show tot ss (j + 1) = tot ss j + (pc ss j).size from rfl)
          clear hpc hfl hr
          have HSK := hide hsk
          clear hsk
          go_wp2_with fail
          refine (addW N _ _ _ (pc ss j) _ HSK.out hln).mono ?_
          rintro e w3 ⟨rfl, hs3, hb3⟩
          have hcx3 : w3.cell? ⟨g, off + j, none⟩ = some (.string (pc ss j)) := (hb3.cell (p := ⟨g, off + j, none⟩) hg).trans hcx
          have HS3 := hide hs3
          clear hcx hs3 HSK
          go_wp2_with fail
          refine (addM N _ _ _ (pc ss j) _ HS3.out).mono ?_
          rintro e w4 ⟨rfl, hs4, hb4⟩
          rw [wrap_more, ← HT.out, ← HF.out] at hs4
          have HS4 := hide hs4
          have hb5 := hide ((hbr.trans hb3).trans hb4)
          clear hs4 hb3 hb4 hbr hcx3
          go_wp2
          go_roundw
          case rel => exact ⟨j + 1, by omega, by go_num, HS4.out, hb5.out⟩
          case measure => simp [intOf]; omega
        · obtain rfl : j = k := by omega
          obtain ⟨V, rfl⟩ : ∃ V, V = wr := ⟨_, rfl⟩
          have HSK := hide hsk
          have hNw : N ≤ V.heap.size := by have h1 := HB.out.size; have h2 := hbr.size; rw [HN.out] at h1; omega
          have hkb : tot ss j ≤ 1048576 := by omega
          obtain ⟨hi, hz0, hz1, hz2⟩ := HI.out
          clear hsk
          go_wp2_with (at_make; refine wpList_make_own _ rfl _ _ 27 rfl V.heap.size 5 i0 (.int .u8 0) 1 Try.underlying27 hi hz0 hz1 .i64 .i64 _ (tot ss j + 16 * j) rfl rfl (by omega) (by rw [hz2]; omega) (by unfold maxLen; omega) (Nat.le_refl _) ?_; intro w5 hown5 hgr5)
          have o5 : Own w5 V.heap.size (.slice (some ⟨V.heap.size, 0, none⟩) 0 (tot ss j + 16 * j)) (flat ss 0) := hown5
          have b5 : Below V.heap.size V w5 := (Below.refl _ _).grown hgr5 (Nat.le_refl _) (fun k h => by cases h)
          clear hown5 hgr5
          have HBR := hide hbr
          clear hbr
          go_loopw [10, 11] (fun v i wq => ∃ t : Nat, t ≤ j ∧ i = .int .i64 t ∧ Own wq V.heap.size v (flat ss t) ∧ Below V.heap.size V wq) (fun _ i _ => j - (intOf i).toNat)
          case atStart => exact ⟨0, Nat.zero_le _, rfl, o5, b5⟩
          case round =>
            obtain ⟨t, ht, rfl, hown, hbq⟩ := hrel
            clear o5 b5
            by_cases hlt3 : t < j
            · obtain ⟨g, off, rfl, hg, hr⟩ : ∃ g off, a = some ⟨g, off, none⟩ ∧ g < N ∧ ∀ i, i < j → W.cell? ⟨g, off + i, none⟩ = some (.string (pc ss i)) := by
                rcases HP2.out with h | h
                · omega
                · exact h
              have hcx : wr.cell? ⟨g, off + t, none⟩ = some (.string (pc ss t)) := (hbq.cell (p := ⟨g, off + t, none⟩) (Nat.lt_of_lt_of_le hg hNw)).trans ((HBR.out.cell (p := ⟨g, off + t, none⟩) hg).trans (hr t hlt3))
              have hpc := pc_le ss hlt3
              have hfl := flat_length ss t
              have HF := hide (show flat ss (t + 1) = flat ss t ++ (pc ss t).data.toList from rfl)
              have hpl : (flat ss t).length + (pc ss t).size ≤ 1048576 := by omega
              clear hpc hfl hr
              generalize pc ss t = p at *
              generalize hFt : flat ss t = Ft at *
              clear hFt
              have HOWN := hide hown
              have HBQ := hide hbq
              clear hown hbq
              go_wp2
              clear hcx
              go_loopw [10, 13] (fun v i wq => ∃ m : Nat, m ≤ p.size ∧ i = .int .i64 m ∧ Own wq V.heap.size v (Ft ++ p.data.toList.take m) ∧ Below V.heap.size V wq) (fun _ i _ => p.size - (intOf i).toNat)
              case atStart => exact ⟨0, Nat.zero_le _, rfl, by simpa using HOWN.out, HBQ.out⟩
              case round =>
                obtain ⟨m, hm, rfl, hown, hbq⟩ := hrel
                have hBw : V.heap.size ≤ wr.heap.size := hbq.size
                by_cases hlt4 : m < p.size
                · have HT := hide (take_snoc p m hlt4)
                  have hlen : (Ft ++ p.data.toList.take m).length ≤ 1048576 := by
                    have h2 : (p.data.toList.take m).length ≤ m := List.length_take_le _ _
                    rw [List.length_append]; omega
                  generalize hL : Ft ++ p.data.toList.take m = L at *
                  have HL := hide hL
                  clear hL
                  go_wp2_with (at_builtin; refine wpList_append_own _ rfl _ _ 27 rfl V.heap.size 5 i0 (.int .u8 0) 1 1 Try.underlying27 hi hz0 hz1 hz2 rfl (by decide) _ L.length (Lib.byteCells L) rfl (World.ownsRow.alloc hown _) ⟨wr.heap.size, 0, none⟩ 1 1 [.int .u8 p[m].toNat] rfl rfl (fun j u hj => new_cells wr [.int .u8 p[m].toNat] j u hj) (by intro u hu; simp at hu; subst hu; rfl) (by unfold maxLen; omega) (by omega) (by simp; omega) ?_; intro v' w7 hown' hgrow _)
                  have R1 : Hid (Own w7 V.heap.size v' (Ft ++ p.data.toList.take (m + 1))) := by
                    rw [HT.out, ← List.append_assoc, HL.out]
                    exact Own.of hown' rfl rfl rfl rfl
                  have R2 : Hid (Below V.heap.size V w7) := (hbq.alloc hBw _).grown hgrow (by simp; omega) (fun g hg => (World.ownsRow.lt hown g hg).1)
                  clear hown' hgrow hown hbq
                  go_wp2
                  go_roundw
                  case rel => exact ⟨m + 1, by omega, by go_num, R1.out, R2.out⟩
                  case measure => simp [intOf]; omega
                · have R1 : Hid (Own wr V.heap.size u10 (flat ss (t + 1))) := by
                    rw [HF.out]
                    rw [List.take_of_length_le (by rw [← Lib.size_eq]; omega)] at hown
                    exact hown
                  have R2 := hide hbq
                  clear hown hbq
                  go_wp2
                  go_roundw
                  case rel => exact ⟨t + 1, by omega, by go_num, R1.out, R2.out⟩
                  case measure => simp [intOf]; omega
            · obtain rfl : t = j := by omega
              have hcv := conv hown
              have HS9 := hide (HSK.out.below hbq)
              have HB9 := hide hbq
              have hsS := flatS_size ss t
              generalize hS : (⟨(flat ss t).toArray⟩ : ByteArray) = S at *
              have HSS := hide hsS
              have hS1 : S.size ≤ 1048576 := by omega
              have HSE := hide hS
              clear hown hbq hsS hS
              go_wp2_with fail
              refine (textOf N _ _ _ _ HS9.out).mono ?_
              rintro e w10 ⟨rfl, hb10, hn10, hm10⟩
              rw [HSE.out]
              rw [← HSS.out] at hn10 hm10
              have HN1 := hide hn10
              have HM1 := hide hm10
              have hfin : Hid (Below w'.heap.size w' w10) := by
                have e1 : Below N w' W := HB.out
                have e2 : Below N w' V := e1.trans HBR.out
                have e3 : Below N V wr := HB9.out.mono hNw
                have e4 := (e2.trans e3).trans hb10
                rw [Hid, HN.out]
                exact e4
              clear hb10 hn10 hm10 hcv
              go_wp2_with fail
              refine (countN _ _ _ _ HN1.out).mono ?_
              rintro e w11 ⟨rfl, rfl⟩
              go_wp2_with fail
              refine (countN _ _ _ _ HM1.out).mono ?_
              rintro e w12 ⟨rfl, rfl⟩
              go_wp2
              go_ret
              exact ⟨rfl, hfin.out⟩
end Go.Proofs.Qxb6608747a
