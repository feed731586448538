import Derived.Test.Qxb6608628aLine
namespace Go.Proofs.Qxb6608628a
open Go.RowKit

theorem simpleString (B b : Nat) (ao : Option Addr) (co : Nat) (l : List Int) (sent : Int) (s : ByteArray) (w : World) (hw : WrAt w b (.slice ao l.length co) sent) (hown : Own w B (.slice ao l.length co) l) (hB : B ≤ b) (hs : s.size ≤ 1048576) (hl : l.length ≤ 16777216) :
    Calls Try.prog 8 #[.pointer (some ⟨b, 0, none⟩), .string s] w fun e w' => e = .returned (.tuple #[]) ∧ ∃ a' c', WrAt w' b (.slice a' (l ++ lineOf s).length c') sent ∧ Own w' B (.slice a' (l ++ lineOf s).length c') (l ++ lineOf s) ∧ Below B w w' := by
  go_enter Try.func8, Try.ntmps8
  go_wp2_with (go_at_call 14; refine (line B b ao co l sent s _ hw hown hB hs hl).mono ?_)
  rintro e w1 ⟨rfl, h⟩
  have H : Hid _ := h
  clear h
  go_wp2
  go_end0
  exact ⟨rfl, H.out⟩

/-- The slice at a (its length that of l) reads as l: nil and nothing, or cells from a row's head on. -/
def At (w : World) (a : Option Addr) (l : List Int) : Prop :=
  (a = none ∧ l = []) ∨ ∃ g, a = some ⟨g, 0, none⟩ ∧ g < w.heap.size ∧ ∀ j, j < l.length → w.cell? ⟨g, j, none⟩ = some (.int .u8 (l.getD j 0))

theorem At.below {w w' : World} {a : Option Addr} {l : List Int} (h : At w a l) (hb : Below w.heap.size w w') : At w' a l := by
  rcases h with h | ⟨g, rfl, hlt, hr⟩
  · exact .inl h
  · exact .inr ⟨g, rfl, Nat.lt_of_lt_of_le hlt hb.size, fun j hj => (hb.cell (p := ⟨g, j, none⟩) hlt).trans (hr j hj)⟩

theorem ic_get (fs : List Int) (i : Nat) (hi : i < fs.length) : (ic fs)[i]? = some (.int .u8 (fs.getD i 0)) := by
  simp [ic, List.getElem?_eq_getElem hi, List.getD_eq_getElem?_getD]

theorem Own.at {w : World} {B : Nat} {a : Option Addr} {c : Nat} {l : List Int} (h : Own w B (.slice a l.length c) l) : At w a l := by
  rcases id h.2 with ⟨hv, h0⟩ | ⟨g, cap, cur, hv, _, hg, _⟩
  · simp at hv
    exact .inl ⟨hv.1, List.eq_nil_of_length_eq_zero h0⟩
  · simp at hv
    obtain ⟨rfl, rfl⟩ := hv
    refine .inr ⟨g, rfl, Lib.lt_of_heap hg, fun j hj => ?_⟩
    rw [World.ownsRow.cellAt h j (by omega), ic_get l j hj]

theorem DataAt.at {w : World} {a : Option Addr} {l : List Int} (h : DataAt w a l) : At w a l := by
  rcases h with h | ⟨g, rfl, hr⟩
  · exact .inl h
  · exact .inr ⟨g, rfl, hr.lt, fun j hj => by rw [hr.cell j, ic_get l j hj]⟩

theorem getD_left (xs ys : List Int) (k : Nat) (h : k < xs.length) : (xs ++ ys).getD k 0 = xs.getD k 0 := by
  simp [List.getD_eq_getElem?_getD, List.getElem?_append_left h]
theorem getD_right (xs ys : List Int) (k : Nat) : (xs ++ ys).getD (xs.length + k) 0 = ys.getD k 0 := by
  simp [List.getD_eq_getElem?_getD, List.getElem?_append_right]
theorem getD_cons_succ (x : Int) (xs : List Int) (k : Nat) : (x :: xs).getD (k + 1) 0 = xs.getD k 0 := rfl

theorem body_get (s : ByteArray) (k : Nat) (h : k < s.size) : (body s).getD k 0 = blank (s[k].toNat : Int) := by
  have hl : k < (body s).length := by rw [body_length]; exact h
  rw [List.getD_eq_getElem?_getD, List.getElem?_eq_getElem hl]
  simp only [body, sz, List.getElem_map]
  rfl

set_option maxHeartbeats 1600000 in
theorem lineAfter (go co : Nat) (ab : Option Addr) (cb : Nat) (ys : List Int) (s : ByteArray) (w : World) (hout : ∀ j, j < (ys ++ lineOf s).length → w.cell? ⟨go, j, none⟩ = some (.int .u8 ((ys ++ lineOf s).getD j 0))) (hbef : At w ab ys) (hl : ys.length ≤ 4194304) (hs : s.size ≤ 1048576) :
    Calls Try.prog 10 #[.slice (some ⟨go, 0, none⟩) (ys.length + s.size + 3) co, .slice ab ys.length cb, .string s] w fun e w' => e = .returned (.bool true) ∧ Below w.heap.size w w' := by
  have hlen : (ys ++ lineOf s).length = ys.length + s.size + 3 := by rw [List.length_append, lineOf_length]; omega
  have o1 : ∀ j, j < ys.length → w.cell? ⟨go, j, none⟩ = some (.int .u8 (ys.getD j 0)) := fun j hj => by rw [hout j (by omega), getD_left _ _ _ hj]
  have o2 : w.cell? ⟨go, ys.length, none⟩ = some (.int .u8 43) := by
    have := hout (ys.length + 0) (by omega)
    rw [getD_right] at this
    exact this
  have o3 : ∀ j (hj : j < s.size), w.cell? ⟨go, ys.length + 1 + j, none⟩ = some (.int .u8 (blank (s[j].toNat : Int))) := fun j hj => by
    have := hout (ys.length + (j + 1)) (by omega)
    rw [getD_right, lineOf, getD_cons_succ, getD_left _ _ _ (by rw [body_length]; exact hj), body_get s j hj] at this
    rw [show ys.length + 1 + j = ys.length + (j + 1) by omega]
    exact this
  have o4 : w.cell? ⟨go, ys.length + s.size + 1, none⟩ = some (.int .u8 13) := by
    have := hout (ys.length + (s.size + 1)) (by omega)
    have e := getD_right (body s) [13, 10] 0
    rw [body_length] at e
    rw [getD_right, lineOf, getD_cons_succ, show s.size = s.size + 0 from rfl, e] at this
    exact this
  have o5 : w.cell? ⟨go, ys.length + s.size + 2, none⟩ = some (.int .u8 10) := by
    have := hout (ys.length + (s.size + 1 + 1)) (by omega)
    have e := getD_right (body s) [13, 10] 1
    rw [body_length] at e
    rw [getD_right, lineOf, getD_cons_succ, e] at this
    exact this
  clear hout hlen
  go_enter Try.func10, Try.ntmps10
  go_wp2
  go_loopw [8] (fun i wr => ∃ k : Nat, k ≤ ys.length ∧ i = .int .i64 k ∧ ∃ q, wr = w.drewN q) (fun i _ => ys.length - (intOf i).toNat)
  case atStart => exact ⟨0, Nat.zero_le _, rfl, 0, rfl⟩
  case round =>
    obtain ⟨k, hk, rfl, q, rfl⟩ := hrel
    by_cases hlt : k < ys.length
    · obtain ⟨gb, rfl, hr⟩ : ∃ gb, ab = some ⟨gb, 0, none⟩ ∧ ∀ j, j < ys.length → w.cell? ⟨gb, j, none⟩ = some (.int .u8 (ys.getD j 0)) := by
        rcases hbef with ⟨_, h⟩ | ⟨g, h, _, hr⟩
        · rw [h] at hlt; simp at hlt
        · exact ⟨g, h, hr⟩
      have hax := o1 k hlt
      have hbx := hr k hlt
      have h1 : (k : Int) < (ys.length : Int) := by omega
      have h2 : (k : Int) < (ys.length : Int) + s.size + 3 := by omega
      clear o1 o2 o3 o4 o5 hr hbef
      go_wp2
      go_quiet (fail)
      go_wp2
      go_roundw
      case rel => exact ⟨k + 1, by omega, by go_num, _, rfl⟩
      case measure => simp [intOf]; omega
    · have hax := o2
      clear o1 hbef
      go_wp2
      clear hax o2
      go_loop [9] (fun i => ∃ m : Nat, m ≤ s.size ∧ i = .int .i64 m) (fun i => s.size - (intOf i).toNat)
      case atStart => exact ⟨0, Nat.zero_le _, rfl⟩
      case round =>
        obtain ⟨m, hm, rfl⟩ := hrel
        by_cases hlt2 : m < s.size
        · have hcx := o3 m hlt2
          clear o3 o4 o5
          by_cases h13 : (s[m].toNat : Int) = 13
          · have g1 : ((s[m].toNat : Int) == 13) = true := by simpa using h13
            rw [show blank (s[m].toNat : Int) = 32 by rw [h13]; rfl] at hcx
            clear h13
            go_wp2
            go_round
            case rel => exact ⟨m + 1, by omega, by go_num⟩
            case measure => simp [intOf]; omega
          · by_cases h10 : (s[m].toNat : Int) = 10
            · have g1 : ((s[m].toNat : Int) == 13) = false := by simpa using h13
              have g2 : ((s[m].toNat : Int) == 10) = true := by simpa using h10
              rw [show blank (s[m].toNat : Int) = 32 by rw [h10]; rfl] at hcx
              clear h13 h10
              go_wp2
              go_round
              case rel => exact ⟨m + 1, by omega, by go_num⟩
              case measure => simp [intOf]; omega
            · have g1 : ((s[m].toNat : Int) == 13) = false := by simpa using h13
              have g2 : ((s[m].toNat : Int) == 10) = false := by simpa using h10
              rw [show blank (s[m].toNat : Int) = (s[m].toNat : Int) by rw [blank, if_neg (by omega)]] at hcx
              clear h13 h10
              go_wp2
              go_round
              case rel => exact ⟨m + 1, by omega, by go_num⟩
              case measure => simp [intOf]; omega
        · clear o3
          go_wp2
          go_ret
          exact ⟨rfl, ⟨rfl, rfl, rfl, Nat.le_refl _, fun _ _ => rfl⟩⟩
end Go.Proofs.Qxb6608628a
