import Derived.Test.Qxb6608557aKeys
import Derived.Deep.QuietTactic
import Derived.BigQuiet
namespace Go.Proofs.Qxb6608557a
open Go.RowKit

/-! ### The plain law: the escaped encoding keeps the order. -/
def esc : List UInt8 → List UInt8
  | [] => []
  | c :: r => if c = 0 then 0 :: 255 :: esc r else c :: esc r

theorem esc_append (x y : List UInt8) : esc (x ++ y) = esc x ++ esc y := by
  induction x with
  | nil => rfl
  | cons a x ih => simp only [List.cons_append, esc, ih]; split <;> simp

theorem esc_len (x : List UInt8) : (esc x).length ≤ 2 * x.length := by
  induction x with
  | nil => simp [esc]
  | cons a x ih => simp only [esc]; split <;> simp <;> omega

theorem pos_of_ne {a : UInt8} (h : ¬ a = 0) : (0 : UInt8) < a := by
  rcases UInt8.lt_or_eq_of_le (UInt8.zero_le (a := a)) with h1 | h1
  · exact h1
  · exact absurd h1.symm h

theorem cmpL_cons (a : UInt8) (x y : List UInt8) : cmpL (a :: x) (a :: y) = cmpL x y := by simp [cmpL]
theorem cmpL_lt {a b : UInt8} (h : a < b) (x y : List UInt8) : cmpL (a :: x) (b :: y) = -1 := by simp [cmpL, h]
theorem cmpL_gt {a b : UInt8} (h : b < a) (x y : List UInt8) : cmpL (a :: x) (b :: y) = 1 := by rw [cmpL_neg (b :: y), cmpL_lt h]; rfl

theorem cmp_esc (x y r s : List UInt8) : cmpL (esc x ++ 0 :: 1 :: r) (esc y ++ 0 :: 1 :: s) = orI (cmpL x y) (cmpL r s) := by
  induction x generalizing y with
  | nil =>
    cases y with
    | nil => simp [esc, cmpL, orI]
    | cons b y =>
      by_cases hb : b = 0
      · subst hb
        simp only [esc, List.nil_append, if_true, List.cons_append]
        rw [cmpL_cons, cmpL_lt (by decide)]
        rfl
      · simp only [esc, List.nil_append, if_neg hb, List.cons_append]
        rw [cmpL_lt (pos_of_ne hb)]
        rfl
  | cons a x ih =>
    cases y with
    | nil =>
      by_cases ha : a = 0
      · subst ha
        simp only [esc, List.nil_append, if_true, List.cons_append]
        rw [cmpL_cons, cmpL_gt (by decide)]
        rfl
      · simp only [esc, List.nil_append, if_neg ha, List.cons_append]
        rw [cmpL_gt (pos_of_ne ha)]
        rfl
    | cons b y =>
      by_cases ha : a = 0
      · subst ha
        by_cases hb : b = 0
        · subst hb
          simp only [esc, if_true, List.cons_append]
          rw [cmpL_cons, cmpL_cons, cmpL_cons, ih]
        · simp only [esc, if_true, if_neg hb, List.cons_append]
          rw [cmpL_lt (pos_of_ne hb), cmpL_lt (pos_of_ne hb)]
          rfl
      · by_cases hb : b = 0
        · subst hb
          simp only [esc, if_true, if_neg ha, List.cons_append]
          rw [cmpL_gt (pos_of_ne ha), cmpL_gt (pos_of_ne ha)]
          rfl
        · simp only [esc, if_neg ha, if_neg hb, List.cons_append]
          by_cases h1 : a < b
          · rw [cmpL_lt h1, cmpL_lt h1]; rfl
          · by_cases h2 : b < a
            · rw [cmpL_gt h2, cmpL_gt h2]; rfl
            · have h3 : a = b := UInt8.le_antisymm (UInt8.not_lt.1 h2) (UInt8.not_lt.1 h1)
              subst h3
              rw [cmpL_cons, cmpL_cons, ih]

def encKey (ns nm : List UInt8) : List UInt8 := esc ns ++ [0, 1] ++ esc nm ++ [0, 1]

theorem cmp_enc (a b c d : List UInt8) : cmpL (encKey a b) (encKey c d) = keyCmp a b c d := by
  unfold encKey keyCmp
  have e : ∀ x y : List UInt8, esc x ++ [0, 1] ++ esc y ++ [0, 1] = esc x ++ 0 :: 1 :: (esc y ++ [0, 1]) := by intro x y; simp
  rw [e, e, cmp_esc, cmp_esc]
  have : orI (cmpL b d) (cmpL [] []) = cmpL b d := by
    unfold orI
    split
    · rename_i h; rw [h]; rfl
    · rfl
  rw [this]

theorem encKey_len (a b : List UInt8) : (encKey a b).length ≤ 2 * a.length + 2 * b.length + 4 := by
  have h1 := esc_len a
  have h2 := esc_len b
  simp [encKey]; omega

/-- Bytes as cells. -/
def uc (l : List UInt8) : List Value := l.map fun c => Value.int .u8 c.toNat
theorem uc_append (x y : List UInt8) : uc (x ++ y) = uc x ++ uc y := by simp [uc]
theorem uc_len (x : List UInt8) : (uc x).length = x.length := by simp [uc]

/-! ### zzCompareBytes -/
theorem drop_cons (l : List UInt8) (k : Nat) (h : k < l.length) : l.drop k = l.getD k 0 :: l.drop (k + 1) := by
  rw [List.drop_eq_getElem_cons h, List.getD_eq_getElem?_getD, List.getElem?_eq_getElem h]
  rfl

set_option maxHeartbeats 800000 in
theorem compareBytes (gx gy cx cy : Nat) (xs ys : List UInt8) (w : World) (hlx : xs.length ≤ 4194304) (hly : ys.length ≤ 4194304)
    (hx : ∀ j, j < xs.length → w.cell? ⟨gx, j, none⟩ = some (.int .u8 (xs.getD j 0).toNat)) (hy : ∀ j, j < ys.length → w.cell? ⟨gy, j, none⟩ = some (.int .u8 (ys.getD j 0).toNat)) :
    Calls Try.prog 6 #[.slice (some ⟨gx, 0, none⟩) xs.length cx, .slice (some ⟨gy, 0, none⟩) ys.length cy] w fun e w' => e = .returned (.int .i64 (cmpL xs ys)) ∧ Below w.heap.size w w' := by
  by_cases hlt : ys.length < xs.length
  all_goals
    go_enter Try.func6, Try.ntmps6
    go_wp2
    go_loopw [6] (fun i wr => ∃ k : Nat, k ≤ xs.length ∧ k ≤ ys.length ∧ i = .int .i64 k ∧ Hid (cmpL xs ys = cmpL (xs.drop k) (ys.drop k)) ∧ ∃ q, wr = w.drewN q) (fun i _ => xs.length - (intOf i).toNat)
    case atStart => exact ⟨0, Nat.zero_le _, Nat.zero_le _, rfl, rfl, 0, rfl⟩
    case round =>
      obtain ⟨k, hkx, hky, rfl, hinv, q, rfl⟩ := hrel
      by_cases hk : k < xs.length ∧ k < ys.length
      · obtain ⟨hk1, hk2⟩ := hk
        have hax := hx k hk1
        have hby := hy k hk2
        have hkx' : (k : Int) < (xs.length : Int) := by omega
        have hky' : (k : Int) < (ys.length : Int) := by omega
        have hdx := drop_cons xs k hk1
        have hdy := drop_cons ys k hk2
        generalize xs.getD k 0 = a at *
        generalize ys.getD k 0 = b at *
        have HINV : Hid (cmpL xs ys = cmpL (a :: xs.drop (k + 1)) (b :: ys.drop (k + 1))) := by rw [← hdx, ← hdy]; exact hinv.out
        clear hdx hdy hinv hx hy
        by_cases h1 : (a.toNat : Int) < (b.toNat : Int)
        · have HR : Hid (cmpL xs ys = -1) := by rw [Hid, HINV.out, cmpL_lt (UInt8.lt_iff_toNat_lt.2 (by omega))]
          clear HINV
          go_wp2
          go_quiet (fail)
          go_wp2
          go_ret
          exact ⟨by rw [HR.out]; rfl, ⟨rfl, rfl, rfl, Nat.le_refl _, fun _ _ => rfl⟩⟩
        · by_cases h2 : (b.toNat : Int) < (a.toNat : Int)
          · have HR : Hid (cmpL xs ys = 1) := by rw [Hid, HINV.out, cmpL_gt (UInt8.lt_iff_toNat_lt.2 (by omega))]
            clear HINV
            go_wp2
            go_quiet (fail)
            go_wp2
            go_quiet (fail)
            go_wp2
            go_ret
            exact ⟨by rw [HR.out]; rfl, ⟨rfl, rfl, rfl, Nat.le_refl _, fun _ _ => rfl⟩⟩
          · have hab : a = b := UInt8.toNat_inj.1 (by omega)
            have HR : Hid (cmpL xs ys = cmpL (xs.drop (k + 1)) (ys.drop (k + 1))) := by rw [Hid, HINV.out, hab, cmpL_cons]
            clear HINV hab
            go_wp2
            go_quiet (fail)
            go_wp2
            go_quiet (fail)
            go_wp2
            go_roundw
            case rel => exact ⟨k + 1, by omega, by omega, by go_num, HR, _, rfl⟩
            case measure => simp [intOf]; omega
      · rcases Nat.lt_trichotomy xs.length ys.length with h | h | h
        · have HR : Hid (cmpL xs ys = -1) := by
            have e : k = xs.length := by omega
            rw [Hid, hinv.out, e, List.drop_length, drop_cons ys xs.length h]; rfl
          clear hinv hx hy
          go_wp2
          all_goals (go_ret; exact ⟨by rw [HR.out]; rfl, ⟨rfl, rfl, rfl, Nat.le_refl _, fun _ _ => rfl⟩⟩)
        · have HR : Hid (cmpL xs ys = 0) := by
            have e : k = xs.length := by omega
            rw [Hid, hinv.out, e, List.drop_length, h, List.drop_length]; rfl
          clear hinv hx hy
          go_wp2
          all_goals (go_ret; exact ⟨by rw [HR.out]; rfl, ⟨rfl, rfl, rfl, Nat.le_refl _, fun _ _ => rfl⟩⟩)
        · have HR : Hid (cmpL xs ys = 1) := by
            have e : k = ys.length := by omega
            rw [Hid, hinv.out, e, List.drop_length, drop_cons xs ys.length h]; rfl
          clear hinv hx hy
          go_wp2
          all_goals (go_ret; exact ⟨by rw [HR.out]; rfl, ⟨rfl, rfl, rfl, Nat.le_refl _, fun _ _ => rfl⟩⟩)
end Go.Proofs.Qxb6608557a
