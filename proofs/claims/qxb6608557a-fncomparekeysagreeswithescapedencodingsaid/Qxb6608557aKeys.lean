import Derived.Test.Qxb6608557aRows
import Derived.WalkKit
import Derived.ProofKit
import Derived.OwnWalk
import Derived.Handy
import Derived.Lib.Strings
import Derived.Deep.RegionHeld
import Derived.Laws.Cover1
namespace Go.Proofs.Qxb6608557a
open Go.RowKit

/-- Lists of bytes compared: -1, 0 or 1. -/
def cmpL : List UInt8 → List UInt8 → Int
  | [], [] => 0
  | [], _ :: _ => -1
  | _ :: _, [] => 1
  | a :: x, b :: y => if a < b then -1 else if b < a then 1 else cmpL x y

theorem cmpL_less (x y : List UInt8) : Op.bytesLess x y = decide (cmpL x y = -1) := by
  induction x generalizing y with
  | nil => cases y <;> simp [Op.bytesLess, cmpL]
  | cons a x ih =>
    cases y with
    | nil => simp [Op.bytesLess, cmpL]
    | cons b y =>
      simp only [Op.bytesLess, cmpL, ih]
      by_cases h1 : a < b
      · simp [h1]
      · by_cases h2 : b < a
        · have h3 : ¬ a = b := by rintro rfl; exact h1 h2
          simp [h1, h2, h3]
        · have h3 : a = b := UInt8.le_antisymm (UInt8.not_lt.1 h2) (UInt8.not_lt.1 h1)
          simp [h3]

theorem cmpL_self (x : List UInt8) : cmpL x x = 0 := by
  induction x with
  | nil => rfl
  | cons a x ih => simp [cmpL, ih]

theorem cmpL_eq (x y : List UInt8) : (x == y) = decide (cmpL x y = 0) := by
  induction x generalizing y with
  | nil => cases y <;> simp [cmpL]
  | cons a x ih =>
    cases y with
    | nil => simp [cmpL]
    | cons b y =>
      simp only [List.cons_beq_cons, cmpL, ih]
      by_cases h1 : a < b
      · have h3 : ¬ a = b := by rintro rfl; exact UInt8.lt_irrefl _ h1
        simp [h1, h3]
      · by_cases h2 : b < a
        · have h3 : ¬ a = b := by rintro rfl; exact h1 h2
          simp [h1, h2, h3]
        · have h3 : a = b := UInt8.le_antisymm (UInt8.not_lt.1 h2) (UInt8.not_lt.1 h1)
          simp [h3]

theorem cmpL_cases (x y : List UInt8) : cmpL x y = -1 ∨ cmpL x y = 0 ∨ cmpL x y = 1 := by
  induction x generalizing y with
  | nil => cases y <;> simp [cmpL]
  | cons a x ih =>
    cases y with
    | nil => simp [cmpL]
    | cons b y =>
      simp only [cmpL]
      split
      · exact .inl rfl
      · split
        · exact .inr (.inr rfl)
        · exact ih y

theorem cmpL_neg (x y : List UInt8) : cmpL y x = - cmpL x y := by
  induction x generalizing y with
  | nil => cases y <;> simp [cmpL]
  | cons a x ih =>
    cases y with
    | nil => simp [cmpL]
    | cons b y =>
      simp only [cmpL, ih]
      by_cases h1 : a < b
      · have : ¬ b < a := fun h => UInt8.lt_asymm h h1
        simp [h1, this]
      · by_cases h2 : b < a <;> simp [h1, h2]

theorem cmp_any (x y : ByteArray) (w : World) :
    Calls Try.prog 12 #[.string x, .string y] w fun e w' => e = .returned (.int .i64 (cmpL x.toList y.toList)) ∧ w' = w := by
  have hl := cmpL_less x.toList y.toList
  have he := cmpL_eq x.toList y.toList
  rcases cmpL_cases x.toList y.toList with h | h | h
  · rw [h] at hl he ⊢
    have hl' : Op.bytesLess x.toList y.toList = true := by rw [hl]; rfl
    have he' : (x.toList == y.toList) = false := by rw [he]; rfl
    clear hl he h
    go_enter Try.func12, Try.ntmps12
    go_wp2
    go_ret
    exact ⟨rfl, rfl⟩
  · rw [h] at hl he ⊢
    have hl' : Op.bytesLess x.toList y.toList = false := by rw [hl]; rfl
    have he' : (x.toList == y.toList) = true := by rw [he]; rfl
    clear hl he h
    go_enter Try.func12, Try.ntmps12
    go_wp2
    go_ret
    exact ⟨rfl, rfl⟩
  · rw [h] at hl he ⊢
    have hl' : Op.bytesLess x.toList y.toList = false := by rw [hl]; rfl
    have he' : (x.toList == y.toList) = false := by rw [he]; rfl
    clear hl he h
    go_enter Try.func12, Try.ntmps12
    go_wp2
    go_ret
    exact ⟨rfl, rfl⟩

/-- The first of two numbers that is not 0. -/
def orI (a b : Int) : Int := if a = 0 then b else a

theorem or_any (g : Nat) (a b : Int) (w : World) (h0 : w.cell? ⟨g, 0, none⟩ = some (.int .i64 a)) (h1 : w.cell? ⟨g, 1, none⟩ = some (.int .i64 b)) :
    Calls Try.prog 11 #[.slice (some ⟨g, 0, none⟩) 2 2] w fun e w' => e = .returned (.int .i64 (orI a b)) ∧ w' = w := by
  by_cases ha : a = 0
  · subst ha
    by_cases hb : b = 0
    · subst hb
      go_enter Try.func11, Try.ntmps11
      go_wp2
      go_rounds 3
      go_ret
      exact ⟨rfl, rfl⟩
    · have hb' : (b != 0) = true := by simpa using hb
      go_enter Try.func11, Try.ntmps11
      go_wp2
      go_rounds 3
      go_ret
      exact ⟨rfl, rfl⟩
  · have ha' : (a != 0) = true := by simpa using ha
    have e : orI a b = a := if_neg ha
    go_enter Try.func11, Try.ntmps11
    go_wp2
    go_rounds 3
    go_ret
    exact ⟨by rw [e]; rfl, rfl⟩

/-- Two keys compared. -/
def keyCmp (a b c d : List UInt8) : Int := orI (cmpL a c) (cmpL b d)

set_option maxHeartbeats 800000 in
theorem compareKeys (a b c d : ByteArray) (w : World) :
    Calls Try.prog 8 #[.agg #[.string a, .string b], .agg #[.string c, .string d]] w fun e w' => e = .returned (.int .i64 (keyCmp a.toList b.toList c.toList d.toList)) ∧ Below w.heap.size w w' := by
  have hblk : ∀ (o1 o2 : Obj) (x y : Value), (((w.alloc o1).alloc o2).alloc (.cells #[x, y] 3)).drew.heap[w.heap.size + 1 + 1]? = some (.cells #[x, y] 3 (0, 0)) := by
    intro o1 o2 x y
    have := heap_alloc_new ((w.alloc o1).alloc o2) (.cells #[x, y] 3)
    show (((w.alloc o1).alloc o2).alloc (.cells #[x, y] 3)).heap[w.heap.size + 1 + 1]? = _
    simpa using this
  have hc0 : ∀ (o1 o2 : Obj) (x y : Value), (((w.alloc o1).alloc o2).alloc (.cells #[x, y] 3)).drew.cell? ⟨w.heap.size + 1 + 1, 0, none⟩ = some x := fun o1 o2 x y => by rw [cell_of_row _ _ 0 _ _ _ (hblk o1 o2 x y)]; rfl
  have hc1 : ∀ (o1 o2 : Obj) (x y : Value), (((w.alloc o1).alloc o2).alloc (.cells #[x, y] 3)).drew.cell? ⟨w.heap.size + 1 + 1, 1, none⟩ = some y := fun o1 o2 x y => by rw [cell_of_row _ _ 1 _ _ _ (hblk o1 o2 x y)]; rfl
  clear hblk
  go_enter Try.func8, Try.ntmps8
  go_wp2
  go_region_held (fun w' => w'.cell? ⟨w.heap.size, 0, none⟩ = some (.string a) ∧ w'.cell? ⟨w.heap.size, 1, none⟩ = some (.string b) ∧ w'.cell? ⟨w.heap.size + 1, 0, none⟩ = some (.string c) ∧ w'.cell? ⟨w.heap.size + 1, 1, none⟩ = some (.string d)) (go_keep) (first
    | (go_at_call 12; refine (cmp_any _ _ _).mono ?_; rintro e w' ⟨rfl, rfl⟩)
    | (go_at_call 11; refine (or_any _ (cmpL a.toList c.toList) (cmpL b.toList d.toList) _ ?_ ?_).mono ?_; exact hc0 _ _ _ _; exact hc1 _ _ _ _; rintro e w' ⟨rfl, rfl⟩))
  all_goals
    go_wp2
    go_ret
    refine ⟨rfl, ?_⟩
    go_grown
end Go.Proofs.Qxb6608557a
