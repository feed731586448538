import Derived.Test.Qxb6608520aDoorWriter3
namespace Go.Proofs.Qxb6608520aDoor
open Go.RowKit

/-- What the walk is told of a slice of bytes that came in: it is nil; or it leads to a row of 'cap' cells, the numbers 'zs' (the first 'len' are its elements). -/
def IsRow (k : IntKind) (w : World) (a : Option Addr) (len cap : Nat) (zs : List Int) : Prop :=
  (a = none ∧ len = 0 ∧ cap = 0 ∧ zs = []) ∨
  ∃ x, a = some x ∧ len ≤ cap ∧ cap ≤ maxLen ∧ zs.length = cap ∧ (∀ i, i < zs.length → w.cell? (x.add i) = some (.int k (zs.getD i 0))) ∧ ∀ n ∈ zs, (Lit.int k n).wf = true

/-- The bytes ys lie where the slice (a, its length and capacity those of ys) says: nil and none, or a row of their own. -/
def DataAt (w : World) (a : Option Addr) (ys : List Int) : Prop := (a = none ∧ ys = []) ∨ ∃ g, a = some ⟨g, 0, none⟩ ∧ Row w g (ic ys)

theorem clone_any (a : Option Addr) (n c : Nat) (zs : List Int) (w : World) (h : IsRow .u8 w a n c zs) (hn : n ≤ 65536) :
    Calls Tryd.prog 5 #[.slice a n c] w fun e w' => ∃ a' ys, ys.length = n ∧ e = .returned (.slice a' n n) ∧ DataAt w' a' ys ∧ Below w.heap.size w w' := by
  rcases h with ⟨rfl, rfl, rfl, rfl⟩ | ⟨x, rfl, hlc, hcm, hzl, hcell, hwf⟩
  · refine (clone_nil w).mono ?_
    rintro e w' ⟨rfl, rfl⟩
    exact ⟨none, [], rfl, rfl, .inl ⟨rfl, rfl⟩, Below.refl _ _⟩
  · by_cases h0 : n = 0
    · subst h0
      refine (clone_empty x c w).mono ?_
      rintro e w' ⟨rfl, hr, hb⟩
      exact ⟨_, [], rfl, rfl, .inr ⟨_, rfl, hr⟩, hb⟩
    · obtain ⟨b, off, spot⟩ := x
      have hspot : spot = none := by simpa [Addr.add] using World.cell?_spot (hcell 0 (by omega))
      subst hspot
      have hc' : ∀ i, i < n → w.cell? ⟨b, off + i, none⟩ = some (.int .u8 (zs.getD i 0)) := fun i hi => by rw [← Lib.addr_add]; exact hcell i (by omega)
      refine (clone_some b off n c zs w (by omega) (by omega) ?_ hc').mono ?_
      · exact World.block_lt_of_cell? w ⟨b, off + 0, none⟩ (hc' 0 (by omega))
      rintro e w' ⟨rfl, hr, hb⟩
      exact ⟨_, zs.take n, by rw [List.length_take]; omega, rfl, .inr ⟨_, rfl, hr⟩, hb⟩

theorem DataAt.kept {w w' : World} {a : Option Addr} {ys : List Int} {ex : List Nat} (h : DataAt w a ys) (hk : Kept ex w w') (hx : ∀ g, a = some ⟨g, 0, none⟩ → g ∉ ex) : DataAt w' a ys := by
  rcases h with h | ⟨g, rfl, hr⟩
  · exact .inl h
  · refine .inr ⟨g, rfl, ?_⟩
    unfold Row
    rw [hk.block g hr.lt (hx g rfl)]
    exact hr
theorem Row.kept {w w' : World} {g : Nat} {xs : List Value} {ex : List Nat} (h : Row w g xs) (hk : Kept ex w w') (hx : g ∉ ex) : Row w' g xs := by
  unfold Row
  rw [hk.block g h.lt hx]
  exact h
theorem Kept.of_below {w w' : World} (h : Below w.heap.size w w') (ex : List Nat) : Kept ex w w' := ⟨h.os, h.tape, h.output, h.size, fun k hk _ => h.block k hk⟩
theorem Kept.below {B : Nat} {w w' : World} {ex : List Nat} (h : Kept ex w w') (hB : B ≤ w.heap.size) (hx : ∀ k ∈ ex, B ≤ k) : Below B w w' :=
  ⟨h.os, h.tape, h.output, h.size, fun k hk => h.block k (by omega) (fun hm => by have := hx k hm; omega)⟩

/-- Behind the makers: what lies where. -/
theorem made {W w1 : World} {a' : Option Addr} {ys : List Int} {gw : Nat} {fs : List Value} {z : List Value} (hd : DataAt W a' ys) (hw : Row W gw fs)
    (hz : Row w1 (W.alloc (.cells #[.slice a' ys.length ys.length, .int .i64 0, .int .i8 0] 43)).heap.size z) (hzl : z.length = 4096) (hb : Below (W.alloc (.cells #[.slice a' ys.length ys.length, .int .i64 0, .int .i8 0] 43)).heap.size (W.alloc (.cells #[.slice a' ys.length ys.length, .int .i64 0, .int .i8 0] 43)) w1)
    {w3 : World} (hw3 : w3 = (w1.alloc (.cells #[.nilIface, .slice (some ⟨(W.alloc (.cells #[.slice a' ys.length ys.length, .int .i64 0, .int .i8 0] 43)).heap.size, 0, none⟩) 4096 4096, .int .i64 0, .iface 25 (.pointer (some ⟨W.heap.size, 0, none⟩))] 52)).alloc (.cells #[.pointer (some ⟨w1.heap.size, 0, none⟩), .string ByteArray.empty, .slice none 0 0, .bool false, .slice none 0 0, .int .i64 0, .int .i8 0, .nilIface] 45)) :
    WrAt w3 w1.heap.size (W.heap.size + 1) 0 W.heap.size z ∧ BufAt w3 W.heap.size 0 ys ∧ Row w3 gw fs ∧ w3.cell? ⟨w1.heap.size + 1, 0, none⟩ = some (.pointer (some ⟨w1.heap.size, 0, none⟩)) ∧ Below W.heap.size W w3 ∧ W.heap.size + 2 ≤ w1.heap.size := by
  have hs : (W.alloc (.cells #[.slice a' ys.length ys.length, .int .i64 0, .int .i8 0] 43)).heap.size = W.heap.size + 1 := by simp
  rw [hs] at hz hb hw3
  have hlt := hz.lt
  have hbl : Below W.heap.size W (W.alloc (.cells #[.slice a' ys.length ys.length, .int .i64 0, .int .i8 0] 43)) := (Below.refl _ _).alloc (Nat.le_refl _) _
  have hblk : (W.alloc (.cells #[.slice a' ys.length ys.length, .int .i64 0, .int .i8 0] 43)).heap[W.heap.size]? = some (.cells #[.slice a' ys.length ys.length, .int .i64 0, .int .i8 0] 43 (0, 0)) := heap_alloc_new W _
  have h1 : ∀ k, k < w1.heap.size → w3.heap[k]? = w1.heap[k]? := fun k hk => by
    rw [hw3, Below.heap_alloc _ _ _ (by simp; omega), Below.heap_alloc _ _ _ hk]
  have hB3 : Below W.heap.size W w3 := by
    rw [hw3]
    exact ((hbl.trans (hb.mono (by omega))).alloc (by omega) _).alloc (by simp; omega) _
  have hrow : ∀ g xs, Row W g xs → Row w3 g xs := fun g xs hr => by
    have := hr.lt
    unfold Row
    rw [hB3.block g this]
    exact hr
  have hbw : w3.heap[w1.heap.size]? = some (.cells #[.nilIface, .slice (some ⟨W.heap.size + 1, 0, none⟩) 4096 4096, .int .i64 0, .iface 25 (.pointer (some ⟨W.heap.size, 0, none⟩))] 52 (0, 0)) := by
    rw [hw3, Below.heap_alloc _ _ _ (by simp)]
    exact heap_alloc_new w1 _
  have hb3 : w3.heap[W.heap.size]? = some (.cells #[.slice a' ys.length ys.length, .int .i64 0, .int .i8 0] 43 (0, 0)) := by
    rw [h1 _ (by omega), hb.block _ (by omega)]
    exact hblk
  refine ⟨⟨hbw, ?_, hzl⟩, ?_, hrow _ _ hw, ?_, hB3, by omega⟩
  · unfold Row; rw [h1 _ hlt]; exact hz
  · rcases hd with ⟨rfl, rfl⟩ | ⟨g, rfl, hr⟩
    · exact .inl ⟨hb3, rfl⟩
    · exact .inr ⟨g, hr.lt, hb3, hrow _ _ hr⟩
  · have hj : w3.heap[w1.heap.size + 1]? = some (.cells #[.pointer (some ⟨w1.heap.size, 0, none⟩), .string ByteArray.empty, .slice none 0 0, .bool false, .slice none 0 0, .int .i64 0, .int .i8 0, .nilIface] 45 (0, 0)) := by
      rw [hw3]
      have := heap_alloc_new (w1.alloc (.cells #[.nilIface, .slice (some ⟨W.heap.size + 1, 0, none⟩) 4096 4096, .int .i64 0, .iface 25 (.pointer (some ⟨W.heap.size, 0, none⟩))] 52)) (.cells #[.pointer (some ⟨w1.heap.size, 0, none⟩), .string ByteArray.empty, .slice none 0 0, .bool false, .slice none 0 0, .int .i64 0, .int .i8 0, .nilIface] 45)
      simpa using this
    rw [Lib.cell_of_heap hj]; rfl

/-- The buffer at block b reads as the bytes fs. -/
def Reads (w : World) (b : Nat) (fs : List Int) : Prop :=
  ∃ ao c, w.cell? ⟨b, 0, none⟩ = some (.slice ao fs.length c) ∧ w.cell? ⟨b, 1, none⟩ = some (.int .i64 0) ∧
    ((ao = none ∧ fs = [] ∧ c = 0) ∨ ∃ g, ao = some ⟨g, 0, none⟩ ∧ ∀ i, i < fs.length → w.cell? ⟨g, i, none⟩ = some (.int .u8 (fs.getD i 0)))

theorem ic_get (fs : List Int) (i : Nat) (hi : i < fs.length) : (ic fs)[i]? = some (.int .u8 (fs.getD i 0)) := by
  simp [ic, List.getElem?_eq_getElem hi, List.getD_eq_getElem?_getD]

theorem Row.reads {w : World} {g : Nat} {fs : List Int} (h : Row w g (ic fs)) (i : Nat) (hi : i < fs.length) : w.cell? ⟨g, i, none⟩ = some (.int .u8 (fs.getD i 0)) := by
  rw [h.cell i, ic_get fs i hi]

theorem BufAt.reads {w : World} {b : Nat} {lr : Int} {fs : List Int} (h : BufAt w b lr fs) : Reads w b fs := by
  rcases h with ⟨hb, rfl⟩ | ⟨g, _, hb, hr⟩
  · exact ⟨none, 0, by rw [Lib.cell_of_heap hb]; rfl, by rw [Lib.cell_of_heap hb]; rfl, .inl ⟨rfl, rfl, rfl⟩⟩
  · exact ⟨_, _, by rw [Lib.cell_of_heap hb]; rfl, by rw [Lib.cell_of_heap hb]; rfl, .inr ⟨g, rfl, hr.reads⟩⟩

theorem Wrote.reads {w w' : World} {b : Nat} {fs : List Int} (h : Wrote w w' b fs) : Reads w' b fs := by
  obtain ⟨cap2, cells, hb, hN, htk, _, _, _⟩ := h
  refine ⟨_, cap2, by rw [Lib.cell_of_heap hb]; rfl, by rw [Lib.cell_of_heap hb]; rfl, .inr ⟨_, rfl, fun i hi => ?_⟩⟩
  rw [Lib.cell_of_heap hN]
  have h1 : (cells.toList.take fs.length)[i]? = (ic fs)[i]? := by rw [htk]
  rw [List.getElem?_take, if_pos hi, ic_get fs i hi] at h1
  simpa using h1

/-- The last two calls. -/
theorem bytes_any (b L : Nat) (fs : List Int) (w : World) (hL : fs.length = L) (h : Reads w b fs) :
    Calls Tryd.prog 12 #[.pointer (some ⟨b, 0, none⟩)] w fun e w' => ∃ ao c, e = .returned (.slice ao L c) ∧ (∃ q, w' = w.drewN q) ∧
      ((ao = none ∧ fs = [] ∧ c = 0) ∨ ∃ g, ao = some ⟨g, 0, none⟩ ∧ ∀ i, i < fs.length → w.cell? ⟨g, i, none⟩ = some (.int .u8 (fs.getD i 0))) := by
  subst hL
  obtain ⟨ao, c, h0, h1, hr⟩ := h
  rcases hr with ⟨rfl, rfl, rfl⟩ | ⟨g, rfl, hr⟩
  · refine (bufBytes_nil b w h0 h1).mono ?_
    rintro e w' ⟨rfl, q, rfl⟩
    exact ⟨none, 0, rfl, ⟨q, rfl⟩, .inl ⟨rfl, rfl, rfl⟩⟩
  · refine (bufBytes b g _ c w h0 h1).mono ?_
    rintro e w' ⟨rfl, q, rfl⟩
    exact ⟨_, c, rfl, ⟨q, rfl⟩, .inr ⟨g, rfl, hr⟩⟩

theorem same_any (ao : Option Addr) (L c gw cw : Nat) (fs : List Int) (w : World) (hL : fs.length = L) (hn : L ≤ 2097152) (hw : Row w gw (ic fs))
    (h : (ao = none ∧ fs = [] ∧ c = 0) ∨ ∃ g, ao = some ⟨g, 0, none⟩ ∧ ∀ i, i < fs.length → w.cell? ⟨g, i, none⟩ = some (.int .u8 (fs.getD i 0))) :
    Calls Tryd.prog 11 #[.slice ao L c, .slice (some ⟨gw, 0, none⟩) L cw] w fun e w' => e = .returned (.bool true) ∧ Below w.heap.size w w' := by
  subst hL
  rcases h with ⟨rfl, rfl, rfl⟩ | ⟨g, rfl, hr⟩
  · exact same_empty _ _ _ _ w
  · exact same_yes g gw _ c cw fs w hn hr hw.reads

/-- Behind WriteString: all has gone through to the buffer and nothing waits; or s waits, and the buffer is as it was. -/
def Mid (w : World) (bw gb b : Nat) (ys : List Int) (s : ByteArray) : Prop :=
  (∃ xs, WrAt w bw gb 0 b xs ∧ Reads w b (ys ++ sz s)) ∨
  (∃ xs, WrAt w bw gb (sz s).length b xs ∧ 1 ≤ s.size ∧ s.size ≤ 4096 ∧ xs.take (sz s).length = ic (sz s) ∧ BufAt w b 0 ys)

theorem Reads.kept {w w' : World} {b : Nat} {fs : List Int} (h : Reads w b fs) (hb : w'.heap[b]? = w.heap[b]?) (hg : ∀ g, (∃ l c, w.cell? ⟨b, 0, none⟩ = some (.slice (some ⟨g, 0, none⟩) l c)) → w'.heap[g]? = w.heap[g]?) : Reads w' b fs := by
  obtain ⟨ao, c, h0, h1, hr⟩ := h
  have e0 : w'.cell? ⟨b, 0, none⟩ = w.cell? ⟨b, 0, none⟩ := World.cell?_of_block hb
  have e1 : w'.cell? ⟨b, 1, none⟩ = w.cell? ⟨b, 1, none⟩ := World.cell?_of_block hb
  refine ⟨ao, c, e0.trans h0, e1.trans h1, ?_⟩
  rcases hr with hr | ⟨g, rfl, hr⟩
  · exact .inl hr
  · exact .inr ⟨g, rfl, fun i hi => (World.cell?_of_block (hg g ⟨_, _, h0⟩)).trans (hr i hi)⟩

theorem writeString_any (N bw gb b : Nat) (ys : List Int) (xs : List Value) (s : ByteArray) (w : World) (h : WrAt w bw gb 0 b xs) (hb : BufAt w b 0 ys) (hNb : N < b) (hgb : b < gb) (hbw : gb < bw) (hlim : ys.length + s.size ≤ 1048576) :
    Calls Tryd.prog 9 #[.pointer (some ⟨bw, 0, none⟩), .string s] w fun e w' => e = .returned (.tuple #[.int .i64 s.size, .nilIface]) ∧ Below (N + 1) w w' ∧ Mid w' bw gb b ys s := by
  have hbl := hb.lt
  by_cases hs : s.size ≤ 4096
  · refine (writeString_small bw gb b xs s w h hs).mono ?_
    rintro e w' ⟨rfl, hw, hk⟩
    have hb' : BufAt w' b 0 ys := by
      rcases hb with ⟨hh, hz⟩ | ⟨g, hlt, hh, hr⟩
      · exact .inl ⟨(hk.block b hbl (by simp; omega)).trans hh, hz⟩
      · exact .inr ⟨g, hlt, (hk.block b hbl (by simp; omega)).trans hh, hr.kept hk (by simp; omega)⟩
    refine ⟨rfl, hk.below (by omega) (by simp; omega), ?_⟩
    by_cases h0 : s.size = 0
    · have hz : sz s = [] := List.eq_nil_of_length_eq_zero (by rw [sz_length]; exact h0)
      rw [h0] at hw
      refine .inl ⟨_, hw, ?_⟩
      rw [hz, List.append_nil]
      exact hb'.reads
    · refine .inr ⟨_, by rw [sz_length]; exact hw, by omega, hs, ?_, hb'⟩
      rw [List.take_append_of_le_length (by simp [ic]), List.take_of_length_le (by simp [ic])]
  · refine (writeString_big bw gb b 0 ys xs s w h hb (by omega) (by omega) (by omega) hlim).mono ?_
    rintro e w' ⟨rfl, hw, w1, q, hwr, hk⟩
    have hg := hwr.grown
    have hk1 : Kept [b] (w.drewN q) w1 := (Kept.refl _ _).grown hg (by simp)
    have hb1 : Below (N + 1) w w1 := Below.trans (b := w.drewN q) ⟨rfl, rfl, rfl, Nat.le_refl _, fun _ _ => rfl⟩ (hk1.below (by show N + 1 ≤ w.heap.size; omega) (by simp; omega))
    have hbwlt : bw < w.heap.size := Lib.lt_of_heap h.1
    have hs1 : w.heap.size ≤ w1.heap.size := hb1.size
    refine ⟨rfl, hb1.trans (hk.below (by omega) (by simp; omega)), .inl ⟨xs, hw, hwr.reads.kept (hk.block b (by omega) (by simp; omega)) ?_⟩⟩
    rintro g ⟨l, c, hc⟩
    obtain ⟨cap2, cells, hbk, hN, _⟩ := hwr
    rw [Lib.cell_of_heap hbk] at hc
    have hge : g = w.heap.size := by
      have := Option.some.inj hc
      simp at this
      exact this.1.symm
    have hlt : w.heap.size < w1.heap.size := Lib.lt_of_heap hN
    exact hk.block g (by omega) (by simp; omega)

theorem flush_any (N bw gb b : Nat) (ys : List Int) (s : ByteArray) (w : World) (h : Mid w bw gb b ys s) (hNb : N < b) (hgb : b < gb) (hbw : gb < bw) (hlim : ys.length ≤ 1048576) :
    Calls Tryd.prog 10 #[.pointer (some ⟨bw, 0, none⟩)] w fun e w' => e = .returned .nilIface ∧ Below (N + 1) w w' ∧ Reads w' b (ys ++ sz s) := by
  rcases h with ⟨xs, hw, hr⟩ | ⟨xs, hw, h1, h2, hx, hb⟩
  · refine (flush_empty bw gb b xs w hw).mono ?_
    rintro e w' ⟨rfl, rfl⟩
    exact ⟨rfl, Below.refl _ _, hr⟩
  · have hbl := hb.lt
    have hbwlt : bw < w.heap.size := Lib.lt_of_heap hw.1
    refine (flush_some bw gb b 0 ys (sz s) xs w hw hx hb (by omega) (by omega) (by rw [sz_length]; exact h1) (by rw [sz_length]; exact h2) hlim).mono ?_
    rintro e w' ⟨rfl, w1, q, hwr, rfl⟩
    have hg := hwr.grown
    have hk1 : Kept [b] (w.drewN q) w1 := (Kept.refl _ _).grown hg (by simp)
    have hb1 : Below (N + 1) w w1 := Below.trans (b := w.drewN q) ⟨rfl, rfl, rfl, Nat.le_refl _, fun _ _ => rfl⟩ (hk1.below (by show N + 1 ≤ w.heap.size; omega) (by simp; omega))
    refine ⟨rfl, hb1.setCell (p := ⟨bw, 2, none⟩) (by show N + 1 ≤ bw; omega) _, hwr.reads.kept (Below.heap_setCell _ _ _ _ (by show b ≠ bw; omega)) ?_⟩
    rintro g ⟨l, c, hc⟩
    obtain ⟨cap2, cells, hbk, hN, _⟩ := hwr
    rw [Lib.cell_of_heap hbk] at hc
    have hge : g = w.heap.size := by
      have := Option.some.inj hc
      simp at this
      exact this.1.symm
    exact Below.heap_setCell _ _ _ _ (by show g ≠ bw; omega)
end Go.Proofs.Qxb6608520aDoor
