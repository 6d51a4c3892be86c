/-
  Seat b4896aF: the four closures (7, 11: the register; 13, 14: the answers).
-/
import Derived.Test.YbulkcwjiFmtBuild
namespace Go.Proofs.YbulkcwjiFmt
open Go.RowKit

theorem Ybaf.info9 : (Ybaf.prog.info? 9).map (fun i => (i.zero, i.size, i.bytes)) = some (some (.string ⟨#[]⟩), 1, 16) := by kernel_rfl

/-- The log: a variable in block lb that owns the strings l, in a row from block B on. -/
def LogAt (B lb : Nat) (l : List ByteArray) (w : World) : Prop :=
  ∃ v, w.heap[lb]? = some (.cells #[v] 23 (0, 0)) ∧ w.ownsRow B 9 1 v l.length (l.map Value.string)

theorem LogAt.below {B lb : Nat} {l : List ByteArray} {w w' : World} (h : LogAt B lb l w) (hb : Below w.heap.size w w') : LogAt B lb l w' := by
  obtain ⟨v, h1, h2⟩ := h
  have hlt : lb < w.heap.size := (Array.getElem?_eq_some_iff.1 h1).1
  refine ⟨v, (hb.block lb hlt).trans h1, ?_⟩
  obtain ⟨a, b⟩ := h2
  refine ⟨a, ?_⟩
  rcases b with b | ⟨g, cap, cur, hv, hg, hh, r⟩
  · exact .inl b
  · exact .inr ⟨g, cap, cur, hv, hg, (hb.block g (Array.getElem?_eq_some_iff.1 hh).1).trans hh, r⟩

/-- The blocks of CheckAccounts' own locals stay. -/
def Keep (w w' : World) : Prop := ∀ (b : Nat) (cs : Array Value) (t : TypeId), (t = 62 ∨ t = 65) → w.heap[b]? = some (.cells cs t (0, 0)) → w'.heap[b]? = some (.cells cs t (0, 0))
theorem Keep.trans {a b c : World} (h : Keep a b) (k : Keep b c) : Keep a c := fun x cs t ht e => k x cs t ht (h x cs t ht e)
theorem Keep.of_below {a b : World} (h : Below a.heap.size a b) : Keep a b := fun x _ _ _ e => (h.block x (Array.getElem?_eq_some_iff.1 e).1).trans e
theorem Keep.setCell {a b : World} (h : Keep a b) {x : Nat} {cs : Array Value} {t : TypeId} {fr : Nat × Nat} (hx : b.heap[x]? = some (.cells cs t fr)) (ht : t ≠ 62 ∧ t ≠ 65) (u : Value) : Keep a (b.setCell ⟨x, 0, none⟩ u) := fun y cs' t' ht' e => by
  have hy := h y cs' t' ht' e
  rw [Below.heap_setCell _ _ _ _ ?_]
  · exact hy
  · intro e'
    have e'' : y = x := e'
    subst e''
    rw [hx] at hy
    simp only [Option.some.injEq, Obj.cells.injEq] at hy
    rcases ht' with rfl | rfl
    · exact ht.1 hy.2.1
    · exact ht.2 hy.2.1

/-- Behind 'log = append(log, a)'. -/
theorem log_step {B lb gg cap : Nat} {l : List ByteArray} {a : ByteArray} {w w1 : World} {v : Value} {o : Obj} (hB : lb < B) (hv : w.heap[lb]? = some (.cells #[v] 23 (0, 0))) (hown : w.ownsRow B 9 1 v l.length (l.map Value.string))
    (hown1 : w1.ownsRow B 9 1 (.slice (some ⟨gg, 0, none⟩) (l.length + 1) cap) (l.length + 1) (l.map Value.string ++ [.string a])) (hgrow : (w.alloc o).grownBy w1 v.ownBlock) :
    w1.cell? ⟨lb, 0, none⟩ = some v ∧ w1.frozen? ⟨lb, 0, none⟩ = false ∧ LogAt B lb (l ++ [a]) (w1.setCell ⟨lb, 0, none⟩ (.slice (some ⟨gg, 0, none⟩) (l.length + 1) cap)) ∧
      Below lb w w1 ∧ Below lb w (w1.setCell ⟨lb, 0, none⟩ (.slice (some ⟨gg, 0, none⟩) (l.length + 1) cap)) ∧ Keep w (w1.setCell ⟨lb, 0, none⟩ (.slice (some ⟨gg, 0, none⟩) (l.length + 1) cap)) := by
  have hlt : lb < w.heap.size := (Array.getElem?_eq_some_iff.1 hv).1
  have hne : some lb ≠ v.ownBlock := by
    intro e
    have := (hown.lt _ e.symm).1
    omega
  have hv1 : w1.heap[lb]? = some (.cells #[v] 23 (0, 0)) := by
    rw [hgrow.block lb (by simp; omega) hne, Below.heap_alloc _ _ _ hlt]
    exact hv
  have hb1 : Below lb w w1 := (((Below.refl w.heap.size w).alloc (Nat.le_refl _) o).mono (Nat.le_of_lt hlt)).grown hgrow (by simp; omega) (fun j hj => by have := (hown.lt j hj).1; omega)
  have hk1 : Keep w w1 := fun b cs t ht e => by
    have hbl : b < w.heap.size := (Array.getElem?_eq_some_iff.1 e).1
    have hne' : some b ≠ v.ownBlock := by
      intro e'
      rcases hown.2 with ⟨rfl, _⟩ | ⟨g, cap', cur, rfl, _, hh, _⟩
      · simp [Value.ownBlock] at e'
      · simp [Value.ownBlock] at e'
        subst e'
        rw [hh] at e
        simp only [Option.some.injEq, Obj.cells.injEq] at e
        rcases ht with rfl | rfl
        · exact absurd e.2.1 (by decide)
        · exact absurd e.2.1 (by decide)
    rw [hgrow.block b (by simp; omega) hne', Below.heap_alloc _ _ _ hbl]
    exact e
  refine ⟨cell_of_one hv1, free_of_one hv1, ⟨_, one_setCell hv1, ?_⟩, hb1, hb1.setCell (Nat.le_refl _) _, Keep.setCell hk1 hv1 (by decide) _⟩
  have := ownsRow_setCell_below hown1 (a := ⟨lb, 0, none⟩) hB (.slice (some ⟨gg, 0, none⟩) (l.length + 1) cap)
  simpa using this

set_option maxHeartbeats 400000 in
theorem on7 (lb rb rn rc : Nat) (ra : Option Addr) (f : Nat → ByteArray) (l : List ByteArray) (a : ByteArray) (w0 w : World) (hlog : LogAt (lb + 1) lb l w) (hlen : l.length ≤ 131072)
    (hrb : w.cell? ⟨rb, 0, none⟩ = some (.slice ra rn rc)) (hrl : rb < lb) (hrn : rn ≤ 256) (hS : StrsAt w0 ra rn f) (hb : Below lb w0 w) (hb0 : w0.heap.size ≤ lb) :
    Calls Ybaf.prog 7 #[.string a, .pointer (some ⟨lb, 0, none⟩), .pointer (some ⟨rb, 0, none⟩)] w fun e w' => e = .returned (.bool (among f a rn)) ∧ LogAt (lb + 1) lb (l ++ [a]) w' ∧ Below lb w w' ∧ Keep w w' := by
  obtain ⟨i0, hi0, hz0, hz1, hz2⟩ := info_parts Ybaf.info9
  obtain ⟨v, hv, hown⟩ := hlog
  have hlt : lb < w.heap.size := (Array.getElem?_eq_some_iff.1 hv).1
  have hcv := cell_of_one hv
  have HV : Hid (w.heap[lb]? = some (.cells #[v] 23 (0, 0))) := hv
  have HO : Hid (w.ownsRow (lb + 1) 9 1 v l.length (l.map Value.string)) := hown
  clear hv hown
  go_enter Ybaf.func7, Ybaf.ntmps7
  go_wp2_with (first
    | (at_builtin; refine wpList_append_lies _ rfl _ _ _ rfl (lb + 1) 9 i0 _ 1 16 Ybaf.underlying23 hi0 hz0 hz1 hz2 rfl (by omega) v l.length (l.map Value.string) rfl (HO.out.alloc _) ⟨w.heap.size, 0, none⟩ 1 1 [.string a] rfl rfl (cell_one_new _ _ _) (by simp [Value.oneCell']) (by omega) (by unfold maxLen; omega) (by omega) (by simp; omega) (w.heap.size + 1) (by simp) ?_; intro gg cap w1 hown1 hgrow hat hgl; obtain ⟨hM1, hMf1, hlog', hb1, hb2, hkp⟩ := log_step (by omega) HV.out HO.out hown1 hgrow; have hrb1 := bcell hb1 hrb hrl; clear hown1 hgrow hat)
    | (go_at_call 8; refine (in_any ra rn rc f a _ hrn (hS.below (hb.trans hb2) hb0)).mono ?_; rintro e w' ⟨rfl, rfl⟩))
  go_ret
  exact ⟨rfl, hlog', hb2, hkp⟩

set_option maxHeartbeats 400000 in
theorem on11 (rb rn rc : Nat) (ra : Option Addr) (f : Nat → ByteArray) (k : Int) (a : ByteArray) (w : World)
    (hrb : w.cell? ⟨rb, 0, none⟩ = some (.slice ra rn rc)) (hrn : rn ≤ 256) (hS : StrsAt w ra rn f) :
    Calls Ybaf.prog 11 #[.int .i64 k, .string a, .pointer (some ⟨rb, 0, none⟩)] w fun e w' => e = .returned (.bool (among f a rn)) ∧ w' = w := by
  go_enter Ybaf.func11, Ybaf.ntmps11
  go_wp2_with (go_at_call 8; refine (in_any ra rn rc f a _ hrn hS).mono ?_; rintro e w' ⟨rfl, rfl⟩)
  go_ret
  exact ⟨rfl, rfl⟩

/-! ### The answers -/
/-- n bools from ao on. -/
def BoolsAt (w : World) (ao : Option Addr) (n : Nat) (f : Nat → Bool) : Prop :=
  n = 0 ∨ ∃ g o, ao = some ⟨g, o, none⟩ ∧ g < w.heap.size ∧ ∀ j, j < n → w.cell? ⟨g, o + j, none⟩ = some (.bool (f j))
theorem BoolsAt.below {w w' : World} {ao : Option Addr} {n : Nat} {f : Nat → Bool} (h : BoolsAt w ao n f) {B : Nat} (hb : Below B w w') (hB : w.heap.size ≤ B) : BoolsAt w' ao n f := by
  rcases h with h | ⟨g, o, h1, h2, h3⟩
  · exact .inl h
  · exact .inr ⟨g, o, h1, Nat.lt_of_lt_of_le h2 hb.size, fun j hj => bcell hb (h3 j hj) (by omega)⟩
theorem BoolsAt.pick {w : World} {ao : Option Addr} {n j : Nat} {f : Nat → Bool} (h : BoolsAt w ao n f) (hj : j < n) : ∃ g o, ao = some ⟨g, o, none⟩ ∧ g < w.heap.size ∧ w.cell? ⟨g, o + j, none⟩ = some (.bool (f j)) := by
  rcases h with h | ⟨g, o, h1, h2, h3⟩
  · omega
  · exact ⟨g, o, h1, h2, h3 j hj⟩

/-- The k-th answer: true past the end. -/
def ansOf (f : Nat → Bool) (n k : Nat) : Bool := if k < n then f k else true
theorem ansOf_lt {f : Nat → Bool} {n k : Nat} (h : k < n) : ansOf f n k = f k := by unfold ansOf; rw [if_pos h]
theorem ansOf_ge {f : Nat → Bool} {n k : Nat} (h : ¬ k < n) : ansOf f n k = true := by unfold ansOf; rw [if_neg h]

set_option maxHeartbeats 400000 in
theorem on14_lt (ab an ac k : Nat) (aa : Option Addr) (f : Nat → Bool) (a : ByteArray) (w : World)
    (hab : w.cell? ⟨ab, 0, none⟩ = some (.slice aa an ac)) (hS : BoolsAt w aa an f) (hk : k < an) :
    Calls Ybaf.prog 14 #[.int .i64 k, .string a, .pointer (some ⟨ab, 0, none⟩)] w fun e w' => e = .returned (.bool (ansOf f an k)) ∧ w' = w := by
  obtain ⟨g, o, rfl, _, hc⟩ := hS.pick hk
  clear hS
  go_enter Ybaf.func14, Ybaf.ntmps14
  go_wp2
  go_ret
  exact ⟨ret_bool (ansOf_lt hk), rfl⟩
set_option maxHeartbeats 400000 in
theorem on14_ge (ab an ac k : Nat) (aa : Option Addr) (f : Nat → Bool) (a : ByteArray) (w : World)
    (hab : w.cell? ⟨ab, 0, none⟩ = some (.slice aa an ac)) (hk : ¬ k < an) :
    Calls Ybaf.prog 14 #[.int .i64 k, .string a, .pointer (some ⟨ab, 0, none⟩)] w fun e w' => e = .returned (.bool (ansOf f an k)) ∧ w' = w := by
  go_enter Ybaf.func14, Ybaf.ntmps14
  go_wp2
  go_ret
  exact ⟨ret_bool (ansOf_ge (by omega)), rfl⟩
theorem on14 (ab an ac k : Nat) (aa : Option Addr) (f : Nat → Bool) (a : ByteArray) (w : World)
    (hab : w.cell? ⟨ab, 0, none⟩ = some (.slice aa an ac)) (hS : BoolsAt w aa an f) :
    Calls Ybaf.prog 14 #[.int .i64 k, .string a, .pointer (some ⟨ab, 0, none⟩)] w fun e w' => e = .returned (.bool (ansOf f an k)) ∧ w' = w := by
  by_cases hk : k < an
  · exact on14_lt ab an ac k aa f a w hab hS hk
  · exact on14_ge ab an ac k aa f a w hab hk

/-- The log and the count of the questions. -/
def CountAt (lb : Nat) (l : List ByteArray) (w : World) : Prop := LogAt (lb + 2) lb l w ∧ w.heap[lb + 1]? = some (.cells #[.int .i64 (l.length : Int)] 3 (0, 0))

theorem CountAt.below {lb : Nat} {l : List ByteArray} {w w' : World} (h : CountAt lb l w) (hb : Below w.heap.size w w') : CountAt lb l w' :=
  ⟨h.1.below hb, (hb.block _ (Array.getElem?_eq_some_iff.1 h.2).1).trans h.2⟩

/-- Behind 'log = append(log, a)': the count's variable. -/
theorem count_far {lb : Nat} {l : List ByteArray} {w w1 : World} {v : Value} {o : Obj} (hown : w.ownsRow (lb + 2) 9 1 v l.length (l.map Value.string)) (hk : w.heap[lb + 1]? = some (.cells #[.int .i64 (l.length : Int)] 3 (0, 0)))
    (hgrow : (w.alloc o).grownBy w1 v.ownBlock) : w1.heap[lb + 1]? = some (.cells #[.int .i64 (l.length : Int)] 3 (0, 0)) := by
  have hlt : lb + 1 < w.heap.size := (Array.getElem?_eq_some_iff.1 hk).1
  have hne : some (lb + 1) ≠ v.ownBlock := by
    intro e
    have := (hown.lt _ e.symm).1
    omega
  rw [hgrow.block (lb + 1) (by simp; omega) hne, Below.heap_alloc _ _ _ hlt]
  exact hk

/-- Behind 'k++'. -/
theorem count_step {lb : Nat} {l : List ByteArray} {a : ByteArray} {w2 : World} {x : Value} (h : LogAt (lb + 2) lb (l ++ [a]) w2) (hk : w2.heap[lb + 1]? = some (.cells #[x] 3 (0, 0))) :
    CountAt lb (l ++ [a]) (w2.setCell ⟨lb + 1, 0, none⟩ (.int .i64 ((l.length : Int) + 1))) := by
  obtain ⟨v, h1, h2⟩ := h
  refine ⟨⟨v, (Below.heap_setCell _ _ _ _ (by show lb ≠ lb + 1; omega)).trans h1, ownsRow_setCell_below h2 (a := ⟨lb + 1, 0, none⟩) (by show lb + 1 < lb + 2; omega) _⟩, ?_⟩
  rw [one_setCell hk]
  simp

set_option maxHeartbeats 400000 in
theorem on13_lt (lb ab an ac : Nat) (aa : Option Addr) (f : Nat → Bool) (l : List ByteArray) (a : ByteArray) (w0 w : World) (hlog : CountAt lb l w) (hlen : l.length ≤ 131072)
    (hab : w.cell? ⟨ab, 0, none⟩ = some (.slice aa an ac)) (hal : ab < lb) (hS : BoolsAt w0 aa an f) (hb : Below lb w0 w) (hb0 : w0.heap.size ≤ lb) (hk : l.length < an) :
    Calls Ybaf.prog 13 #[.string a, .pointer (some ⟨lb, 0, none⟩), .pointer (some ⟨lb + 1, 0, none⟩), .pointer (some ⟨ab, 0, none⟩)] w fun e w' => e = .returned (.bool (ansOf f an l.length)) ∧ CountAt lb (l ++ [a]) w' ∧ Below lb w w' ∧ Keep w w' := by
  obtain ⟨i0, hi0, hz0, hz1, hz2⟩ := info_parts Ybaf.info9
  obtain ⟨⟨v, hv, hown⟩, hkc⟩ := hlog
  obtain ⟨g, o, rfl, hg, hc⟩ := (hS.below hb hb0).pick hk
  have hgl : g < lb := by
    rcases hS with h | ⟨g', o', h1, h2, _⟩
    · omega
    · simp at h1; omega
  have hlt : lb + 1 < w.heap.size := (Array.getElem?_eq_some_iff.1 hkc).1
  have hcv := cell_of_one hv
  have HV : Hid (w.heap[lb]? = some (.cells #[v] 23 (0, 0))) := hv
  have HO : Hid (w.ownsRow (lb + 2) 9 1 v l.length (l.map Value.string)) := hown
  have HK : Hid (w.heap[lb + 1]? = some (.cells #[.int .i64 (l.length : Int)] 3 (0, 0))) := hkc
  clear hv hown hkc
  go_enter Ybaf.func13, Ybaf.ntmps13
  go_wp2_with (at_builtin; refine wpList_append_lies _ rfl _ _ _ rfl (lb + 2) 9 i0 _ 1 16 Ybaf.underlying23 hi0 hz0 hz1 hz2 rfl (by omega) v l.length (l.map Value.string) rfl (HO.out.alloc _) ⟨w.heap.size, 0, none⟩ 1 1 [.string a] rfl rfl (cell_one_new _ _ _) (by simp [Value.oneCell']) (by omega) (by unfold maxLen; omega) (by omega) (by simp; omega) (w.heap.size + 1) (by simp) ?_; intro gg cap w1 hown1 hgrow hat hggl; obtain ⟨hM1, hMf1, hlog', hb1, hb2, hkp⟩ := log_step (by omega) HV.out HO.out hown1 hgrow; have hab1 := bcell hb1 hab hal; have hc1 := bcell hb1 hc hgl; have HK1 := count_far HO.out HK.out hgrow; have hk1 := cell_of_one HK1; have hkf := free_of_one HK1; have HKH : Hid (w1.heap[lb + 1]? = some (.cells #[.int .i64 (l.length : Int)] 3 (0, 0))) := HK1; clear hown1 hgrow hat HK1)
  go_ret
  exact ⟨ret_bool (ansOf_lt hk), count_step hlog' ((Below.heap_setCell _ _ _ _ (by show lb + 1 ≠ lb; omega)).trans HKH.out), hb2.setCell (by show lb ≤ lb + 1; omega) _, hkp.setCell ((Below.heap_setCell _ _ _ _ (by show lb + 1 ≠ lb; omega)).trans HKH.out) (by decide) _⟩

set_option maxHeartbeats 400000 in
theorem on13_ge (lb ab an ac : Nat) (aa : Option Addr) (f : Nat → Bool) (l : List ByteArray) (a : ByteArray) (w : World) (hlog : CountAt lb l w) (hlen : l.length ≤ 131072)
    (hab : w.cell? ⟨ab, 0, none⟩ = some (.slice aa an ac)) (hal : ab < lb) (hk : ¬ l.length < an) :
    Calls Ybaf.prog 13 #[.string a, .pointer (some ⟨lb, 0, none⟩), .pointer (some ⟨lb + 1, 0, none⟩), .pointer (some ⟨ab, 0, none⟩)] w fun e w' => e = .returned (.bool (ansOf f an l.length)) ∧ CountAt lb (l ++ [a]) w' ∧ Below lb w w' ∧ Keep w w' := by
  obtain ⟨i0, hi0, hz0, hz1, hz2⟩ := info_parts Ybaf.info9
  obtain ⟨⟨v, hv, hown⟩, hkc⟩ := hlog
  have hlt : lb + 1 < w.heap.size := (Array.getElem?_eq_some_iff.1 hkc).1
  have hcv := cell_of_one hv
  have HV : Hid (w.heap[lb]? = some (.cells #[v] 23 (0, 0))) := hv
  have HO : Hid (w.ownsRow (lb + 2) 9 1 v l.length (l.map Value.string)) := hown
  have HK : Hid (w.heap[lb + 1]? = some (.cells #[.int .i64 (l.length : Int)] 3 (0, 0))) := hkc
  clear hv hown hkc
  go_enter Ybaf.func13, Ybaf.ntmps13
  go_wp2_with (at_builtin; refine wpList_append_lies _ rfl _ _ _ rfl (lb + 2) 9 i0 _ 1 16 Ybaf.underlying23 hi0 hz0 hz1 hz2 rfl (by omega) v l.length (l.map Value.string) rfl (HO.out.alloc _) ⟨w.heap.size, 0, none⟩ 1 1 [.string a] rfl rfl (cell_one_new _ _ _) (by simp [Value.oneCell']) (by omega) (by unfold maxLen; omega) (by omega) (by simp; omega) (w.heap.size + 1) (by simp) ?_; intro gg cap w1 hown1 hgrow hat hggl; obtain ⟨hM1, hMf1, hlog', hb1, hb2, hkp⟩ := log_step (by omega) HV.out HO.out hown1 hgrow; have hab1 := bcell hb1 hab hal; have HK1 := count_far HO.out HK.out hgrow; have hk1 := cell_of_one HK1; have hkf := free_of_one HK1; have HKH : Hid (w1.heap[lb + 1]? = some (.cells #[.int .i64 (l.length : Int)] 3 (0, 0))) := HK1; clear hown1 hgrow hat HK1)
  go_ret
  exact ⟨ret_bool (ansOf_ge (by omega)), count_step hlog' ((Below.heap_setCell _ _ _ _ (by show lb + 1 ≠ lb; omega)).trans HKH.out), hb2.setCell (by show lb ≤ lb + 1; omega) _, hkp.setCell ((Below.heap_setCell _ _ _ _ (by show lb + 1 ≠ lb; omega)).trans HKH.out) (by decide) _⟩

theorem on13 (lb ab an ac : Nat) (aa : Option Addr) (f : Nat → Bool) (l : List ByteArray) (a : ByteArray) (w0 w : World) (hlog : CountAt lb l w) (hlen : l.length ≤ 131072)
    (hab : w.cell? ⟨ab, 0, none⟩ = some (.slice aa an ac)) (hal : ab < lb) (hS : BoolsAt w0 aa an f) (hb : Below lb w0 w) (hb0 : w0.heap.size ≤ lb) :
    Calls Ybaf.prog 13 #[.string a, .pointer (some ⟨lb, 0, none⟩), .pointer (some ⟨lb + 1, 0, none⟩), .pointer (some ⟨ab, 0, none⟩)] w fun e w' => e = .returned (.bool (ansOf f an l.length)) ∧ CountAt lb (l ++ [a]) w' ∧ Below lb w w' ∧ Keep w w' := by
  by_cases hk : l.length < an
  · exact on13_lt lb ab an ac aa f l a w0 w hlog hlen hab hal hS hb hb0 hk
  · exact on13_ge lb ab an ac aa f l a w hlog hlen hab hal hk
end Go.Proofs.YbulkcwjiFmt
