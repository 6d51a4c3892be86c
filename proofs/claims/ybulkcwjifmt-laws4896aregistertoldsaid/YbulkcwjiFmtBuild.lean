/-
  Seat b4896aF: zzs4896abuild (6).
-/
import Derived.Test.YbulkcwjiFmtOne
import Derived.Deep.RegionLaw
import Derived.Deep.AppendLies
namespace Go.Proofs.YbulkcwjiFmt
open Go.RowKit

theorem Ybaf.info62 : (Ybaf.prog.info? 62).map (fun i => (i.zero, i.size, i.bytes)) = some (some (.agg #[.string ⟨#[]⟩, .string ⟨#[]⟩, .string ⟨#[]⟩, .slice none 0 0, .bool false, .bool false, .pointer none, .slice none 0 0]), 8, 112) := by kernel_rfl

/-- One proposal's cells: q: where its interim lies. -/
def pc (P : Pr) (A : Ad) (q : Option Nat) (i : Nat) : List Value :=
  [.string ⟨#[]⟩, .string ⟨#[]⟩, .string ⟨#[]⟩, .slice (A.ra i) (P.rl i) (A.rc i), .bool false, .bool false, .pointer (q.map fun b => ⟨b, 0, none⟩), .slice none 0 0]
def pcs (P : Pr) (A : Ad) (Q : Nat → Option Nat) : Nat → List Value
  | 0 => []
  | k + 1 => pcs P A Q k ++ pc P A (Q k) k

/-- The interim of proposal i: none; or in block q, a block beyond B. -/
def ItAt (B : Nat) (w : World) (P : Pr) (A : Ad) (q : Option Nat) (i : Nat) : Prop :=
  (P.im i = false ∧ q = none) ∨ (P.im i = true ∧ ∃ b, q = some b ∧ B < b ∧ w.heap[b]? = some (.cells #[.int .u64 0, .int .i64 0, .pointer none, .int .u64 0, .int .i64 0, .pointer none, .slice (A.ba i) (P.bl i) (A.bc i)] 64 (0, 0)))

theorem pcs_congr {P : Pr} {A : Ad} {Q Q' : Nat → Option Nat} : ∀ k, (∀ i, i < k → Q i = Q' i) → pcs P A Q k = pcs P A Q' k
  | 0, _ => rfl
  | k + 1, h => by
    unfold pcs
    rw [pcs_congr k (fun i hi => h i (by omega)), h k (by omega)]

/-- Q up to k, then q. -/
def upd (Q : Nat → Option Nat) (k : Nat) (q : Option Nat) : Nat → Option Nat := fun j => if j < k then Q j else q
theorem upd_lt {Q : Nat → Option Nat} {k : Nat} {q : Option Nat} {i : Nat} (h : i < k) : upd Q k q i = Q i := by unfold upd; rw [if_pos h]
theorem upd_at {Q : Nat → Option Nat} {k : Nat} {q : Option Nat} : upd Q k q k = q := by unfold upd; rw [if_neg (Nat.lt_irrefl _)]
theorem pcs_upd (P : Pr) (A : Ad) (Q : Nat → Option Nat) (k : Nat) (q : Option Nat) : pcs P A (upd Q k q) (k + 1) = pcs P A Q k ++ pc P A q k := by
  rw [pcs, upd_at, pcs_congr (Q := upd Q k q) (Q' := Q) k (fun i hi => upd_lt hi)]

/-- An interim's block stays while the row of proposals grows and the meeting's field is stored. -/
theorem it_step {B : Nat} {wr W w1 : World} {P : Pr} {A : Ad} {q : Option Nat} {i n : Nat} {v : Value} {xs : List Value} (h : ItAt B wr P A q i) (hb : Below wr.heap.size wr W) (hown : W.ownsRow (B + 1) 62 8 v n xs)
    (hg : W.grownBy w1 v.ownBlock) (u : Value) : ItAt B (w1.setCell ⟨B, 19, none⟩ u) P A q i := by
  rcases h with h | ⟨h1, b, h2, h3, h4⟩
  · exact .inl h
  · refine .inr ⟨h1, b, h2, h3, ?_⟩
    have hlt : b < wr.heap.size := (Array.getElem?_eq_some_iff.1 h4).1
    have hW := (hb.block b hlt).trans h4
    rw [Below.heap_setCell _ _ _ _ (by show b ≠ B; omega), hg.block b (Nat.lt_of_lt_of_le hlt hb.size) ?_]
    · exact hW
    · intro e
      rcases hown.2 with ⟨rfl, _⟩ | ⟨g, cap, cur, rfl, _, hh, _⟩
      · simp [Value.ownBlock] at e
      · simp [Value.ownBlock] at e
        subst e
        rw [hW] at hh
        simp at hh

/-- The meeting's field behind the append. -/
theorem far_M {B : Nat} {wr W w1 : World} {v : Value} {k : Nat} {xs : List Value} (hMs : B < wr.heap.size) (hMc : wr.cell? ⟨B, 19, none⟩ = some v) (hMf : wr.frozen? ⟨B, 19, none⟩ = false)
    (hbW : Below wr.heap.size wr W) (hown : W.ownsRow (B + 1) 62 8 v k xs) (hgrow : W.grownBy w1 v.ownBlock) : w1.cell? ⟨B, 19, none⟩ = some v ∧ w1.frozen? ⟨B, 19, none⟩ = false := by
  have hne : some B ≠ v.ownBlock := by
    intro e
    have := (hown.lt _ e.symm).1
    omega
  have hWs := hbW.size
  refine ⟨?_, ?_⟩
  · rw [hgrow.cell_far ⟨B, 19, none⟩ (by show B < _; omega) hne]
    exact bcell hbW hMc hMs
  · rw [hgrow.frozen_far ⟨B, 19, none⟩ (by show B < _; omega) hne, hbW.frozen (p := ⟨B, 19, none⟩) hMs]
    exact hMf

/-- What the round does to the loop's relation. -/
theorem rel_step {w wr W w1 : World} {P : Pr} {A : Ad} {Q : Nat → Option Nat} {q : Option Nat} {k n gg cap : Nat} {v : Value} (hk : k < n)
    (hMs : w.heap.size < wr.heap.size) (hit : ∀ i, i < k → ItAt w.heap.size wr P A (Q i) i) (hb : Below w.heap.size w wr) (hbW : Below wr.heap.size wr W) (hnew : ItAt w.heap.size W P A q k)
    (hMc : wr.cell? ⟨w.heap.size, 19, none⟩ = some v) (hMf : wr.frozen? ⟨w.heap.size, 19, none⟩ = false)
    (hown : W.ownsRow (w.heap.size + 1) 62 8 v k (pcs P A Q k)) (hown1 : w1.ownsRow (w.heap.size + 1) 62 8 (.slice (some ⟨gg, 0, none⟩) (k + 1) cap) (k + 1) (pcs P A Q k ++ pc P A q k)) (hgrow : W.grownBy w1 v.ownBlock) :
    (w1.setCell ⟨w.heap.size, 19, none⟩ (.slice (some ⟨gg, 0, none⟩) (k + 1) cap)).cell? ⟨w.heap.size, 19, none⟩ = some (.slice (some ⟨gg, 0, none⟩) (k + 1) cap) ∧
    (w1.setCell ⟨w.heap.size, 19, none⟩ (.slice (some ⟨gg, 0, none⟩) (k + 1) cap)).frozen? ⟨w.heap.size, 19, none⟩ = false ∧
    w.heap.size < (w1.setCell ⟨w.heap.size, 19, none⟩ (.slice (some ⟨gg, 0, none⟩) (k + 1) cap)).heap.size ∧
    (w1.setCell ⟨w.heap.size, 19, none⟩ (.slice (some ⟨gg, 0, none⟩) (k + 1) cap)).ownsRow (w.heap.size + 1) 62 8 (.slice (some ⟨gg, 0, none⟩) (k + 1) cap) (k + 1) (pcs P A (upd Q k q) (k + 1)) ∧
    (∀ i, i < k + 1 → ItAt w.heap.size (w1.setCell ⟨w.heap.size, 19, none⟩ (.slice (some ⟨gg, 0, none⟩) (k + 1) cap)) P A (upd Q k q i) i) ∧
    Below w.heap.size w (w1.setCell ⟨w.heap.size, 19, none⟩ (.slice (some ⟨gg, 0, none⟩) (k + 1) cap)) := by
  have hWs := hbW.size
  obtain ⟨hc1, hf1⟩ := far_M hMs hMc hMf hbW hown hgrow
  have hs1 := hgrow.size
  refine ⟨World.cell?_setCell_same _ _ _ hc1, by rw [World.frozen?_setCell]; exact hf1, by simp; omega, ?_, ?_, ?_⟩
  · rw [pcs_upd]
    exact ownsRow_setCell_below hown1 (by show w.heap.size < _; omega) _
  · intro i hi
    by_cases e : i < k
    · rw [upd_lt e]
      exact it_step (hit i e) hbW hown hgrow _
    · obtain rfl : i = k := by omega
      rw [upd_at]
      exact it_step hnew (Below.refl _ _) hown hgrow _
  · exact (((hb.trans (hbW.mono hb.size)).grown hgrow (by have := hb.size; omega) (fun j hj => by have := (hown.lt j hj).1; omega))).setCell (by show w.heap.size ≤ w.heap.size; omega) _

theorem heap_three (w : World) (X Y Z : Obj) : (((w.alloc X).alloc Y).alloc Z).heap[w.heap.size + 1 + 1]? = some Z := by
  have := heap_alloc_new ((w.alloc X).alloc Y) Z
  simpa using this
theorem heap_four (w : World) (X Y Z U : Obj) : ((((w.alloc X).alloc Y).alloc Z).alloc U).heap[w.heap.size + 1 + 1 + 1]? = some U := by
  have := heap_alloc_new (((w.alloc X).alloc Y).alloc Z) U
  simpa using this

set_option maxHeartbeats 400000 in
theorem build_some (b off n cap : Nat) (P : Pr) (A : Ad) (w : World) (hn : n ≤ 256) (hbl : b < w.heap.size) (hP : PAt w b off n P A) :
    Calls Ybaf.prog 6 #[.slice (some ⟨b, off, none⟩) n cap] w fun e w' => ∃ v Q, e = .returned (.pointer (some ⟨w.heap.size, 0, none⟩)) ∧ w'.cell? ⟨w.heap.size, 19, none⟩ = some v ∧
      w'.ownsRow (w.heap.size + 1) 62 8 v n (pcs P A Q n) ∧ (∀ i, i < n → ItAt w.heap.size w' P A (Q i) i) ∧ Below w.heap.size w w' := by
  obtain ⟨i0, hi0, hz0, hz1, hz2⟩ := info_parts Ybaf.info62
  have HP : Hid (PAt w b off n P A) := hP
  clear hP
  go_enter Ybaf.func6, Ybaf.ntmps6
  go_wp2
  go_loopw [11] (fun i wr => ∃ (k : Nat) (v : Value) (Q : Nat → Option Nat), k ≤ n ∧ i = .int .i64 k ∧ wr.cell? ⟨w.heap.size, 19, none⟩ = some v ∧ wr.frozen? ⟨w.heap.size, 19, none⟩ = false ∧ w.heap.size < wr.heap.size ∧
      wr.ownsRow (w.heap.size + 1) 62 8 v k (pcs P A Q k) ∧ (∀ i, i < k → ItAt w.heap.size wr P A (Q i) i) ∧ Below w.heap.size w wr) (fun i _ => n - (intOf i).toNat)
  case atStart =>
    refine ⟨0, .slice none 0 0, fun _ => none, Nat.zero_le _, rfl, ?_, ?_, ?_, World.ownsRow_nil _ _ _ _, fun i hi => absurd hi (Nat.not_lt_zero _), (Below.refl _ _).alloc (Nat.le_refl _) _⟩
    · simp
    · simp
    · simp
  case round =>
    obtain ⟨k, v, Q, hk, rfl, hM, hMf, hMs, hown, hit, hb⟩ := hrel
    have HI : Hid (∀ i, i < k → ItAt w.heap.size wr P A (Q i) i) := hit
    clear hit
    by_cases hlt : k < n
    · obtain ⟨h0, h1, h2⟩ := (HP.out.below hb hbl) k hlt
      cases him : P.im k with
      | true =>
        rw [him] at h1
        have HIM : Hid (P.im k = true) := him
        clear him
        have hbel := fun X Y Z => (((Below.refl wr.heap.size wr).alloc (Nat.le_refl _) X).alloc (by simp) Y).alloc (by simp; omega) Z
        have hM3 := fun X Y Z => bcell (hbel X Y Z) hM hMs
        have hM4 := fun X Y Z U => bcell ((hbel X Y Z).alloc (by simp; omega) U) hM hMs
        have HB := fun X Y Z U => ((hbel X Y Z).alloc (by simp; omega) U).drew
        clear hbel
        go_wp2_with fail
        go_region_law (refine step_append_lies _ (by rfl) _ _ _ (by rfl) (w.heap.size + 1) 62 i0 _ 8 112 Ybaf.underlying52 hi0 hz0 hz1 hz2 rfl (by omega) v k (pcs P A Q k) (by rfl) (((((hown.alloc _).alloc _).alloc _).alloc _).drew) ⟨wr.heap.size + 1 + 1 + 1, 0, none⟩ 1 1 (pc P A (some (wr.heap.size + 1 + 1)) k) (by rfl) (by rfl) (World.news_of_block (cs := (pc P A (some (wr.heap.size + 1 + 1)) k).toArray) (t := 62) (fr := (0, 0)) (heap_four wr _ _ _ _)) (by simp [Value.oneCell', pc]) (by omega) (by unfold maxLen; omega) (by omega) (by simp; omega) (wr.heap.size + 1 + 1 + 1 + 1) (by simp) ?_; intro gg cap1 w1 hown1 hgrow hat hgl; obtain ⟨hM1, hMf1⟩ := far_M hMs hM hMf (HB _ _ _ _) (((((hown.alloc _).alloc _).alloc _).alloc _).drew) hgrow)
        all_goals
          go_wp2
          go_roundw
          case rel =>
            obtain ⟨r1, r2, r3, r4, r5, r6⟩ := rel_step hlt hMs HI.out hb (HB _ _ _ _) (.inr ⟨HIM.out, _, rfl, by omega, (Below.heap_alloc _ _ _ (by simp)).trans (heap_three wr _ _ _)⟩) hM hMf (((((hown.alloc _).alloc _).alloc _).alloc _).drew) hown1 hgrow
            exact ⟨k + 1, _, upd Q k (some (wr.heap.size + 1 + 1)), by omega, by go_num, r1, r2, r3, r4, r5, r6⟩
          case measure => simp [intOf]; omega
      | false =>
        rw [him] at h1
        have HIM : Hid (P.im k = false) := him
        clear him
        have hbel := fun X Y => ((Below.refl wr.heap.size wr).alloc (Nat.le_refl _) X).alloc (by simp) Y
        have hM3 := fun X Y => bcell (hbel X Y) hM hMs
        have hM4 := fun X Y U => bcell ((hbel X Y).alloc (by simp; omega) U) hM hMs
        have HB := fun X Y U => ((hbel X Y).alloc (by simp; omega) U).drew
        clear hbel
        go_wp2_with fail
        go_region_law (refine step_append_lies _ (by rfl) _ _ _ (by rfl) (w.heap.size + 1) 62 i0 _ 8 112 Ybaf.underlying52 hi0 hz0 hz1 hz2 rfl (by omega) v k (pcs P A Q k) (by rfl) ((((hown.alloc _).alloc _).alloc _).drew) ⟨wr.heap.size + 1 + 1, 0, none⟩ 1 1 (pc P A none k) (by rfl) (by rfl) (World.news_of_block (cs := (pc P A none k).toArray) (t := 62) (fr := (0, 0)) (heap_three wr _ _ _)) (by simp [Value.oneCell', pc]) (by omega) (by unfold maxLen; omega) (by omega) (by simp; omega) (wr.heap.size + 1 + 1 + 1) (by simp) ?_; intro gg cap1 w1 hown1 hgrow hat hgl; obtain ⟨hM1, hMf1⟩ := far_M hMs hM hMf (HB _ _ _) ((((hown.alloc _).alloc _).alloc _).drew) hgrow)
        all_goals
          go_wp2
          go_roundw
          case rel =>
            obtain ⟨r1, r2, r3, r4, r5, r6⟩ := rel_step hlt hMs HI.out hb (HB _ _ _) (.inl ⟨HIM.out, rfl⟩) hM hMf ((((hown.alloc _).alloc _).alloc _).drew) hown1 hgrow
            exact ⟨k + 1, _, upd Q k none, by omega, by go_num, r1, r2, r3, r4, r5, r6⟩
          case measure => simp [intOf]; omega
    · go_wp2
      go_ret
      obtain rfl : k = n := by omega
      exact ⟨v, Q, rfl, hM, hown, HI.out, hb⟩

set_option maxHeartbeats 400000 in
theorem build_zero (ao : Option Addr) (cap : Nat) (P : Pr) (A : Ad) (w : World) :
    Calls Ybaf.prog 6 #[.slice ao 0 cap] w fun e w' => ∃ v Q, e = .returned (.pointer (some ⟨w.heap.size, 0, none⟩)) ∧ w'.cell? ⟨w.heap.size, 19, none⟩ = some v ∧
      w'.ownsRow (w.heap.size + 1) 62 8 v 0 (pcs P A Q 0) ∧ (∀ i, i < 0 → ItAt w.heap.size w' P A (Q i) i) ∧ Below w.heap.size w w' := by
  go_enter Ybaf.func6, Ybaf.ntmps6
  go_wp2
  refine wp_loop_rounds 1 ?_
  rw [rounds_succ]
  go_wp2
  go_ret
  exact ⟨.slice none 0 0, fun _ => none, rfl, by simp, World.ownsRow_nil _ _ _ _, fun i hi => absurd hi (Nat.not_lt_zero _), (Below.refl _ _).alloc (Nat.le_refl _) _⟩

/-! ### What CheckAccounts needs of the meeting -/
theorem pcs_length (P : Pr) (A : Ad) (Q : Nat → Option Nat) : ∀ k, (pcs P A Q k).length = k * 8
  | 0 => rfl
  | k + 1 => by simp [pcs, pcs_length P A Q k, pc]; omega
theorem pcs_at (P : Pr) (A : Ad) (Q : Nat → Option Nat) : ∀ (n i j : Nat), i < n → j < 8 → (pcs P A Q n)[i * 8 + j]? = (pc P A (Q i) i)[j]?
  | 0, _, _, h, _ => absurd h (Nat.not_lt_zero _)
  | n + 1, i, j, h, hj => by
    unfold pcs
    by_cases hin : i < n
    · rw [List.getElem?_append_left (by rw [pcs_length]; omega)]
      exact pcs_at P A Q n i j hin hj
    · obtain rfl : i = n := by omega
      rw [List.getElem?_append_right (by rw [pcs_length]; omega), pcs_length]
      congr 1
      omega

/-- One proposal of the meeting, in block g, and its interim. -/
def OneAt (w : World) (g i : Nat) (P : Pr) (A : Ad) : Prop :=
  ∃ q : Option Nat, (∀ j, j < 8 → w.cell? ⟨g, i * 8 + j, none⟩ = (pc P A q i)[j]?) ∧
    ((P.im i = false ∧ q = none) ∨ (P.im i = true ∧ ∃ b, q = some b ∧ b < w.heap.size ∧ w.cell? ⟨b, 6, none⟩ = some (.slice (A.ba i) (P.bl i) (A.bc i))))

/-- The meeting at ⟨p, 0⟩: n proposals. -/
def MeetAt (w : World) (p n : Nat) (P : Pr) (A : Ad) : Prop :=
  p < w.heap.size ∧ ∃ ho c, w.cell? ⟨p, 19, none⟩ = some (.slice ho n c) ∧ (n = 0 ∨ ∃ g, ho = some ⟨g, 0, none⟩ ∧ g < w.heap.size ∧ ∀ i, i < n → OneAt w g i P A)

theorem OneAt.below {w w' : World} {g i : Nat} {P : Pr} {A : Ad} (h : OneAt w g i P A) (hg : g < w.heap.size) {B : Nat} (hb : Below B w w') (hB : w.heap.size ≤ B) : OneAt w' g i P A := by
  obtain ⟨q, h1, h2⟩ := h
  refine ⟨q, fun j hj => (hb.cell (p := ⟨g, i * 8 + j, none⟩) (by show g < B; omega)).trans (h1 j hj), ?_⟩
  rcases h2 with h2 | ⟨a, b, c, d, e⟩
  · exact .inl h2
  · exact .inr ⟨a, b, c, Nat.lt_of_lt_of_le d hb.size, bcell hb e (by omega)⟩

theorem MeetAt.below {w w' : World} {p n : Nat} {P : Pr} {A : Ad} (h : MeetAt w p n P A) {B : Nat} (hb : Below B w w') (hB : w.heap.size ≤ B) : MeetAt w' p n P A := by
  obtain ⟨h0, ho, c, h1, h2⟩ := h
  refine ⟨Nat.lt_of_lt_of_le h0 hb.size, ho, c, bcell hb h1 (by omega), ?_⟩
  rcases h2 with h2 | ⟨g, h3, h4, h5⟩
  · exact .inl h2
  · exact .inr ⟨g, h3, Nat.lt_of_lt_of_le h4 hb.size, fun i hi => (h5 i hi).below h4 hb hB⟩

/-- zzs4896abuild, whatever the proposals (up to 256 of them). -/
theorem build_any (ao : Option Addr) (n cap : Nat) (P : Pr) (A : Ad) (w : World) (hn : n ≤ 256) (hP : PropsIn w ao n P A) :
    Calls Ybaf.prog 6 #[.slice ao n cap] w fun e w' => e = .returned (.pointer (some ⟨w.heap.size, 0, none⟩)) ∧ MeetAt w' w.heap.size n P A ∧ Below w.heap.size w w' := by
  have fin : ∀ (e : Ending) (w' : World), (∃ v Q, e = .returned (.pointer (some ⟨w.heap.size, 0, none⟩)) ∧ w'.cell? ⟨w.heap.size, 19, none⟩ = some v ∧
      w'.ownsRow (w.heap.size + 1) 62 8 v n (pcs P A Q n) ∧ (∀ i, i < n → ItAt w.heap.size w' P A (Q i) i) ∧ Below w.heap.size w w') →
      e = .returned (.pointer (some ⟨w.heap.size, 0, none⟩)) ∧ MeetAt w' w.heap.size n P A ∧ Below w.heap.size w w' := by
    rintro e w' ⟨v, Q, he, hc, hown, hit, hb⟩
    have hlt := World.block_lt_of_cell? w' _ hc
    have hown' := hown
    rcases hown.2 with ⟨rfl, rfl⟩ | ⟨g, c, cur, rfl, hg, hh, _⟩
    · exact ⟨he, ⟨hlt, _, _, hc, .inl rfl⟩, hb⟩
    · refine ⟨he, ⟨hlt, _, _, hc, .inr ⟨g, rfl, (hown'.lt g rfl).2, fun i hi => ⟨Q i, fun j hj => ?_, ?_⟩⟩⟩, hb⟩
      · rw [hown'.cellAt _ (by omega), pcs_at P A Q n i j hi hj]
      · rcases hit i hi with h | ⟨h1, b, h2, _, h4⟩
        · exact .inl h
        · exact .inr ⟨h1, b, h2, (Array.getElem?_eq_some_iff.1 h4).1, (cell_of_row w' b 6 _ 64 (0, 0) h4).trans rfl⟩
  rcases hP.1 with rfl | ⟨b, off, rfl, hb, hP'⟩
  · exact (build_zero ao cap P A w).mono fin
  · exact (build_some b off n cap P A w hn hb hP').mono fin
end Go.Proofs.YbulkcwjiFmt
