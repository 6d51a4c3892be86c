/-
  Seat b4901aD: marks (6).
-/
import Derived.Test.YbulkcwmaDoorRd2
namespace Go.Proofs.YbulkcwmaDoor
open Go.RowKit

theorem Ybad.info38 : (Ybad.prog.info? 38).map (fun i => (i.zero, i.size, i.bytes)) = some (some (.agg #[.int .u64 0, .int .u64 0, .int .u64 0, .bool false]), 4, 32) := by kernel_rfl

/-- The first k of n marks lie in block g. -/
def MksAt (w : World) (g n k : Nat) (M : Nat → Mk) : Prop :=
  ∃ cur : Array Value, w.heap[g]? = some (.cells cur 38 (0, 0)) ∧ cur.size = n * 4 ∧ ∀ i, i < k → cur[i * 4]? = some (.int .u64 (M i).peer) ∧ cur[i * 4 + 1]? = some (.int .u64 (M i).inc) ∧ cur[i * 4 + 2]? = some (.int .u64 (M i).seq) ∧ cur[i * 4 + 3]? = some (.bool (M i).kept)

theorem MksAt.grown {w w' : World} {g n k p : Nat} {M : Nat → Mk} (h : MksAt w g n k M) (hg : w.grownBy w' (some p)) (hne : g ≠ p) : MksAt w' g n k M := by
  obtain ⟨cur, h1, h2, h3⟩ := h
  exact ⟨cur, (hg.block g (Array.getElem?_eq_some_iff.1 h1).1 (by simp; omega)).trans h1, h2, h3⟩

/-- The four cells of place k. -/
theorem MksAt.slots {w : World} {g n k : Nat} {M : Nat → Mk} (h : MksAt w g n k M) (hk : k < n) :
    (∃ a0 a1 a2 a3, w.cell? ⟨g, k * 4, none⟩ = some a0 ∧ w.cell? ⟨g, k * 4 + 1, none⟩ = some a1 ∧ w.cell? ⟨g, k * 4 + 2, none⟩ = some a2 ∧ w.cell? ⟨g, k * 4 + 3, none⟩ = some a3) ∧ ∀ j, w.frozen? ⟨g, j, none⟩ = false := by
  obtain ⟨cur, h1, h2, _⟩ := h
  have e : ∀ j, j < 4 → ∃ a, w.cell? ⟨g, k * 4 + j, none⟩ = some a := fun j hj => by
    rw [cell_of_row w g (k * 4 + j) cur 38 (0, 0) h1, Array.getElem?_eq_getElem (by omega)]
    exact ⟨_, rfl⟩
  obtain ⟨a0, e0⟩ := e 0 (by omega)
  obtain ⟨a1, e1⟩ := e 1 (by omega)
  obtain ⟨a2, e2⟩ := e 2 (by omega)
  obtain ⟨a3, e3⟩ := e 3 (by omega)
  exact ⟨⟨a0, a1, a2, a3, e0, e1, e2, e3⟩, fun j => by simp [World.frozen?, h1]⟩

theorem row_set {w : World} {g j : Nat} {cur : Array Value} {T : TypeId} (h : w.heap[g]? = some (.cells cur T (0, 0))) (v : Value) : (w.setCell ⟨g, j, none⟩ v).heap[g]? = some (.cells (cur.setIfInBounds j v) T (0, 0)) := by
  rw [setCell_eq_setRow w g j cur T (0, 0) v h]
  exact setRow_heap w g _ _ T _ h

/-- The k-th mark stored. -/
theorem MksAt.store {x : World} {g n k : Nat} {M : Nat → Mk} (h : MksAt x g n k M) (hk : k < n) :
    MksAt ((((x.setCell ⟨g, k * 4, none⟩ (.int .u64 (M k).peer)).setCell ⟨g, k * 4 + 1, none⟩ (.int .u64 (M k).inc)).setCell ⟨g, k * 4 + 2, none⟩ (.int .u64 (M k).seq)).setCell ⟨g, k * 4 + 3, none⟩ (.bool (M k).kept)) g n (k + 1) M := by
  obtain ⟨cur, h1, h2, h3⟩ := h
  refine ⟨_, row_set (row_set (row_set (row_set h1 _) _) _) _, by simpa using h2, fun i hi => ?_⟩
  by_cases e : i < k
  · obtain ⟨a, b, c, d⟩ := h3 i e
    simp only [Array.getElem?_setIfInBounds]
    refine ⟨?_, ?_, ?_, ?_⟩
    · rw [if_neg (by omega), if_neg (by omega), if_neg (by omega), if_neg (by omega)]; exact a
    · rw [if_neg (by omega), if_neg (by omega), if_neg (by omega), if_neg (by omega)]; exact b
    · rw [if_neg (by omega), if_neg (by omega), if_neg (by omega), if_neg (by omega)]; exact c
    · rw [if_neg (by omega), if_neg (by omega), if_neg (by omega), if_neg (by omega)]; exact d
  · obtain rfl : i = k := by omega
    simp only [Array.getElem?_setIfInBounds, Array.size_setIfInBounds]
    refine ⟨?_, ?_, ?_, ?_⟩
    · rw [if_neg (by omega), if_neg (by omega), if_neg (by omega), if_pos trivial, if_pos (by omega)]
    · rw [if_neg (by omega), if_neg (by omega), if_pos trivial, if_pos (by omega)]
    · rw [if_neg (by omega), if_pos trivial, if_pos (by omega)]
    · rw [if_pos trivial, if_pos (by omega)]

theorem RdAt.keep {T : TypeId} {w w' : World} {p : Nat} {s : St} (h : RdAt T w p s) (hk : ∀ k, k ≤ p → w'.heap[k]? = w.heap[k]?) : RdAt T w' p s := by
  obtain ⟨bv, h1, h2⟩ := h
  refine ⟨bv, (hk p (Nat.le_refl _)).trans h1, ?_⟩
  rcases h2 with h2 | ⟨l, g, o, c, e1, e2, e3, e4, e5, e6⟩
  · exact .inl h2
  · exact .inr ⟨l, g, o, c, e1, e2, e3, e4, e5, fun j hj => (World.cell?_of_block (w := w) (hk g (by omega))).trans (e6 j hj)⟩
theorem RdAt.far {T : TypeId} {w : World} {p : Nat} {s : St} (h : RdAt T w p s) {g : Nat} (hg : p < g) (j : Nat) (v : Value) : RdAt T (w.setCell ⟨g, j, none⟩ v) p s :=
  h.keep fun k hk => Below.heap_setCell _ _ _ _ (by show k ≠ g; omega)
theorem RdAt.lt {T : TypeId} {w : World} {p : Nat} {s : St} (h : RdAt T w p s) : p < w.heap.size := by
  obtain ⟨bv, h1, _⟩ := h
  exact (Array.getElem?_eq_some_iff.1 h1).1
theorem grown_new {a w : World} {row : Option Nat} (h : a.grownBy w row) {g : Nat} (hg : a.heap.size ≤ g) (j : Nat) (v : Value) : a.grownBy (w.setCell ⟨g, j, none⟩ v) row :=
  ⟨h.os, h.tape, h.output, by have := h.size; simpa using this, fun k hk hne => (Below.heap_setCell _ _ _ _ (by show k ≠ g; omega)).trans (h.block k hk hne)⟩
theorem grown_any {a w : World} {row : Option Nat} (h : a.grownBy w none) : a.grownBy w row :=
  ⟨h.os, h.tape, h.output, h.size, fun k hk _ => h.block k hk (by simp)⟩
theorem made_marks {w : World} {B g n : Nat} {xs : List Value} {M : Nat → Mk} (h : w.ownsRow B 38 4 (.slice (some ⟨g, 0, none⟩) n n) n xs) : MksAt w g n 0 M := by
  rcases h.2 with ⟨h, _⟩ | ⟨g', cap, cur, hv, _, hh, _, _, hs, _⟩
  · simp at h
  · simp at hv
    obtain ⟨rfl, rfl⟩ := hv
    exact ⟨cur, hh, hs, fun i hi => absurd hi (Nat.not_lt_zero _)⟩

set_option maxHeartbeats 1000000 in
theorem marks6_some (p n : Nat) (s : St) (z y : TypeId × Value) (w : World) (hp : 2 < p) (hR : RdAt 32 w p s) (hG : w.cell? ⟨1, 0, none⟩ = some (.iface z.1 z.2)) (hG2 : w.cell? ⟨2, 0, none⟩ = some (.iface y.1 y.2))
    (hn : lenV z s = n) (hn0 : 0 < n) (hnl : n ≤ 100000) :
    Calls Ybad.prog 6 #[.pointer (some ⟨p, 0, none⟩)] w fun e w' => ∃ g, e = .returned (.slice (some ⟨g, 0, none⟩) n n) ∧ w.heap.size ≤ g ∧ MksAt w' g n n (mksV z y (lenS z s)) ∧ RdAt 32 w' p (mksS z y (lenS z s) n) ∧ w.grownBy w' (some p) := by
  obtain ⟨i0, hi0, hz0, hz1, hz2⟩ := info_parts Ybad.info38
  have HR := hide hR
  have HN := hide hn
  have hne : ((n : Int) == 0) = false := by simp; omega
  clear hR hn
  go_enter Ybad.func6, Ybad.ntmps6
  go_wp2_with (first
    | (go_at_call 11; refine (length11 p s z _ hp HR.out hG).mono ?_; rw [HN.out]; rintro e w1 ⟨rfl, hR1, hg1⟩; have HR1 := hide hR1; clear hR1; have hG1 := cell_grown hg1 hG (by omega); have hG21 := cell_grown hg1 hG2 (by omega))
    | (at_make; refine wpList_make_full _ rfl _ _ 33 rfl w1.heap.size 38 i0 _ 4 Ybad.underlying33 hi0 hz0 hz1 .i64 .i64 _ _ n rfl rfl rfl rfl (by rw [hz2]; omega) (by unfold maxLen; omega) (Nat.le_refl _) ?_; intro w2 hown2 hg2; have HM2 := hide (made_marks (M := mksV z y (lenS z s)) hown2); clear hown2))
  have hpl : p < w1.heap.size := HR1.out.lt
  go_loopw [14] (fun i wr => ∃ k : Nat, k ≤ n ∧ i = .int .i64 k ∧ MksAt wr w1.heap.size n k (mksV z y (lenS z s)) ∧ RdAt 32 wr p (mksS z y (lenS z s) k) ∧ w1.grownBy wr (some p)) (fun i _ => n - (intOf i).toNat)
  case atStart => exact ⟨0, Nat.zero_le _, rfl, HM2.out, HR1.out.keep (fun k hk => hg2.block k (by omega) (by simp)), grown_any hg2⟩
  case round =>
    obtain ⟨k, hk, rfl, hM, hR2, hg3⟩ := hrel
    have HM := hide hM
    have HR2 := hide hR2
    clear hM hR2
    by_cases hlt : k < n
    · have hG2' := cell_grown hg3 hG1 (by omega)
      have hG22' := cell_grown hg3 hG21 (by omega)
      go_wp2_with fail
      refine (uv12 p _ z _ HR2.out hG2').mono ?_
      rintro e x1 ⟨rfl, r1, g1⟩
      have q1 := cell_grown g1 hG2' (by omega)
      go_wp2_with fail
      refine (uv12 p _ z _ r1 q1).mono ?_
      rintro e x2 ⟨rfl, r2, g2⟩
      have q2 := cell_grown g2 q1 (by omega)
      go_wp2_with fail
      refine (uv12 p _ z _ r2 q2).mono ?_
      rintro e x3 ⟨rfl, r3, g3⟩
      have q3 := cell_grown g3 q2 (by omega)
      have g13 := (g1.trans g2).trans g3
      have q3' := cell_grown g13 hG22' (by omega)
      go_wp2_with fail
      refine (flag13 p _ z y _ hp r3 q3 q3').mono ?_
      rintro e x4 ⟨rfl, r4, g4⟩
      have g14 := g13.trans g4
      have HM4 := HM.out.grown g14 (by omega)
      obtain ⟨⟨a0, a1, a2, a3, e0, e1, e2, e3⟩, hf⟩ := HM4.slots hlt
      have R4 := hide r4
      have HM5 := hide HM4
      clear r1 r2 r3 r4 q1 q2 q3 q3' HM4
      go_wp2
      go_roundw
      case rel => exact ⟨k + 1, by omega, by go_num, HM5.out.store hlt, ((((R4.out.far hpl _ _).far hpl _ _).far hpl _ _).far hpl _ _), grown_new (grown_new (grown_new (grown_new (hg3.trans g14) (Nat.le_refl _) _ _) (Nat.le_refl _) _ _) (Nat.le_refl _) _ _) (Nat.le_refl _) _ _⟩
      case measure => simp [intOf]; omega
    · go_wp2
      go_ret
      obtain rfl : k = n := by omega
      exact ⟨w1.heap.size, rfl, hg1.size, HM.out, HR2.out, hg1.trans hg3⟩

set_option maxHeartbeats 400000 in
theorem marks6_zero (p : Nat) (s : St) (z : TypeId × Value) (w : World) (hp : 2 < p) (hR : RdAt 32 w p s) (hG : w.cell? ⟨1, 0, none⟩ = some (.iface z.1 z.2)) (hn : lenV z s = 0) :
    Calls Ybad.prog 6 #[.pointer (some ⟨p, 0, none⟩)] w fun e w' => e = .returned (.slice none 0 0) ∧ RdAt 32 w' p (lenS z s) ∧ w.grownBy w' (some p) := by
  have HR := hide hR
  have HN := hide hn
  clear hR hn
  go_enter Ybad.func6, Ybad.ntmps6
  go_wp2_with (go_at_call 11; refine (length11 p s z _ hp HR.out hG).mono ?_; rw [HN.out]; rintro e w1 ⟨rfl, hR1, hg1⟩)
  go_ret
  exact ⟨rfl, hR1, hg1⟩
end Go.Proofs.YbulkcwmaDoor
