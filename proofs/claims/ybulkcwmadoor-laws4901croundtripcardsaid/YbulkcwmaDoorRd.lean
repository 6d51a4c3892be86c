/-
  Seat b4901aD: the reader in memory; fail (15) and bad (10).
-/
import Derived.Test.YbulkcwmaDoorRows
import Derived.Test.YbulkcwmaDoorPlain
import Derived.Test.YbulkcwmaDoorShelf
import Derived.WalkKit
import Derived.WalkSpells
import Derived.WalkLawsBesides
import Derived.Maps.AppendAt
import Derived.Laws.Pointers
namespace Go.Proofs.YbulkcwmaDoor
open Go.RowKit

/-- An error in a cell. -/
def ev : Er → Value
  | none => .nilIface
  | some (u, x) => .iface u x

/-- The bytes left, as a slice value: nil; or l from o on in a block before p. -/
def BV (w : World) (p : Nat) (bv : Value) (b : Option (List UInt8)) : Prop :=
  (b = none ∧ bv = .slice none 0 0) ∨ ∃ l g o c, b = some l ∧ bv = .slice (some ⟨g, o, none⟩) l.length c ∧ l.length ≤ c ∧ l.length ≤ 100000 ∧ g < p ∧ ∀ j (hj : j < l.length), w.cell? ⟨g, o + j, none⟩ = some (.int .u8 (l[j]).toNat)

/-- The reader (T = 32) or its model (T = 42) in block p. -/
def RdAt (T : TypeId) (w : World) (p : Nat) (s : St) : Prop := ∃ bv, w.heap[p]? = some (.cells #[bv, ev s.e] T (0, 0)) ∧ BV w p bv s.b

theorem two_cells {w : World} {p : Nat} {a b : Value} {T : TypeId} (h : w.heap[p]? = some (.cells #[a, b] T (0, 0))) :
    w.cell? ⟨p, 0, none⟩ = some a ∧ w.cell? ⟨p, 1, none⟩ = some b ∧ w.frozen? ⟨p, 0, none⟩ = false ∧ w.frozen? ⟨p, 1, none⟩ = false :=
  ⟨(cell_of_row w p 0 _ T (0, 0) h).trans rfl, (cell_of_row w p 1 _ T (0, 0) h).trans rfl, by simp [World.frozen?, h], by simp [World.frozen?, h]⟩

theorem two_set0 {w : World} {p : Nat} {a b : Value} {T : TypeId} (h : w.heap[p]? = some (.cells #[a, b] T (0, 0))) (v : Value) : (w.setCell ⟨p, 0, none⟩ v).heap[p]? = some (.cells #[v, b] T (0, 0)) := by
  rw [setCell_eq_setRow w p 0 _ T (0, 0) v h]
  exact setRow_heap w p _ _ T _ h
theorem two_set1 {w : World} {p : Nat} {a b : Value} {T : TypeId} (h : w.heap[p]? = some (.cells #[a, b] T (0, 0))) (v : Value) : (w.setCell ⟨p, 1, none⟩ v).heap[p]? = some (.cells #[a, v] T (0, 0)) := by
  rw [setCell_eq_setRow w p 1 _ T (0, 0) v h]
  exact setRow_heap w p _ _ T _ h
theorem grown_set (w : World) (p j : Nat) (v : Value) : w.grownBy (w.setCell ⟨p, j, none⟩ v) (some p) :=
  ⟨rfl, rfl, rfl, by simp, fun k _ hk => Below.heap_setCell _ _ _ _ (by intro e; exact hk (by rw [e]))⟩

theorem BV.grown {w w' : World} {p : Nat} {bv : Value} {b : Option (List UInt8)} (h : BV w p bv b) (hg : w.grownBy w' (some p)) : BV w' p bv b := by
  rcases h with h | ⟨l, g, o, c, h1, h2, h3, h4, h5, h6⟩
  · exact .inl h
  · refine .inr ⟨l, g, o, c, h1, h2, h3, h4, h5, fun j hj => ?_⟩
    have hc := h6 j hj
    have hlt := World.block_lt_of_cell? w _ hc
    rw [World.cell?_of_block (w := w) (hg.block g hlt (by simp; omega))]
    exact hc

/-- What lies elsewhere stays. -/
theorem cell_grown {w w' : World} {p b o : Nat} {v : Value} (hg : w.grownBy w' (some p)) (h : w.cell? ⟨b, o, none⟩ = some v) (hne : b ≠ p) : w'.cell? ⟨b, o, none⟩ = some v := by
  rw [World.cell?_of_block (w := w) (hg.block b (World.block_lt_of_cell? w _ h) (by simp; omega))]
  exact h

set_option maxHeartbeats 400000 in
theorem fail15_nil (p : Nat) (bv : Value) (u : TypeId) (x : Value) (w : World) (h : w.heap[p]? = some (.cells #[bv, .nilIface] 32 (0, 0))) :
    Calls Ybad.prog 15 #[.pointer (some ⟨p, 0, none⟩), .iface u x] w fun e w' => e = .returned (.tuple #[]) ∧ w'.heap[p]? = some (.cells #[.slice none 0 0, .iface u x] 32 (0, 0)) ∧ w.grownBy w' (some p) := by
  obtain ⟨c0, c1, f0, f1⟩ := two_cells h
  have H : Hid (w.heap[p]? = some (.cells #[bv, .nilIface] 32 (0, 0))) := h
  clear h
  go_enter Ybad.func15, Ybad.ntmps15
  go_wp2
  go_end0
  exact ⟨rfl, two_set0 (two_set1 H.out _) _, (grown_set w p 1 _).trans (grown_set _ p 0 _)⟩
set_option maxHeartbeats 400000 in
theorem fail15_some (p : Nat) (bv : Value) (u u' : TypeId) (x x' : Value) (w : World) (h : w.heap[p]? = some (.cells #[bv, .iface u' x'] 32 (0, 0))) :
    Calls Ybad.prog 15 #[.pointer (some ⟨p, 0, none⟩), .iface u x] w fun e w' => e = .returned (.tuple #[]) ∧ w'.heap[p]? = some (.cells #[.slice none 0 0, .iface u' x'] 32 (0, 0)) ∧ w.grownBy w' (some p) := by
  obtain ⟨c0, c1, f0, f1⟩ := two_cells h
  have H : Hid (w.heap[p]? = some (.cells #[bv, .iface u' x'] 32 (0, 0))) := h
  clear h
  go_enter Ybad.func15, Ybad.ntmps15
  go_wp2
  go_end0
  exact ⟨rfl, two_set0 H.out _, grown_set w p 0 _⟩
theorem fail15 (p : Nat) (s : St) (v : TypeId × Value) (w : World) (h : RdAt 32 w p s) :
    Calls Ybad.prog 15 #[.pointer (some ⟨p, 0, none⟩), .iface v.1 v.2] w fun e w' => e = .returned (.tuple #[]) ∧ RdAt 32 w' p (failS v s) ∧ w.grownBy w' (some p) := by
  obtain ⟨b, e⟩ := s
  obtain ⟨bv, h1, _⟩ := h
  cases e with
  | none =>
    refine (fail15_nil p bv v.1 v.2 w h1).mono ?_
    rintro e w' ⟨he, h2, h3⟩
    exact ⟨he, ⟨_, h2, .inl ⟨rfl, rfl⟩⟩, h3⟩
  | some e =>
    obtain ⟨u', x'⟩ := e
    refine (fail15_some p bv v.1 u' v.2 x' w h1).mono ?_
    rintro e w' ⟨he, h2, h3⟩
    exact ⟨he, ⟨_, h2, .inl ⟨rfl, rfl⟩⟩, h3⟩

set_option maxHeartbeats 400000 in
theorem fail10_nil (p : Nat) (bv : Value) (u : TypeId) (x : Value) (w : World) (h : w.heap[p]? = some (.cells #[bv, .nilIface] 42 (0, 0))) :
    Calls Ybad.prog 10 #[.pointer (some ⟨p, 0, none⟩), .iface u x] w fun e w' => e = .returned (.tuple #[]) ∧ w'.heap[p]? = some (.cells #[.slice none 0 0, .iface u x] 42 (0, 0)) ∧ w.grownBy w' (some p) := by
  obtain ⟨c0, c1, f0, f1⟩ := two_cells h
  have H : Hid (w.heap[p]? = some (.cells #[bv, .nilIface] 42 (0, 0))) := h
  clear h
  go_enter Ybad.func10, Ybad.ntmps10
  go_wp2
  go_end0
  exact ⟨rfl, two_set0 (two_set1 H.out _) _, (grown_set w p 1 _).trans (grown_set _ p 0 _)⟩
set_option maxHeartbeats 400000 in
theorem fail10_some (p : Nat) (bv : Value) (u u' : TypeId) (x x' : Value) (w : World) (h : w.heap[p]? = some (.cells #[bv, .iface u' x'] 42 (0, 0))) :
    Calls Ybad.prog 10 #[.pointer (some ⟨p, 0, none⟩), .iface u x] w fun e w' => e = .returned (.tuple #[]) ∧ w'.heap[p]? = some (.cells #[.slice none 0 0, .iface u' x'] 42 (0, 0)) ∧ w.grownBy w' (some p) := by
  obtain ⟨c0, c1, f0, f1⟩ := two_cells h
  have H : Hid (w.heap[p]? = some (.cells #[bv, .iface u' x'] 42 (0, 0))) := h
  clear h
  go_enter Ybad.func10, Ybad.ntmps10
  go_wp2
  go_end0
  exact ⟨rfl, two_set0 H.out _, grown_set w p 0 _⟩
theorem fail10 (p : Nat) (s : St) (v : TypeId × Value) (w : World) (h : RdAt 42 w p s) :
    Calls Ybad.prog 10 #[.pointer (some ⟨p, 0, none⟩), .iface v.1 v.2] w fun e w' => e = .returned (.tuple #[]) ∧ RdAt 42 w' p (failS v s) ∧ w.grownBy w' (some p) := by
  obtain ⟨b, e⟩ := s
  obtain ⟨bv, h1, _⟩ := h
  cases e with
  | none =>
    refine (fail10_nil p bv v.1 v.2 w h1).mono ?_
    rintro e w' ⟨he, h2, h3⟩
    exact ⟨he, ⟨_, h2, .inl ⟨rfl, rfl⟩⟩, h3⟩
  | some e =>
    obtain ⟨u', x'⟩ := e
    refine (fail10_some p bv v.1 u' v.2 x' w h1).mono ?_
    rintro e w' ⟨he, h2, h3⟩
    exact ⟨he, ⟨_, h2, .inl ⟨rfl, rfl⟩⟩, h3⟩


/-! ### Uvarint, by the shelf's contract -/
theorem uv14 (g o c : Nat) (l : List UInt8) (v : Nat) (n : Int) (w : World) (hcell : ∀ j (hj : j < l.length), w.cell? ⟨g, o + j, none⟩ = some (.int .u8 (l[j]).toNat)) (hv : (Lib.uvarintDec l).1 = v) (hn : (Lib.uvarintDec l).2 = n) :
    Calls Ybad.prog 14 #[.slice (some ⟨g, o, none⟩) l.length c] w fun e w' => e = .returned (.tuple #[.int .u64 v, .int .i64 n]) ∧ w' = w := by
  have := Any.binary_Uvarint Ybad.laysVar45 g o l.length c l w rfl hcell
  rw [hv, hn] at this
  exact this
theorem uv14_nil (w : World) : Calls Ybad.prog 14 #[.slice none 0 0] w fun e w' => e = .returned (.tuple #[.int .u64 0, .int .i64 0]) ∧ w' = w :=
  Any.binary_Uvarint_empty Ybad.laysVar45 none 0 w

set_option maxHeartbeats 400000 in
theorem uv12_ok (p g o c m v : Nat) (l : List UInt8) (E : Value) (w : World) (h : w.heap[p]? = some (.cells #[.slice (some ⟨g, o, none⟩) l.length c, E] 32 (0, 0))) (hlc : l.length ≤ c) (_hl : l.length ≤ 100000)
    (hcell : ∀ j (hj : j < l.length), w.cell? ⟨g, o + j, none⟩ = some (.int .u8 (l[j]).toNat)) (hv : (Lib.uvarintDec l).1 = v) (hn : (Lib.uvarintDec l).2 = (m : Int)) (hm : 1 ≤ m) (hml : m ≤ l.length) :
    Calls Ybad.prog 12 #[.pointer (some ⟨p, 0, none⟩)] w fun e w' => e = .returned (.int .u64 v) ∧ ∃ o', w'.heap[p]? = some (.cells #[.slice (some ⟨g, o', none⟩) (l.length - m) (c - m), E] 32 (0, 0)) ∧ (m < l.length → o' = o + m) ∧ w.grownBy w' (some p) := by
  obtain ⟨c0, c1, f0, f1⟩ := two_cells h
  have H := fun (q : Unit) => h
  have HC := fun (q : Unit) => hcell
  have HV : Hid ((Lib.uvarintDec l).1 = v) := hv
  have HN : Hid ((Lib.uvarintDec l).2 = (m : Int)) := hn
  clear h hcell hv hn
  go_enter Ybad.func12, Ybad.ntmps12
  go_wp2_with (go_at_call 14; refine (uv14 _ _ _ _ v m _ (HC ()) HV.out HN.out).mono ?_; rintro e w' ⟨rfl, rfl⟩)
  all_goals go_ret
  · exact ⟨rfl, o, two_set0 (H ()) _, fun hh => absurd hh (by omega), grown_set _ p 0 _⟩
  · exact ⟨rfl, o + m, two_set0 (H ()) _, fun _ => rfl, grown_set _ p 0 _⟩

set_option maxHeartbeats 400000 in
theorem uv12_bad (p g o c v : Nat) (n : Int) (l : List UInt8) (s : St) (z : TypeId × Value) (w : World) (hR : RdAt 32 w p s) (hc : w.cell? ⟨p, 0, none⟩ = some (.slice (some ⟨g, o, none⟩) l.length c)) (_hl : l.length ≤ 100000)
    (hcell : ∀ j (hj : j < l.length), w.cell? ⟨g, o + j, none⟩ = some (.int .u8 (l[j]).toNat)) (hv : (Lib.uvarintDec l).1 = v) (hn : (Lib.uvarintDec l).2 = n) (hm : n ≤ 0) (hG : w.cell? ⟨1, 0, none⟩ = some (.iface z.1 z.2)) :
    Calls Ybad.prog 12 #[.pointer (some ⟨p, 0, none⟩)] w fun e w' => e = .returned (.int .u64 0) ∧ RdAt 32 w' p (failS z s) ∧ w.grownBy w' (some p) := by
  have HR : Hid (RdAt 32 w p s) := hR
  have HC := fun (q : Unit) => hcell
  have HV : Hid ((Lib.uvarintDec l).1 = v) := hv
  have HN : Hid ((Lib.uvarintDec l).2 = n) := hn
  clear hR hcell hv hn
  go_enter Ybad.func12, Ybad.ntmps12
  go_wp2_with (first
    | (go_at_call 14; refine (uv14 _ _ _ _ v n _ (HC ()) HV.out HN.out).mono ?_; rintro e w' ⟨rfl, rfl⟩)
    | (go_at_call 15; refine (fail15 p s z _ HR.out).mono ?_; rintro e w2 ⟨rfl, hR2, hg2⟩))
  go_ret
  exact ⟨rfl, hR2, hg2⟩

set_option maxHeartbeats 400000 in
theorem uv12_nil (p : Nat) (s : St) (z : TypeId × Value) (w : World) (hR : RdAt 32 w p s) (hc : w.cell? ⟨p, 0, none⟩ = some (.slice none 0 0)) (hG : w.cell? ⟨1, 0, none⟩ = some (.iface z.1 z.2)) :
    Calls Ybad.prog 12 #[.pointer (some ⟨p, 0, none⟩)] w fun e w' => e = .returned (.int .u64 0) ∧ RdAt 32 w' p (failS z s) ∧ w.grownBy w' (some p) := by
  have HR : Hid (RdAt 32 w p s) := hR
  clear hR
  go_enter Ybad.func12, Ybad.ntmps12
  go_wp2_with (first
    | (go_at_call 14; refine (uv14_nil _).mono ?_; rintro e w' ⟨rfl, rfl⟩)
    | (go_at_call 15; refine (fail15 p s z _ HR.out).mono ?_; rintro e w2 ⟨rfl, hR2, hg2⟩))
  go_ret
  exact ⟨rfl, hR2, hg2⟩

/-- 'uvarint'. -/
theorem uv12 (p : Nat) (s : St) (z : TypeId × Value) (w : World) (hR : RdAt 32 w p s) (hG : w.cell? ⟨1, 0, none⟩ = some (.iface z.1 z.2)) :
    Calls Ybad.prog 12 #[.pointer (some ⟨p, 0, none⟩)] w fun e w' => e = .returned (.int .u64 (uvV s)) ∧ RdAt 32 w' p (uvS z s) ∧ w.grownBy w' (some p) := by
  have hR' := hR
  obtain ⟨b, er⟩ := s
  obtain ⟨bv, h1, h2⟩ := hR
  rcases h2 with ⟨rfl, rfl⟩ | ⟨l, g, o, c, rfl, rfl, hlc, hl, hg, hcell⟩
  · exact uv12_nil p _ z w hR' (two_cells h1).1 hG
  · by_cases hok : 0 < (Lib.uvarintDec l).2
    · have ok : uvOk (St.l { b := some l, e := er }) = true := by show uvOk l = true; unfold uvOk; simpa using hok
      have e1 : uvV { b := some l, e := er } = (Lib.uvarintDec l).1 := by unfold uvV; rw [if_pos ok]; rfl
      have e2 : uvS z { b := some l, e := er } = { b := some (l.drop (Lib.uvarintDec l).2.toNat), e := er } := by unfold uvS; rw [if_pos ok]; rfl
      rw [e1, e2]
      have hle := dec_le l
      obtain ⟨m, hm⟩ : ∃ m : Nat, (Lib.uvarintDec l).2 = (m : Int) := ⟨(Lib.uvarintDec l).2.toNat, by omega⟩
      refine (uv12_ok p g o c m _ l _ w h1 hlc hl hcell rfl hm (by omega) (by omega)).mono ?_
      rintro e w' ⟨he, o', h3, h4, h5⟩
      refine ⟨he, ⟨_, h3, .inr ⟨l.drop m, g, o', c - m, by rw [hm]; simp, by simp, by simp; omega, by simp; omega, hg, fun j hj => ?_⟩⟩, h5⟩
      have hj' : m + j < l.length := by simp at hj; omega
      have := cell_grown h5 (hcell (m + j) hj') (by omega)
      rw [h4 (by omega), Nat.add_assoc]
      simpa using this
    · have nok : ¬ uvOk (St.l { b := some l, e := er }) = true := by show ¬ uvOk l = true; unfold uvOk; simpa using hok
      have e1 : uvV { b := some l, e := er } = 0 := by unfold uvV; rw [if_neg nok]
      have e2 : uvS z { b := some l, e := er } = failS z { b := some l, e := er } := by unfold uvS; rw [if_neg nok]
      rw [e1, e2]
      exact uv12_bad p g o c _ _ l _ z w hR' (two_cells h1).1 hl hcell rfl rfl (by omega) hG

set_option maxHeartbeats 400000 in
theorem uv9_ok (p g o c m v : Nat) (l : List UInt8) (E : Value) (w : World) (h : w.heap[p]? = some (.cells #[.slice (some ⟨g, o, none⟩) l.length c, E] 42 (0, 0))) (hlc : l.length ≤ c) (_hl : l.length ≤ 100000)
    (hcell : ∀ j (hj : j < l.length), w.cell? ⟨g, o + j, none⟩ = some (.int .u8 (l[j]).toNat)) (hv : (Lib.uvarintDec l).1 = v) (hn : (Lib.uvarintDec l).2 = (m : Int)) (hm : 1 ≤ m) (hml : m ≤ l.length) :
    Calls Ybad.prog 9 #[.pointer (some ⟨p, 0, none⟩)] w fun e w' => e = .returned (.int .u64 v) ∧ ∃ o', w'.heap[p]? = some (.cells #[.slice (some ⟨g, o', none⟩) (l.length - m) (c - m), E] 42 (0, 0)) ∧ (m < l.length → o' = o + m) ∧ w.grownBy w' (some p) := by
  obtain ⟨c0, c1, f0, f1⟩ := two_cells h
  have H := fun (q : Unit) => h
  have HC := fun (q : Unit) => hcell
  have HV : Hid ((Lib.uvarintDec l).1 = v) := hv
  have HN : Hid ((Lib.uvarintDec l).2 = (m : Int)) := hn
  clear h hcell hv hn
  go_enter Ybad.func9, Ybad.ntmps9
  go_wp2_with (go_at_call 14; refine (uv14 _ _ _ _ v m _ (HC ()) HV.out HN.out).mono ?_; rintro e w' ⟨rfl, rfl⟩)
  all_goals go_ret
  · exact ⟨rfl, o, two_set0 (H ()) _, fun hh => absurd hh (by omega), grown_set _ p 0 _⟩
  · exact ⟨rfl, o + m, two_set0 (H ()) _, fun _ => rfl, grown_set _ p 0 _⟩

set_option maxHeartbeats 400000 in
theorem uv9_bad (p g o c v : Nat) (n : Int) (l : List UInt8) (s : St) (z : TypeId × Value) (w : World) (hR : RdAt 42 w p s) (hc : w.cell? ⟨p, 0, none⟩ = some (.slice (some ⟨g, o, none⟩) l.length c)) (_hl : l.length ≤ 100000)
    (hcell : ∀ j (hj : j < l.length), w.cell? ⟨g, o + j, none⟩ = some (.int .u8 (l[j]).toNat)) (hv : (Lib.uvarintDec l).1 = v) (hn : (Lib.uvarintDec l).2 = n) (hm : n ≤ 0) (hG : w.cell? ⟨1, 0, none⟩ = some (.iface z.1 z.2)) :
    Calls Ybad.prog 9 #[.pointer (some ⟨p, 0, none⟩)] w fun e w' => e = .returned (.int .u64 0) ∧ RdAt 42 w' p (failS z s) ∧ w.grownBy w' (some p) := by
  have HR : Hid (RdAt 42 w p s) := hR
  have HC := fun (q : Unit) => hcell
  have HV : Hid ((Lib.uvarintDec l).1 = v) := hv
  have HN : Hid ((Lib.uvarintDec l).2 = n) := hn
  clear hR hcell hv hn
  go_enter Ybad.func9, Ybad.ntmps9
  go_wp2_with (first
    | (go_at_call 14; refine (uv14 _ _ _ _ v n _ (HC ()) HV.out HN.out).mono ?_; rintro e w' ⟨rfl, rfl⟩)
    | (go_at_call 10; refine (fail10 p s z _ HR.out).mono ?_; rintro e w2 ⟨rfl, hR2, hg2⟩))
  go_ret
  exact ⟨rfl, hR2, hg2⟩

set_option maxHeartbeats 400000 in
theorem uv9_nil (p : Nat) (s : St) (z : TypeId × Value) (w : World) (hR : RdAt 42 w p s) (hc : w.cell? ⟨p, 0, none⟩ = some (.slice none 0 0)) (hG : w.cell? ⟨1, 0, none⟩ = some (.iface z.1 z.2)) :
    Calls Ybad.prog 9 #[.pointer (some ⟨p, 0, none⟩)] w fun e w' => e = .returned (.int .u64 0) ∧ RdAt 42 w' p (failS z s) ∧ w.grownBy w' (some p) := by
  have HR : Hid (RdAt 42 w p s) := hR
  clear hR
  go_enter Ybad.func9, Ybad.ntmps9
  go_wp2_with (first
    | (go_at_call 14; refine (uv14_nil _).mono ?_; rintro e w' ⟨rfl, rfl⟩)
    | (go_at_call 10; refine (fail10 p s z _ HR.out).mono ?_; rintro e w2 ⟨rfl, hR2, hg2⟩))
  go_ret
  exact ⟨rfl, hR2, hg2⟩

/-- 'uvarint'. -/
theorem uv9 (p : Nat) (s : St) (z : TypeId × Value) (w : World) (hR : RdAt 42 w p s) (hG : w.cell? ⟨1, 0, none⟩ = some (.iface z.1 z.2)) :
    Calls Ybad.prog 9 #[.pointer (some ⟨p, 0, none⟩)] w fun e w' => e = .returned (.int .u64 (uvV s)) ∧ RdAt 42 w' p (uvS z s) ∧ w.grownBy w' (some p) := by
  have hR' := hR
  obtain ⟨b, er⟩ := s
  obtain ⟨bv, h1, h2⟩ := hR
  rcases h2 with ⟨rfl, rfl⟩ | ⟨l, g, o, c, rfl, rfl, hlc, hl, hg, hcell⟩
  · exact uv9_nil p _ z w hR' (two_cells h1).1 hG
  · by_cases hok : 0 < (Lib.uvarintDec l).2
    · have ok : uvOk (St.l { b := some l, e := er }) = true := by show uvOk l = true; unfold uvOk; simpa using hok
      have e1 : uvV { b := some l, e := er } = (Lib.uvarintDec l).1 := by unfold uvV; rw [if_pos ok]; rfl
      have e2 : uvS z { b := some l, e := er } = { b := some (l.drop (Lib.uvarintDec l).2.toNat), e := er } := by unfold uvS; rw [if_pos ok]; rfl
      rw [e1, e2]
      have hle := dec_le l
      obtain ⟨m, hm⟩ : ∃ m : Nat, (Lib.uvarintDec l).2 = (m : Int) := ⟨(Lib.uvarintDec l).2.toNat, by omega⟩
      refine (uv9_ok p g o c m _ l _ w h1 hlc hl hcell rfl hm (by omega) (by omega)).mono ?_
      rintro e w' ⟨he, o', h3, h4, h5⟩
      refine ⟨he, ⟨_, h3, .inr ⟨l.drop m, g, o', c - m, by rw [hm]; simp, by simp, by simp; omega, by simp; omega, hg, fun j hj => ?_⟩⟩, h5⟩
      have hj' : m + j < l.length := by simp at hj; omega
      have := cell_grown h5 (hcell (m + j) hj') (by omega)
      rw [h4 (by omega), Nat.add_assoc]
      simpa using this
    · have nok : ¬ uvOk (St.l { b := some l, e := er }) = true := by show ¬ uvOk l = true; unfold uvOk; simpa using hok
      have e1 : uvV { b := some l, e := er } = 0 := by unfold uvV; rw [if_neg nok]
      have e2 : uvS z { b := some l, e := er } = failS z { b := some l, e := er } := by unfold uvS; rw [if_neg nok]
      rw [e1, e2]
      exact uv9_bad p g o c _ _ l _ z w hR' (two_cells h1).1 hl hcell rfl rfl (by omega) hG

end Go.Proofs.YbulkcwmaDoor
