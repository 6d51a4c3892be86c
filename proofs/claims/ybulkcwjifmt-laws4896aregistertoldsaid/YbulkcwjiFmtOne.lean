/-
  Seat b4896aF: what came in, in memory; zzs4896atoobig (5), zzs4896ain (8), zzs4896aeq (12), Proposers (15).
-/
import Derived.Test.YbulkcwjiFmtErr
import Derived.Test.YbulkcwjiFmtPlain
import Derived.Deep.QuietTactic
import Derived.BigQuiet
namespace Go.Proofs.YbulkcwjiFmt
open Go.RowKit

theorem bcell {W w1 : World} {B : Nat} (hb : Below B W w1) {b o : Nat} {v : Value} (h : W.cell? ⟨b, o, none⟩ = some v) (hB : b < B) : w1.cell? ⟨b, o, none⟩ = some v :=
  (hb.cell (p := ⟨b, o, none⟩) hB).trans h

/-- Where the lists of the proposals lie. -/
structure Ad where
  ra : Nat → Option Addr
  rc : Nat → Nat
  ba : Nat → Option Addr
  bc : Nat → Nat

/-- n strings from ao on. -/
def StrsAt (w : World) (ao : Option Addr) (n : Nat) (f : Nat → ByteArray) : Prop :=
  n = 0 ∨ ∃ g o, ao = some ⟨g, o, none⟩ ∧ g < w.heap.size ∧ ∀ j, j < n → w.cell? ⟨g, o + j, none⟩ = some (.string (f j))

theorem StrsAt.below {w w' : World} {ao : Option Addr} {n : Nat} {f : Nat → ByteArray} (h : StrsAt w ao n f) {B : Nat} (hb : Below B w w') (hB : w.heap.size ≤ B) : StrsAt w' ao n f := by
  rcases h with h | ⟨g, o, h1, h2, h3⟩
  · exact .inl h
  · exact .inr ⟨g, o, h1, Nat.lt_of_lt_of_le h2 hb.size, fun j hj => bcell hb (h3 j hj) (by omega)⟩

theorem StrsAt.pick {w : World} {ao : Option Addr} {n j : Nat} {f : Nat → ByteArray} (h : StrsAt w ao n f) (hj : j < n) : ∃ g o, ao = some ⟨g, o, none⟩ ∧ g < w.heap.size ∧ ∀ j, j < n → w.cell? ⟨g, o + j, none⟩ = some (.string (f j)) := by
  rcases h with h | h
  · omega
  · exact h

/-- The proposals' own cells, in block b from off on. -/
def PAt (w : World) (b off n : Nat) (P : Pr) (A : Ad) : Prop :=
  ∀ i, i < n → w.cell? ⟨b, off + i * 3, none⟩ = some (.slice (A.ra i) (P.rl i) (A.rc i)) ∧ w.cell? ⟨b, off + i * 3 + 1, none⟩ = some (.bool (P.im i)) ∧ w.cell? ⟨b, off + i * 3 + 2, none⟩ = some (.slice (A.ba i) (P.bl i) (A.bc i))

/-- All that came in, in the world in which the call begins. -/
def PropsIn (w : World) (ao : Option Addr) (n : Nat) (P : Pr) (A : Ad) : Prop :=
  (n = 0 ∨ ∃ b off, ao = some ⟨b, off, none⟩ ∧ b < w.heap.size ∧ PAt w b off n P A) ∧ ∀ i, i < n → StrsAt w (A.ra i) (P.rl i) (P.rs i) ∧ StrsAt w (A.ba i) (P.bl i) (P.bs i)

theorem PAt.below {w w' : World} {b off n : Nat} {P : Pr} {A : Ad} (h : PAt w b off n P A) {B : Nat} (hb : Below B w w') (hB : b < B) : PAt w' b off n P A := fun i hi =>
  ⟨bcell hb (h i hi).1 hB, bcell hb (h i hi).2.1 hB, bcell hb (h i hi).2.2 hB⟩

theorem PropsIn.below {w w' : World} {ao : Option Addr} {n : Nat} {P : Pr} {A : Ad} (h : PropsIn w ao n P A) {B : Nat} (hb : Below B w w') (hB : w.heap.size ≤ B) : PropsIn w' ao n P A := by
  obtain ⟨h1, h2⟩ := h
  refine ⟨?_, fun i hi => ⟨(h2 i hi).1.below hb hB, (h2 i hi).2.below hb hB⟩⟩
  rcases h1 with h1 | ⟨b, off, e, hlt, hp⟩
  · exact .inl h1
  · exact .inr ⟨b, off, e, Nat.lt_of_lt_of_le hlt hb.size, hp.below hb (by omega)⟩

theorem PropsIn.pick {w : World} {ao : Option Addr} {n i : Nat} {P : Pr} {A : Ad} (h : PropsIn w ao n P A) (hi : i < n) : ∃ b off, ao = some ⟨b, off, none⟩ ∧ b < w.heap.size ∧ PAt w b off n P A := by
  rcases h.1 with h | h
  · omega
  · exact h

/-! ### zzs4896atoobig -/
theorem all_snoc {P : Pr} {k : Nat} (h : ∀ i, i < k → P.rl i ≤ 256 ∧ P.bl i ≤ 256) (h1 : P.rl k ≤ 256) (h2 : P.bl k ≤ 256) : ∀ i, i < k + 1 → P.rl i ≤ 256 ∧ P.bl i ≤ 256 := by
  intro i hi
  by_cases e : i < k
  · exact h i e
  · obtain rfl : i = k := by omega
    exact ⟨h1, h2⟩
theorem ret_bool {a b : Bool} (h : b = a) : Ending.returned (.bool a) = .returned (.bool b) := by rw [h]

set_option maxHeartbeats 400000 in
theorem toobig_any (ao : Option Addr) (n cap : Nat) (P : Pr) (A : Ad) (w : World) (hP : PropsIn w ao n P A) :
    Calls Ybaf.prog 5 #[.slice ao n cap] w fun e w' => (e = .returned (.bool true) ∨ (e = .returned (.bool false) ∧ Bnd P n)) ∧ Below w.heap.size w w' := by
  have HP : Hid (PropsIn w ao n P A) := hP
  clear hP
  by_cases hn : n ≤ 256
  · go_enter Ybaf.func5, Ybaf.ntmps5
    go_wp2
    go_loopw [10] (fun i wr => ∃ k : Nat, k ≤ n ∧ i = .int .i64 k ∧ (∀ i, i < k → P.rl i ≤ 256 ∧ P.bl i ≤ 256) ∧ Below w.heap.size w wr) (fun i _ => n - (intOf i).toNat)
    case atStart => exact ⟨0, Nat.zero_le _, rfl, fun i hi => absurd hi (Nat.not_lt_zero _), Below.refl _ _⟩
    case round =>
      obtain ⟨k, hk, rfl, hall, hb⟩ := hrel
      have HA : Hid (∀ i, i < k → P.rl i ≤ 256 ∧ P.bl i ≤ 256) := hall
      clear hall
      have hsz := hb.size
      by_cases hlt : k < n
      · obtain ⟨b, off, rfl, hbl, hPA⟩ := HP.out.pick hlt
        obtain ⟨h0, h1, h2⟩ := (hPA.below hb hbl) k hlt
        clear hPA
        go_wp2
        · go_ret
          exact ⟨.inl rfl, hb.alloc hsz _⟩
        · go_roundw
          case rel => exact ⟨k + 1, by omega, by go_num, all_snoc HA.out (by omega) (by omega), hb.alloc hsz _⟩
          case measure => simp [intOf]; omega
        · go_ret
          exact ⟨.inl rfl, hb.alloc hsz _⟩
      · go_wp2
        go_ret
        obtain rfl : k = n := by omega
        exact ⟨.inr ⟨rfl, hn, HA.out⟩, hb⟩
  · go_enter Ybaf.func5, Ybaf.ntmps5
    go_wp2
    go_ret
    exact ⟨.inl rfl, Below.refl _ _⟩

/-! ### zzs4896ain -/
/-- Is a among the first k? -/
def among (f : Nat → ByteArray) (a : ByteArray) : Nat → Bool
  | 0 => false
  | k + 1 => among f a k || (f k).toList == a.toList

theorem among_no {f : Nat → ByteArray} {a : ByteArray} {k : Nat} (h : among f a k = false) (h1 : ((f k).toList == a.toList) = false) : among f a (k + 1) = false := by
  unfold among; rw [h, h1]; rfl
theorem among_yes {f : Nat → ByteArray} {a : ByteArray} {k : Nat} (h1 : ((f k).toList == a.toList) = true) : ∀ {n : Nat}, k < n → among f a n = true
  | 0, h => absurd h (Nat.not_lt_zero _)
  | n + 1, h => by
    unfold among
    by_cases e : k < n
    · rw [among_yes h1 e]; rfl
    · obtain rfl : k = n := by omega
      rw [h1]; simp

set_option maxHeartbeats 400000 in
theorem in_any (ao : Option Addr) (n cap : Nat) (f : Nat → ByteArray) (a : ByteArray) (w : World) (hn : n ≤ 256) (hS : StrsAt w ao n f) :
    Calls Ybaf.prog 8 #[.slice ao n cap, .string a] w fun e w' => e = .returned (.bool (among f a n)) ∧ w' = w := by
  have HS : Hid (StrsAt w ao n f) := hS
  clear hS
  go_enter Ybaf.func8, Ybaf.ntmps8
  go_wp2
  go_loop [9] (fun i => ∃ k : Nat, k ≤ n ∧ i = .int .i64 k ∧ among f a k = false) (fun i => n - (intOf i).toNat)
  case atStart => exact ⟨0, Nat.zero_le _, rfl, rfl⟩
  case round =>
    obtain ⟨k, hk, rfl, hno⟩ := hrel
    have HA : Hid (among f a k = false) := hno
    clear hno
    by_cases hlt : k < n
    · obtain ⟨g, o, rfl, hg, hc⟩ := HS.out.pick hlt
      have hck := hc k hlt
      clear hc
      go_wp2
      · go_ret
        exact ⟨ret_bool (among_yes ‹_› hlt), rfl⟩
      · go_round
        case rel => exact ⟨k + 1, by omega, by go_num, among_no HA.out ‹_›⟩
        case measure => simp [intOf]; omega
    · go_wp2
      go_ret
      obtain rfl : k = n := by omega
      exact ⟨ret_bool HA.out, rfl⟩

/-! ### zzs4896aeq -/
set_option maxHeartbeats 400000 in
theorem eq_any (ao ao' : Option Addr) (n c c' : Nat) (f : Nat → ByteArray) (w : World) (hn : n ≤ 131072) (hS : StrsAt w ao n f) (hS' : StrsAt w ao' n f) :
    Calls Ybaf.prog 12 #[.slice ao n c, .slice ao' n c'] w fun e w' => e = .returned (.bool true) ∧ Below w.heap.size w w' := by
  have HS : Hid (StrsAt w ao n f) := hS
  have HS' : Hid (StrsAt w ao' n f) := hS'
  clear hS hS'
  go_enter Ybaf.func12, Ybaf.ntmps12
  go_wp2
  go_loopw [13] (fun i wr => ∃ k : Nat, k ≤ n ∧ i = .int .i64 k ∧ ∃ m, wr = w.drewN m) (fun i _ => n - (intOf i).toNat)
  case atStart => exact ⟨0, Nat.zero_le _, rfl, 0, rfl⟩
  case round =>
    obtain ⟨k, hk, rfl, m, rfl⟩ := hrel
    by_cases hlt : k < n
    · obtain ⟨g, o, rfl, _, h1⟩ := HS.out.pick hlt
      obtain ⟨g', o', rfl, _, h2⟩ := HS'.out.pick hlt
      have a1 := h1 k hlt
      have a2 := h2 k hlt
      have hi0 : (0 : Int) ≤ (k : Int) := Int.natCast_nonneg _
      have hi1 : (k : Int) < (n : Int) := by omega
      clear h1 h2
      go_wp2_with fail
      go_quiet (fail)
      go_wp2
      go_roundw
      case rel => exact ⟨k + 1, by omega, by go_num, m + nq, by simp⟩
      case measure => simp [intOf]; omega
    · go_wp2
      go_ret
      exact ⟨rfl, below_drewN (Below.refl _ _) _⟩

/-! ### Proposers -/
set_option maxHeartbeats 400000 in
theorem proposers_none (p : Nat) (w : World) (h : w.cell? ⟨p, 6, none⟩ = some (.pointer none)) :
    Calls Ybaf.prog 15 #[.pointer (some ⟨p, 0, none⟩)] w fun e w' => e = .returned (.slice none 0 0) ∧ w' = w := by
  go_enter Ybaf.func15, Ybaf.ntmps15
  go_wp2
  go_ret
  exact ⟨rfl, rfl⟩
set_option maxHeartbeats 400000 in
theorem proposers_some (p q : Nat) (v : Value) (w : World) (h : w.cell? ⟨p, 6, none⟩ = some (.pointer (some ⟨q, 0, none⟩))) (hv : w.cell? ⟨q, 6, none⟩ = some v) :
    Calls Ybaf.prog 15 #[.pointer (some ⟨p, 0, none⟩)] w fun e w' => e = .returned v ∧ w' = w := by
  go_enter Ybaf.func15, Ybaf.ntmps15
  go_wp2
  go_ret
  exact ⟨rfl, rfl⟩
end Go.Proofs.YbulkcwjiFmt
