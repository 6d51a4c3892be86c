/-
  Seat b4901aD: length (11), byte (16), flag (13).
-/
import Derived.Test.YbulkcwmaDoorRd
namespace Go.Proofs.YbulkcwmaDoor
open Go.RowKit

theorem hide {p : Prop} (h : p) : Hid p := h

/-- The reader's slice cell. -/
theorem RdAt.slice {T : TypeId} {w : World} {p : Nat} {s : St} (h : RdAt T w p s) : ∃ ao c, w.cell? ⟨p, 0, none⟩ = some (.slice ao s.l.length c) ∧ s.l.length ≤ 100000 := by
  obtain ⟨b, er⟩ := s
  obtain ⟨bv, h1, h2⟩ := h
  rcases h2 with ⟨rfl, rfl⟩ | ⟨l, g, o, c, rfl, rfl, hlc, hl, hg, hcell⟩
  · exact ⟨none, 0, (two_cells h1).1, by simp [St.l]⟩
  · exact ⟨some ⟨g, o, none⟩, c, (two_cells h1).1, hl⟩

set_option maxHeartbeats 400000 in
theorem length11_ok (p : Nat) (s : St) (z : TypeId × Value) (w : World) (hR : RdAt 32 w p s) (hG : w.cell? ⟨1, 0, none⟩ = some (.iface z.1 z.2)) (hok : lenOk z s = true) :
    Calls Ybad.prog 11 #[.pointer (some ⟨p, 0, none⟩)] w fun e w' => e = .returned (.int .i64 (lenV z s)) ∧ RdAt 32 w' p (lenS z s) ∧ w.grownBy w' (some p) := by
  have e1 : lenV z s = uvV s := by unfold lenV; rw [if_pos hok]
  have e2 : lenS z s = uvS z s := by unfold lenS; rw [if_pos hok]
  rw [e1, e2]
  have hle : uvV s ≤ (uvS z s).l.length := by unfold lenOk at hok; simpa using hok
  have HR := hide hR
  clear hR e1 e2 hok
  go_enter Ybad.func11, Ybad.ntmps11
  go_wp2_with (go_at_call 12; refine (uv12 p s z _ HR.out hG).mono ?_; rintro e w1 ⟨rfl, hR1, hg1⟩; obtain ⟨ao, c, hc, hl⟩ := hR1.slice; have HR1 := hide hR1; clear hR1)
  go_ret
  exact ⟨rfl, HR1.out, hg1⟩

set_option maxHeartbeats 400000 in
theorem length11_bad (p : Nat) (s : St) (z : TypeId × Value) (w : World) (hp : 2 < p) (hR : RdAt 32 w p s) (hG : w.cell? ⟨1, 0, none⟩ = some (.iface z.1 z.2)) (hok : ¬ lenOk z s = true) :
    Calls Ybad.prog 11 #[.pointer (some ⟨p, 0, none⟩)] w fun e w' => e = .returned (.int .i64 (lenV z s)) ∧ RdAt 32 w' p (lenS z s) ∧ w.grownBy w' (some p) := by
  have e1 : lenV z s = 0 := by unfold lenV; rw [if_neg hok]
  have e2 : lenS z s = failS z (uvS z s) := by unfold lenS; rw [if_neg hok]
  rw [e1, e2]
  have hle : (uvS z s).l.length < uvV s := by unfold lenOk at hok; simp at hok; omega
  have HR := hide hR
  clear hR e1 e2 hok
  go_enter Ybad.func11, Ybad.ntmps11
  go_wp2_with (first
    | (go_at_call 12; refine (uv12 p s z _ HR.out hG).mono ?_; rintro e w1 ⟨rfl, hR1, hg1⟩; obtain ⟨ao, c, hc, hl⟩ := hR1.slice; have HR1 := hide hR1; clear hR1; have hG1 := cell_grown hg1 hG (by omega))
    | (go_at_call 15; refine (fail15 p (uvS z s) z _ HR1.out).mono ?_; rintro e w2 ⟨rfl, hR2, hg2⟩))
  go_ret
  exact ⟨rfl, hR2, hg1.trans hg2⟩

/-- 'length'. -/
theorem length11 (p : Nat) (s : St) (z : TypeId × Value) (w : World) (hp : 2 < p) (hR : RdAt 32 w p s) (hG : w.cell? ⟨1, 0, none⟩ = some (.iface z.1 z.2)) :
    Calls Ybad.prog 11 #[.pointer (some ⟨p, 0, none⟩)] w fun e w' => e = .returned (.int .i64 (lenV z s)) ∧ RdAt 32 w' p (lenS z s) ∧ w.grownBy w' (some p) := by
  by_cases hok : lenOk z s = true
  · exact length11_ok p s z w hR hG hok
  · exact length11_bad p s z w hp hR hG hok

/-! ### byte -/
set_option maxHeartbeats 400000 in
theorem byte16_empty (p c : Nat) (ao : Option Addr) (s : St) (z : TypeId × Value) (w : World) (hR : RdAt 32 w p s) (hc : w.cell? ⟨p, 0, none⟩ = some (.slice ao 0 c)) (hG : w.cell? ⟨1, 0, none⟩ = some (.iface z.1 z.2)) :
    Calls Ybad.prog 16 #[.pointer (some ⟨p, 0, none⟩)] w fun e w' => e = .returned (.int .u8 0) ∧ RdAt 32 w' p (failS z s) ∧ w.grownBy w' (some p) := by
  have HR := hide hR
  clear hR
  go_enter Ybad.func16, Ybad.ntmps16
  go_wp2_with (go_at_call 15; refine (fail15 p s z _ HR.out).mono ?_; rintro e w2 ⟨rfl, hR2, hg2⟩)
  go_ret
  exact ⟨rfl, hR2, hg2⟩

set_option maxHeartbeats 400000 in
theorem byte16_some (p g o c n v : Nat) (E : Value) (w : World) (h : w.heap[p]? = some (.cells #[.slice (some ⟨g, o, none⟩) (n + 1) c, E] 32 (0, 0))) (hlc : n + 1 ≤ c) (hl : n + 1 ≤ 100000)
    (hcell : w.cell? ⟨g, o, none⟩ = some (.int .u8 v)) :
    Calls Ybad.prog 16 #[.pointer (some ⟨p, 0, none⟩)] w fun e w' => e = .returned (.int .u8 v) ∧ ∃ o', w'.heap[p]? = some (.cells #[.slice (some ⟨g, o', none⟩) n (c - 1), E] 32 (0, 0)) ∧ (0 < n → o' = o + 1) ∧ w.grownBy w' (some p) := by
  obtain ⟨c0, c1, f0, f1⟩ := two_cells h
  have H := hide h
  clear h
  have hne : (((n : Int) + 1) == 0) = false := by simp; omega
  go_enter Ybad.func16, Ybad.ntmps16
  go_wp2
  all_goals go_ret
  · exact ⟨rfl, o, two_set0 H.out _, fun hh => absurd hh (by omega), grown_set _ p 0 _⟩
  · exact ⟨rfl, o + 1, two_set0 H.out _, fun _ => rfl, grown_set _ p 0 _⟩

theorem byV_lt (s : St) : byV s ≤ 255 := by
  unfold byV
  split
  · omega
  · rename_i c _ _
    have := c.toNat_lt
    omega

/-- 'byte'. -/
theorem byte16 (p : Nat) (s : St) (z : TypeId × Value) (w : World) (hR : RdAt 32 w p s) (hG : w.cell? ⟨1, 0, none⟩ = some (.iface z.1 z.2)) :
    Calls Ybad.prog 16 #[.pointer (some ⟨p, 0, none⟩)] w fun e w' => e = .returned (.int .u8 (byV s)) ∧ RdAt 32 w' p (byS z s) ∧ w.grownBy w' (some p) := by
  have hR' := hR
  obtain ⟨b, er⟩ := s
  obtain ⟨bv, h1, h2⟩ := hR
  rcases h2 with ⟨rfl, rfl⟩ | ⟨l, g, o, c, rfl, rfl, hlc, hl, hg, hcell⟩
  · exact byte16_empty p 0 none _ z w hR' (two_cells h1).1 hG
  · cases l with
    | nil => exact byte16_empty p c _ _ z w hR' (two_cells h1).1 hG
    | cons d r =>
      refine (byte16_some p g o c r.length d.toNat _ w h1 hlc hl (by exact hcell 0 (Nat.zero_lt_succ _))).mono ?_
      rintro e w' ⟨he, o', h3, h4, h5⟩
      refine ⟨he, ⟨_, h3, .inr ⟨r, g, o', c - 1, rfl, rfl, by simp at hlc; omega, by simp at hl; omega, hg, fun j hj => ?_⟩⟩, h5⟩
      have := cell_grown h5 (hcell (j + 1) (by simpa using hj)) (by omega)
      rw [h4 (by omega), Nat.add_assoc, Nat.add_comm 1 j]
      simpa using this

/-! ### flag -/
set_option maxHeartbeats 400000 in
theorem flag13 (p : Nat) (s : St) (z y : TypeId × Value) (w : World) (hp : 2 < p) (hR : RdAt 32 w p s) (hG : w.cell? ⟨1, 0, none⟩ = some (.iface z.1 z.2)) (hG2 : w.cell? ⟨2, 0, none⟩ = some (.iface y.1 y.2)) :
    Calls Ybad.prog 13 #[.pointer (some ⟨p, 0, none⟩)] w fun e w' => e = .returned (.bool (flV s)) ∧ RdAt 32 w' p (flS z y s) ∧ w.grownBy w' (some p) := by
  have HR := hide hR
  have hlt := byV_lt s
  clear hR
  by_cases h0 : byV s = 0
  · have e1 : flV s = false := by unfold flV; rw [h0]; decide
    have e2 : flS z y s = byS z s := by unfold flS; rw [if_pos (by omega)]
    rw [e1, e2]
    have h0' : ((byV s : Int) == 0) = true := by rw [h0]; rfl
    have H0 := hide h0
    clear e1 e2 h0
    go_enter Ybad.func13, Ybad.ntmps13
    go_wp2_with (go_at_call 16; refine (byte16 p s z _ HR.out hG).mono ?_; rintro e w1 ⟨rfl, hR1, hg1⟩)
    go_ret
    exact ⟨rfl, hR1, hg1⟩
  · by_cases h1 : byV s = 1
    · have e1 : flV s = true := by unfold flV; rw [h1]; decide
      have e2 : flS z y s = byS z s := by unfold flS; rw [if_pos (by omega)]
      rw [e1, e2]
      have h0' : ((byV s : Int) == 0) = false := by rw [h1]; rfl
      have h1' : ((byV s : Int) == 1) = true := by rw [h1]; rfl
      clear e1 e2 h0 h1
      go_enter Ybad.func13, Ybad.ntmps13
      go_wp2_with (go_at_call 16; refine (byte16 p s z _ HR.out hG).mono ?_; rintro e w1 ⟨rfl, hR1, hg1⟩)
      go_ret
      exact ⟨rfl, hR1, hg1⟩
    · have e1 : flV s = false := by unfold flV; simpa using h1
      have e2 : flS z y s = failS y (byS z s) := by unfold flS; rw [if_neg (by omega)]
      rw [e1, e2]
      have h0' : ((byV s : Int) == 0) = false := by simp; omega
      have h1' : ((byV s : Int) == 1) = false := by simp; omega
      clear e1 e2 h0 h1
      go_enter Ybad.func13, Ybad.ntmps13
      go_wp2_with (first
        | (go_at_call 16; refine (byte16 p s z _ HR.out hG).mono ?_; rintro e w1 ⟨rfl, hR1, hg1⟩; have HR1 := hide hR1; clear hR1; have hG21 := cell_grown hg1 hG2 (by omega))
        | (go_at_call 15; refine (fail15 p (byS z s) y _ HR1.out).mono ?_; rintro e w2 ⟨rfl, hR2, hg2⟩))
      go_ret
      exact ⟨rfl, hR2, hg1.trans hg2⟩
end Go.Proofs.YbulkcwmaDoor
