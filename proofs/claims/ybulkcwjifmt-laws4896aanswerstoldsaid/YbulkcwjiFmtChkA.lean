/-
  Seat b4896aF: CheckAccounts (9), its closure being function 13.
-/
import Derived.Test.YbulkcwjiFmtChk
import Derived.Deep.RegionHeld3
namespace Go.Proofs.YbulkcwjiFmt
open Go.RowKit Go.Extern.Stop Go.Stop Go.Extern

set_option maxHeartbeats 1000000 in
theorem check_13 (F : Interp) (Inv : List ByteArray → World → Prop) (ans : Nat → ByteArray → Bool) (p n lb ab : Nat) (P : Pr) (A : Ad) (wm w : World) (hF : F.answers w.tape) (hbnd : Bnd P n)
    (hM : MeetAt wm p n P A) (hStr : ∀ i, i < n → StrsAt wm (A.ra i) (P.rl i) (P.rs i) ∧ StrsAt wm (A.ba i) (P.bl i) (P.bs i)) (hbm : Below lb wm w) (hml : wm.heap.size ≤ lb) (hlw : lb ≤ w.heap.size) (hI0 : Inv [] w)
    (hIb : ∀ l x y, Inv l x → Below x.heap.size x y → Inv l y)
    (hcall : ∀ (l : List ByteArray) (a : ByteArray) (x : World), Inv l x → l.length ≤ 131072 → Below lb wm x →
      Calls Ybaf.prog 13 #[.string a, .pointer (some ⟨lb, 0, none⟩), .pointer (some ⟨lb + 1, 0, none⟩), .pointer (some ⟨ab, 0, none⟩)] x fun e y => e = .returned (.bool (ans l.length a)) ∧ Inv (l ++ [a]) y ∧ Below lb x y ∧ Keep x y) :
    Calls Ybaf.prog 9 #[.pointer (some ⟨p, 0, none⟩), .func (.func 13) #[] #[.pointer (some ⟨lb, 0, none⟩), .pointer (some ⟨lb + 1, 0, none⟩), .pointer (some ⟨ab, 0, none⟩)]] w fun e w' => ChkPost Inv ans (pre P n) lb w e w' := by
  have HM : Hid (MeetAt wm p n P A) := hM
  have HS : Hid (∀ i, i < n → StrsAt wm (A.ra i) (P.rl i) (P.rs i) ∧ StrsAt wm (A.ba i) (P.bl i) (P.bs i)) := hStr
  have HB : Hid (∀ l x y, Inv l x → Below x.heap.size x y → Inv l y) := hIb
  have HC : Hid (∀ (l : List ByteArray) (a : ByteArray) (x : World), Inv l x → l.length ≤ 131072 → Below lb wm x →
      Calls Ybaf.prog 13 #[.string a, .pointer (some ⟨lb, 0, none⟩), .pointer (some ⟨lb + 1, 0, none⟩), .pointer (some ⟨ab, 0, none⟩)] x fun e y => e = .returned (.bool (ans l.length a)) ∧ Inv (l ++ [a]) y ∧ Below lb x y ∧ Keep x y) := hcall
  have HN : Hid (Bnd P n) := hbnd
  have HF : Hid (F.answers w.tape) := hF
  have hn : n ≤ 256 := hbnd.1
  clear hM hStr hIb hcall hbnd hF
  obtain ⟨hp, ho, c, hc0, hrows⟩ := HM.out
  have hc := bcell hbm hc0 (by omega)
  have HR : Hid (n = 0 ∨ ∃ g, ho = some ⟨g, 0, none⟩ ∧ g < wm.heap.size ∧ ∀ i, i < n → OneAt wm g i P A) := hrows
  clear hrows hc0
  go_enter Ybaf.func9, Ybaf.ntmps9
  go_wp2
  go_loopw [17] (fun i wr => ∃ k : Nat, k ≤ n ∧ i = .int .i64 k ∧ Inv (pre P k) wr ∧ Yes ans (pre P k) ∧ Below lb w wr) (fun i _ => n - (intOf i).toNat)
  case atStart => exact ⟨0, Nat.zero_le _, rfl, hI0, yes_nil ans, Below.refl _ _⟩
  case round =>
    obtain ⟨k, hk, rfl, hI, hY, hb⟩ := hrel
    have HI : Hid (Inv (pre P k) wr) := hI
    have HY : Hid (Yes ans (pre P k)) := hY
    clear hI hY hI0
    have hsz := hb.size
    by_cases hlt : k < n
    · obtain ⟨g, rfl, hg, hone⟩ : ∃ g, ho = some ⟨g, 0, none⟩ ∧ g < wm.heap.size ∧ ∀ i, i < n → OneAt wm g i P A := by
        rcases HR.out with h | h
        · omega
        · exact h
      obtain ⟨q, hq, hint⟩ := (hone k hlt).below hg (hbm.trans hb) hml
      obtain ⟨c0, c1, c2, c3, c4, c5, c6, c7⟩ := one_cells hq
      clear hone hq hc HR
      rcases hint with ⟨him, rfl⟩ | ⟨him, b, rfl, hbl, hcb⟩
      · have HIM : Hid (P.im k = false) := him
        clear him
        go_wp2_with fail
        go_region_held3 (fun w' => w'.cell? ⟨wr.heap.size, 3, none⟩ = some (.slice (A.ra k) (P.rl k) (A.rc k)) ∧ w'.cell? ⟨wr.heap.size, 6, none⟩ = some (.pointer none)) (go_keep)
          (first | (go_at_call 15; refine (proposers_none _ _ ?_).mono ?_; (simp [*]); rintro e w' ⟨rfl, rfl⟩))
        clear c0 c1 c2 c3 c4 c5 c6 c7
        go_wp2
        obtain ⟨B2, hB2⟩ : ∃ B2, Hid (B2 = wr.heap.size + 1) := ⟨_, rfl⟩
        go_loopw [30] (fun i wt => ∃ t : Nat, t ≤ 2 ∧ i = .int .i64 t ∧ Inv (mid P k t) wt ∧ Yes ans (mid P k t) ∧ Below lb w wt ∧ ListsAt wt B2 k P A) (fun i _ => 2 - (intOf i).toNat)
        case atStart =>
          refine ⟨0, by omega, rfl, ?_, ?_, ?_, ?_⟩
          · rw [mid_zero]; exact HB.out _ _ _ HI.out (((Below.refl _ _).alloc (Nat.le_refl _) _).alloc (by simp) _).drew
          · rw [mid_zero]; exact HY.out
          · exact ((hb.alloc (by omega) _).alloc (by simp; omega) _).drew
          · unfold ListsAt; rw [lists_false HIM.out, hB2.out]; exact heap_lists _ _ _
        case round =>
          obtain ⟨t, ht, rfl, hI2, hY2, hb2, hL2⟩ := hrel
          have HI2 : Hid (Inv (mid P k t) wr) := hI2
          have HY2 : Hid (Yes ans (mid P k t)) := hY2
          have HL2 : Hid (ListsAt wr B2 k P A) := hL2
          clear hI2 hY2 hL2
          have hsz2 := hb2.size
          by_cases ht2 : t < 2
          · obtain ⟨f0, f1⟩ := lists_cells HL2.out ht2
            rw [hB2.out] at f0 f1
            have ht3 : (t : Int) < 2 := by omega
            by_cases hz : 0 < sl P k t
            · obtain ⟨g', o, hsa, hg', hs⟩ := ((strs_at (HS.out k hlt) t).pick hz)
              have hsl : sl P k t ≤ 256 := sl_le HN.out hlt
              rw [hsa] at f1
              clear hsa
              have HSS : Hid (∀ j, j < sl P k t → wm.cell? ⟨g', o + j, none⟩ = some (.string (ss P k t j))) := hs
              clear hs
              go_wp2
              go_loopw [37] (fun i wj => ∃ j : Nat, j ≤ sl P k t ∧ i = .int .i64 j ∧ Inv (st P k t j) wj ∧ Yes ans (st P k t j) ∧ Below lb w wj ∧ ListsAt wj B2 k P A ∧ wj.heap[wr.heap.size]? = some (.cells #[.string (fstr t), .slice (some ⟨g', o, none⟩) (sl P k t) (sc A P k t)] 65 (0, 0))) (fun i _ => sl P k t - (intOf i).toNat)
              case atStart =>
                refine ⟨0, by omega, rfl, ?_, ?_, ?_, ?_, heap_alloc_new _ _⟩
                · rw [← mid_st ht2]; exact HB.out _ _ _ HI2.out ((Below.refl _ _).alloc (Nat.le_refl _) _)
                · rw [← mid_st ht2]; exact HY2.out
                · exact hb2.alloc (by omega) _
                · exact Keep.of_below ((Below.refl _ _).alloc (Nat.le_refl _) _) _ _ 65 (.inr rfl) HL2.out
              case round =>
                obtain ⟨j, hj, rfl, hI3, hY3, hb3, hL3, hT3⟩ := hrel
                have HI3 : Hid (Inv (st P k t j) wr) := hI3
                have HY3 : Hid (Yes ans (st P k t j)) := hY3
                have HL3 : Hid (ListsAt wr B2 k P A) := hL3
                have HT3 := hide hT3
                have hsz3 := hb3.size
                clear hI3 hY3 hL3 hT3 f0 f1
                by_cases hj2 : j < sl P k t
                · have hs := bcell (hbm.trans hb3) (HSS.out j hj2) (by omega)
                  cases hans : ans (st P k t j).length (ss P k t j) with
                  | true =>
                    go_wp2_with (go_at_call 13; refine (HC.out _ _ _ HI3.out (st_length HN.out hlt hj) (hbm.trans hb3)).mono ?_; rintro e y ⟨rfl, hI4, hb4, hk4⟩)
                    go_roundw
                    case rel =>
                      have hI5 : Inv (st P k t (j + 1)) y := by rw [st_succ]; exact hI4
                      have hY5 : Yes ans (st P k t (j + 1)) := by rw [st_succ]; exact yes_snoc HY3.out hans
                      have hL5 := hk4 _ _ 65 (.inr rfl) HL3.out
                      have hT5 := hk4 _ _ 65 (.inr rfl) HT3.out
                      first
                        | exact ⟨j + 1, by omega, by go_num, hI5, hY5, hb3.trans hb4, hL5, hT5⟩
                        | ((repeat apply Exists.intro); exact ⟨⟨j + 1, by omega, by go_num, hI5, hY5, hb3.trans hb4, hL5, hT5⟩, rfl⟩)
                    case measure => simp [intOf]; omega
                  | false =>
                    go_wp2_with (first
                      | (go_at_call 13; refine (HC.out _ _ _ HI3.out (st_length HN.out hlt hj) (hbm.trans hb3)).mono ?_; rintro e y ⟨rfl, hI4, hb4, hk4⟩; have hfc := (cell_of_row y _ 0 _ 65 (0, 0) (hk4 _ _ 65 (.inr rfl) HT3.out)).trans rfl; have hsz4 := hb4.size)
                      | (go_at_call 16; refine (errorf_any F _ _ _ _ _ (by show F.answers y.tape; rw [hb4.tape, hb3.tape]; exact HF.out) (by simp; rfl) (by simp; rfl) (by simp; rfl)).mono ?_; rintro e y' ⟨u, x, rfl, hb5⟩))
                    go_ret
                    refine ⟨st P k t (j + 1), ?_, ?_, .inr ⟨⟨_, _, rfl⟩, ends_fail hlt hj2 HY3.out hans⟩⟩
                    · rw [st_succ]
                      exact HB.out _ _ _ (HB.out _ _ _ hI4 ((Below.refl _ _).alloc (Nat.le_refl _) _)) hb5
                    · exact ((hb3.trans hb4).alloc (by omega) _).trans (hb5.mono (by simp; omega))
                · go_wp2
                  go_roundw
                  case rel =>
                    obtain rfl : j = sl P k t := by omega
                    have hI5 : Inv (mid P k (t + 1)) wr := by rw [← st_next ht2]; exact HI3.out
                    have hY5 : Yes ans (mid P k (t + 1)) := by rw [← st_next ht2]; exact HY3.out
                    exact ⟨t + 1, by omega, by go_num, hI5, hY5, hb3, HL3.out⟩
                  case measure => simp [intOf]; omega
            · go_wp2
              refine wp_loop_rounds 1 ?_
              rw [rounds_succ]
              go_wp2
              go_roundw
              case rel =>
                have hI5 : Inv (mid P k (t + 1)) wr := by rw [← st_next ht2, show sl P k t = 0 by omega, ← mid_st ht2]; exact HI2.out
                have hY5 : Yes ans (mid P k (t + 1)) := by rw [← st_next ht2, show sl P k t = 0 by omega, ← mid_st ht2]; exact HY2.out
                exact ⟨t + 1, by omega, by go_num, HB.out _ _ _ hI5 ((Below.refl _ _).alloc (Nat.le_refl _) _), hY5, hb2.alloc (by omega) _, Keep.of_below ((Below.refl _ _).alloc (Nat.le_refl _) _) _ _ 65 (.inr rfl) HL2.out⟩
              case measure => simp [intOf]; omega
          · go_wp2
            go_roundw
            case rel =>
              obtain rfl : t = 2 := by omega
              have hI5 : Inv (pre P (k + 1)) wr := by rw [← mid_two]; exact HI2.out
              have hY5 : Yes ans (pre P (k + 1)) := by rw [← mid_two]; exact HY2.out
              exact ⟨k + 1, by omega, by go_num, hI5, hY5, hb2⟩
            case measure => simp [intOf]; omega
      · have HIM : Hid (P.im k = true) := him
        clear him
        have hnb := fun X => cell_later ((Below.refl _ wr).alloc (Nat.le_refl _) X) hcb
        go_wp2_with fail
        go_region_held3 (fun w' => w'.cell? ⟨wr.heap.size, 3, none⟩ = some (.slice (A.ra k) (P.rl k) (A.rc k)) ∧ w'.cell? ⟨wr.heap.size, 6, none⟩ = some (.pointer (some ⟨b, 0, none⟩)) ∧ w'.cell? ⟨b, 6, none⟩ = some (.slice (A.ba k) (P.bl k) (A.bc k))) (go_keep)
          (first | (go_at_call 15; refine (proposers_some _ b (.slice (A.ba k) (P.bl k) (A.bc k)) _ ?_ ?_).mono ?_; (simp [*]); (simp [*]); rintro e w' ⟨rfl, rfl⟩))
        clear hcb hnb
        clear c0 c1 c2 c3 c4 c5 c6 c7
        go_wp2
        obtain ⟨B2, hB2⟩ : ∃ B2, Hid (B2 = wr.heap.size + 1) := ⟨_, rfl⟩
        go_loopw [30] (fun i wt => ∃ t : Nat, t ≤ 2 ∧ i = .int .i64 t ∧ Inv (mid P k t) wt ∧ Yes ans (mid P k t) ∧ Below lb w wt ∧ ListsAt wt B2 k P A) (fun i _ => 2 - (intOf i).toNat)
        case atStart =>
          refine ⟨0, by omega, rfl, ?_, ?_, ?_, ?_⟩
          · rw [mid_zero]; exact HB.out _ _ _ HI.out (((Below.refl _ _).alloc (Nat.le_refl _) _).alloc (by simp) _).drew
          · rw [mid_zero]; exact HY.out
          · exact ((hb.alloc (by omega) _).alloc (by simp; omega) _).drew
          · unfold ListsAt; rw [lists_true HIM.out, hB2.out]; exact heap_lists _ _ _
        case round =>
          obtain ⟨t, ht, rfl, hI2, hY2, hb2, hL2⟩ := hrel
          have HI2 : Hid (Inv (mid P k t) wr) := hI2
          have HY2 : Hid (Yes ans (mid P k t)) := hY2
          have HL2 : Hid (ListsAt wr B2 k P A) := hL2
          clear hI2 hY2 hL2
          have hsz2 := hb2.size
          by_cases ht2 : t < 2
          · obtain ⟨f0, f1⟩ := lists_cells HL2.out ht2
            rw [hB2.out] at f0 f1
            have ht3 : (t : Int) < 2 := by omega
            by_cases hz : 0 < sl P k t
            · obtain ⟨g', o, hsa, hg', hs⟩ := ((strs_at (HS.out k hlt) t).pick hz)
              have hsl : sl P k t ≤ 256 := sl_le HN.out hlt
              rw [hsa] at f1
              clear hsa
              have HSS : Hid (∀ j, j < sl P k t → wm.cell? ⟨g', o + j, none⟩ = some (.string (ss P k t j))) := hs
              clear hs
              go_wp2
              go_loopw [37] (fun i wj => ∃ j : Nat, j ≤ sl P k t ∧ i = .int .i64 j ∧ Inv (st P k t j) wj ∧ Yes ans (st P k t j) ∧ Below lb w wj ∧ ListsAt wj B2 k P A ∧ wj.heap[wr.heap.size]? = some (.cells #[.string (fstr t), .slice (some ⟨g', o, none⟩) (sl P k t) (sc A P k t)] 65 (0, 0))) (fun i _ => sl P k t - (intOf i).toNat)
              case atStart =>
                refine ⟨0, by omega, rfl, ?_, ?_, ?_, ?_, heap_alloc_new _ _⟩
                · rw [← mid_st ht2]; exact HB.out _ _ _ HI2.out ((Below.refl _ _).alloc (Nat.le_refl _) _)
                · rw [← mid_st ht2]; exact HY2.out
                · exact hb2.alloc (by omega) _
                · exact Keep.of_below ((Below.refl _ _).alloc (Nat.le_refl _) _) _ _ 65 (.inr rfl) HL2.out
              case round =>
                obtain ⟨j, hj, rfl, hI3, hY3, hb3, hL3, hT3⟩ := hrel
                have HI3 : Hid (Inv (st P k t j) wr) := hI3
                have HY3 : Hid (Yes ans (st P k t j)) := hY3
                have HL3 : Hid (ListsAt wr B2 k P A) := hL3
                have HT3 := hide hT3
                have hsz3 := hb3.size
                clear hI3 hY3 hL3 hT3 f0 f1
                by_cases hj2 : j < sl P k t
                · have hs := bcell (hbm.trans hb3) (HSS.out j hj2) (by omega)
                  cases hans : ans (st P k t j).length (ss P k t j) with
                  | true =>
                    go_wp2_with (go_at_call 13; refine (HC.out _ _ _ HI3.out (st_length HN.out hlt hj) (hbm.trans hb3)).mono ?_; rintro e y ⟨rfl, hI4, hb4, hk4⟩)
                    go_roundw
                    case rel =>
                      have hI5 : Inv (st P k t (j + 1)) y := by rw [st_succ]; exact hI4
                      have hY5 : Yes ans (st P k t (j + 1)) := by rw [st_succ]; exact yes_snoc HY3.out hans
                      have hL5 := hk4 _ _ 65 (.inr rfl) HL3.out
                      have hT5 := hk4 _ _ 65 (.inr rfl) HT3.out
                      first
                        | exact ⟨j + 1, by omega, by go_num, hI5, hY5, hb3.trans hb4, hL5, hT5⟩
                        | ((repeat apply Exists.intro); exact ⟨⟨j + 1, by omega, by go_num, hI5, hY5, hb3.trans hb4, hL5, hT5⟩, rfl⟩)
                    case measure => simp [intOf]; omega
                  | false =>
                    go_wp2_with (first
                      | (go_at_call 13; refine (HC.out _ _ _ HI3.out (st_length HN.out hlt hj) (hbm.trans hb3)).mono ?_; rintro e y ⟨rfl, hI4, hb4, hk4⟩; have hfc := (cell_of_row y _ 0 _ 65 (0, 0) (hk4 _ _ 65 (.inr rfl) HT3.out)).trans rfl; have hsz4 := hb4.size)
                      | (go_at_call 16; refine (errorf_any F _ _ _ _ _ (by show F.answers y.tape; rw [hb4.tape, hb3.tape]; exact HF.out) (by simp; rfl) (by simp; rfl) (by simp; rfl)).mono ?_; rintro e y' ⟨u, x, rfl, hb5⟩))
                    go_ret
                    refine ⟨st P k t (j + 1), ?_, ?_, .inr ⟨⟨_, _, rfl⟩, ends_fail hlt hj2 HY3.out hans⟩⟩
                    · rw [st_succ]
                      exact HB.out _ _ _ (HB.out _ _ _ hI4 ((Below.refl _ _).alloc (Nat.le_refl _) _)) hb5
                    · exact ((hb3.trans hb4).alloc (by omega) _).trans (hb5.mono (by simp; omega))
                · go_wp2
                  go_roundw
                  case rel =>
                    obtain rfl : j = sl P k t := by omega
                    have hI5 : Inv (mid P k (t + 1)) wr := by rw [← st_next ht2]; exact HI3.out
                    have hY5 : Yes ans (mid P k (t + 1)) := by rw [← st_next ht2]; exact HY3.out
                    exact ⟨t + 1, by omega, by go_num, hI5, hY5, hb3, HL3.out⟩
                  case measure => simp [intOf]; omega
            · go_wp2
              refine wp_loop_rounds 1 ?_
              rw [rounds_succ]
              go_wp2
              go_roundw
              case rel =>
                have hI5 : Inv (mid P k (t + 1)) wr := by rw [← st_next ht2, show sl P k t = 0 by omega, ← mid_st ht2]; exact HI2.out
                have hY5 : Yes ans (mid P k (t + 1)) := by rw [← st_next ht2, show sl P k t = 0 by omega, ← mid_st ht2]; exact HY2.out
                exact ⟨t + 1, by omega, by go_num, HB.out _ _ _ hI5 ((Below.refl _ _).alloc (Nat.le_refl _) _), hY5, hb2.alloc (by omega) _, Keep.of_below ((Below.refl _ _).alloc (Nat.le_refl _) _) _ _ 65 (.inr rfl) HL2.out⟩
              case measure => simp [intOf]; omega
          · go_wp2
            go_roundw
            case rel =>
              obtain rfl : t = 2 := by omega
              have hI5 : Inv (pre P (k + 1)) wr := by rw [← mid_two]; exact HI2.out
              have hY5 : Yes ans (pre P (k + 1)) := by rw [← mid_two]; exact HY2.out
              exact ⟨k + 1, by omega, by go_num, hI5, hY5, hb2⟩
            case measure => simp [intOf]; omega
    · go_wp2
      go_ret
      obtain rfl : k = n := by omega
      exact ⟨pre P k, HI.out, hb, .inl ⟨rfl, .inl ⟨rfl, rfl, HY.out⟩⟩⟩
end Go.Proofs.YbulkcwjiFmt
