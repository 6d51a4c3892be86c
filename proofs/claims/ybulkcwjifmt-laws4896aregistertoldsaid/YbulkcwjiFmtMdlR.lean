/-
  Seat b4896aF: zzs4896amodel (10), its closure being function 11.
-/
import Derived.Test.YbulkcwjiFmtMdl
namespace Go.Proofs.YbulkcwjiFmt
open Go.RowKit

set_option maxHeartbeats 1000000 in
theorem model_11 (ans : Nat → ByteArray → Bool) (ao : Option Addr) (n cap ab : Nat) (P : Pr) (A : Ad) (w : World) (hbnd : Bnd P n) (hP : PropsIn w ao n P A)
    (hcall : ∀ (j : Nat) (a : ByteArray) (x : World), Below w.heap.size w x → Calls Ybaf.prog 11 #[.int .i64 j, .string a, .pointer (some ⟨ab, 0, none⟩)] x fun e y => e = .returned (.bool (ans j a)) ∧ y = x) :
    Calls Ybaf.prog 10 #[.slice ao n cap, .func (.func 11) #[] #[.pointer (some ⟨ab, 0, none⟩)]] w fun e w' => MdlPost ans (pre P n) w.heap.size w e w' := by
  obtain ⟨i0, hi0, hz0, hz1, hz2⟩ := info_parts Ybaf.info9
  have HP : Hid (PropsIn w ao n P A) := hP
  have HC : Hid (∀ (j : Nat) (a : ByteArray) (x : World), Below w.heap.size w x → Calls Ybaf.prog 11 #[.int .i64 j, .string a, .pointer (some ⟨ab, 0, none⟩)] x fun e y => e = .returned (.bool (ans j a)) ∧ y = x) := hcall
  have HN : Hid (Bnd P n) := hbnd
  have hn : n ≤ 256 := hbnd.1
  clear hP hcall hbnd
  go_enter Ybaf.func10, Ybaf.ntmps10
  go_wp2
  go_loopw [6, 17] (fun s i wr => ∃ (k : Nat) (vo : Option Addr) (vc : Nat), k ≤ n ∧ i = .int .i64 k ∧ s = .slice vo (pre P k).length vc ∧ wr.ownsRow w.heap.size 9 1 (.slice vo (pre P k).length vc) (pre P k).length ((pre P k).map Value.string) ∧ Yes ans (pre P k) ∧ Below w.heap.size w wr) (fun _ i _ => n - (intOf i).toNat)
  case atStart => exact ⟨0, none, 0, Nat.zero_le _, rfl, rfl, World.ownsRow_nil _ _ _ _, yes_nil ans, Below.refl _ _⟩
  case round =>
    obtain ⟨k, vo, vc, hk, rfl, rfl, hown, hY, hb⟩ := hrel
    have HO := hide hown
    have HY := hide hY
    clear hown hY
    have hsz := hb.size
    by_cases hlt : k < n
    · obtain ⟨b, off, rfl, hbl, hPA⟩ := HP.out.pick hlt
      obtain ⟨h0, h1, h2⟩ := (hPA.below hb hbl) k hlt
      obtain ⟨hs1, hs2⟩ := HP.out.2 k hlt
      have hl1 := (HN.out.2 k hlt).1
      have hl2 := (HN.out.2 k hlt).2
      clear hPA
      generalize A.ra k = ra at h0 hs1
      generalize A.ba k = ba at h2 hs2
      generalize A.rc k = rc at h0
      generalize A.bc k = bc at h2
      have HS1 := hide hs1
      have HS2 := hide hs2
      clear hs1 hs2
      go_wp2
      go_loopw [6, 24] (fun s i wj => ∃ (j : Nat) (uo : Option Addr) (uc : Nat), j ≤ P.rl k ∧ i = .int .i64 j ∧ s = .slice uo (st P k 0 j).length uc ∧ wj.ownsRow w.heap.size 9 1 (.slice uo (st P k 0 j).length uc) (st P k 0 j).length ((st P k 0 j).map Value.string) ∧ Yes ans (st P k 0 j) ∧ Below w.heap.size w wj ∧ wj.heap[wr.heap.size]? = some (.cells #[.slice ra (P.rl k) rc, .bool (P.im k), .slice ba (P.bl k) bc] 40 (0, 0))) (fun _ i _ => P.rl k - (intOf i).toNat)
      case atStart => exact ⟨0, vo, vc, Nat.zero_le _, rfl, by rw [st_zero], by rw [st_zero]; exact HO.out.alloc _, by rw [st_zero]; exact HY.out, hb.alloc hsz _, heap_alloc_new _ _⟩
      case round =>
        obtain ⟨j, uo, uc, hj, rfl, rfl, hown2, hY2, hb2, hT2⟩ := hrel
        have HO2 := hide hown2
        have HY2 := hide hY2
        have HT2 := hide hT2
        clear hown2 hY2 hT2
        have hsz2 := hb2.size
        by_cases hj2 : j < P.rl k
        · obtain ⟨g, o, rfl, hg, hcs⟩ := HS1.out.pick hj2
          have hc := bcell hb2 (hcs j hj2) hg
          have hlen := st_length HN.out hlt (t := 0) (j := j) (show j ≤ sl P k 0 from hj)
          clear hcs
          cases hans : ans (st P k 0 j).length (P.rs k j) with
          | true =>
            go_wp2_with (first | (at_builtin; refine wpList_append_lies _ rfl _ _ _ rfl w.heap.size 9 i0 _ 1 16 Ybaf.underlying23 hi0 hz0 hz1 hz2 rfl (by omega) _ _ _ rfl (HO2.out.alloc _) ⟨wr.heap.size, 0, none⟩ 1 1 [.string (P.rs k j)] rfl rfl (cell_one_new _ _ _) (by simp [Value.oneCell']) (by omega) (by unfold maxLen; omega) (by omega) (by simp; omega) (wr.heap.size + 1) (by simp) ?_; intro gg cap1 w1 hown1 hgrow hat hggl; obtain ⟨hO3, hb3, hK3⟩ := want_step HO2.out hb2 (Nat.le_refl _) hown1 hgrow; clear hown1 hgrow hat) | (go_at_call 11; refine (HC.out _ _ _ hb3).mono ?_; rintro e y ⟨rfl, rfl⟩))
            go_roundw
            case rel =>
              have hO5 := hO3
              rw [show st P k 0 j ++ [P.rs k j] = st P k 0 (j + 1) from (st_succ P k 0 j).symm] at hO5
              have hY5 : Yes ans (st P k 0 (j + 1)) := by rw [st_succ]; exact yes_snoc HY2.out hans
              have hT5 := hK3 _ _ HT2.out
              have hv5 : Value.slice (some ⟨gg, 0, none⟩) ((st P k 0 j).length + 1) cap1 = .slice (some ⟨gg, 0, none⟩) (st P k 0 (j + 1)).length cap1 := by rw [st_succ]; simp
              first
                | exact ⟨j + 1, _, _, by omega, by go_num, hv5, hO5, hY5, hb3, hT5⟩
                | ((repeat apply Exists.intro); exact ⟨⟨j + 1, _, _, by omega, by go_num, hv5, hO5, hY5, hb3, hT5⟩, rfl⟩)
            case measure => simp [intOf]; omega
          | false =>
            go_wp2_with (first | (at_builtin; refine wpList_append_lies _ rfl _ _ _ rfl w.heap.size 9 i0 _ 1 16 Ybaf.underlying23 hi0 hz0 hz1 hz2 rfl (by omega) _ _ _ rfl (HO2.out.alloc _) ⟨wr.heap.size, 0, none⟩ 1 1 [.string (P.rs k j)] rfl rfl (cell_one_new _ _ _) (by simp [Value.oneCell']) (by omega) (by unfold maxLen; omega) (by omega) (by simp; omega) (wr.heap.size + 1) (by simp) ?_; intro gg cap1 w1 hown1 hgrow hat hggl; obtain ⟨hO3, hb3, hK3⟩ := want_step HO2.out hb2 (Nat.le_refl _) hown1 hgrow; clear hown1 hgrow hat) | (go_at_call 11; refine (HC.out _ _ _ hb3).mono ?_; rintro e y ⟨rfl, rfl⟩))
            go_ret2
            have hO5 := hO3
            rw [show st P k 0 j ++ [P.rs k j] = st P k 0 (j + 1) from (st_succ P k 0 j).symm] at hO5
            have hv5 : Value.slice (some ⟨gg, 0, none⟩) ((st P k 0 j).length + 1) cap1 = .slice (some ⟨gg, 0, none⟩) (st P k 0 (j + 1)).length cap1 := by rw [st_succ]; simp
            exact ⟨st P k 0 (j + 1), false, _, _, by rw [← hv5]; rfl, hO5, ends_fail hlt (show j < sl P k 0 from hj2) HY2.out hans, hb3⟩
        · obtain ⟨ht1, ht2⟩ := prop_cells HT2.out
          clear h0 h1 h2
          cases him : P.im k with
          | false =>
            rw [him] at ht1
            have HIM := hide him
            clear him
            go_wp2_with fail
            go_roundw
            case rel =>
              have e : st P k 0 j = pre P (k + 1) := by
                obtain rfl : j = sl P k 0 := by show j = P.rl k; omega
                rw [st_mid, ← st_end, show sl P k 1 = 0 by simp [sl, byl, HIM.out]]
              have hO5 := HO2.out
              have hY5 := HY2.out
              rw [e] at hO5 hY5
              exact ⟨k + 1, _, _, by omega, by go_num, by rw [e], hO5, hY5, hb2⟩
            case measure => simp [intOf]; omega
          | true =>
            rw [him] at ht1
            have HIM := hide him
            clear him
            have hsl : Hid (sl P k 1 = P.bl k) := by show sl P k 1 = P.bl k; simp [sl, byl, HIM.out]
            go_wp2_with fail
            go_loopw [6, 46] (fun s i wj => ∃ (j : Nat) (uo : Option Addr) (uc : Nat), j ≤ P.bl k ∧ i = .int .i64 j ∧ s = .slice uo (st P k 1 j).length uc ∧ wj.ownsRow w.heap.size 9 1 (.slice uo (st P k 1 j).length uc) (st P k 1 j).length ((st P k 1 j).map Value.string) ∧ Yes ans (st P k 1 j) ∧ Below w.heap.size w wj) (fun _ i _ => P.bl k - (intOf i).toNat)
            case atStart =>
              have e : st P k 0 j = st P k 1 0 := by
                obtain rfl : j = sl P k 0 := by show j = P.rl k; omega
                rw [st_mid]
              have hO5 := HO2.out
              have hY5 := HY2.out
              rw [e] at hO5 hY5
              exact ⟨0, uo, uc, Nat.zero_le _, rfl, by rw [e], hO5, hY5, hb2⟩
            case round =>
              clear HO2 HY2 HT2 hb2 hsz2 hj hj2 ht1 ht2
              obtain ⟨j, uo, uc, hj, rfl, rfl, hown2, hY2, hb2⟩ := hrel
              have HO2 := hide hown2
              have HY2 := hide hY2
              clear hown2 hY2
              have hsz2 := hb2.size
              by_cases hj2 : j < P.bl k
              · obtain ⟨g, o, rfl, hg, hcs⟩ := HS2.out.pick hj2
                have hc := bcell hb2 (hcs j hj2) hg
                have hlen := st_length HN.out hlt (t := 1) (j := j) (by rw [hsl.out]; exact hj)
                clear hcs
                cases hans : ans (st P k 1 j).length (P.bs k j) with
                | true =>
                  go_wp2_with (first | (at_builtin; refine wpList_append_lies _ rfl _ _ _ rfl w.heap.size 9 i0 _ 1 16 Ybaf.underlying23 hi0 hz0 hz1 hz2 rfl (by omega) _ _ _ rfl (HO2.out.alloc _) ⟨wr.heap.size, 0, none⟩ 1 1 [.string (P.bs k j)] rfl rfl (cell_one_new _ _ _) (by simp [Value.oneCell']) (by omega) (by unfold maxLen; omega) (by omega) (by simp; omega) (wr.heap.size + 1) (by simp) ?_; intro gg cap1 w1 hown1 hgrow hat hggl; obtain ⟨hO3, hb3, hK3⟩ := want_step HO2.out hb2 (Nat.le_refl _) hown1 hgrow; clear hown1 hgrow hat) | (go_at_call 11; refine (HC.out _ _ _ hb3).mono ?_; rintro e y ⟨rfl, rfl⟩))
                  go_roundw
                  case rel =>
                    have hO5 := hO3
                    rw [show st P k 1 j ++ [P.bs k j] = st P k 1 (j + 1) from (st_succ P k 1 j).symm] at hO5
                    have hY5 : Yes ans (st P k 1 (j + 1)) := by rw [st_succ]; exact yes_snoc HY2.out hans
                    have hv5 : Value.slice (some ⟨gg, 0, none⟩) ((st P k 1 j).length + 1) cap1 = .slice (some ⟨gg, 0, none⟩) (st P k 1 (j + 1)).length cap1 := by rw [st_succ]; simp
                    first
                      | exact ⟨j + 1, _, _, by omega, by go_num, hv5, hO5, hY5, hb3⟩
                      | ((repeat apply Exists.intro); exact ⟨⟨j + 1, _, _, by omega, by go_num, hv5, hO5, hY5, hb3⟩, rfl⟩)
                  case measure => simp [intOf]; omega
                | false =>
                  go_wp2_with (first | (at_builtin; refine wpList_append_lies _ rfl _ _ _ rfl w.heap.size 9 i0 _ 1 16 Ybaf.underlying23 hi0 hz0 hz1 hz2 rfl (by omega) _ _ _ rfl (HO2.out.alloc _) ⟨wr.heap.size, 0, none⟩ 1 1 [.string (P.bs k j)] rfl rfl (cell_one_new _ _ _) (by simp [Value.oneCell']) (by omega) (by unfold maxLen; omega) (by omega) (by simp; omega) (wr.heap.size + 1) (by simp) ?_; intro gg cap1 w1 hown1 hgrow hat hggl; obtain ⟨hO3, hb3, hK3⟩ := want_step HO2.out hb2 (Nat.le_refl _) hown1 hgrow; clear hown1 hgrow hat) | (go_at_call 11; refine (HC.out _ _ _ hb3).mono ?_; rintro e y ⟨rfl, rfl⟩))
                  go_ret2
                  have hO5 := hO3
                  rw [show st P k 1 j ++ [P.bs k j] = st P k 1 (j + 1) from (st_succ P k 1 j).symm] at hO5
                  have hv5 : Value.slice (some ⟨gg, 0, none⟩) ((st P k 1 j).length + 1) cap1 = .slice (some ⟨gg, 0, none⟩) (st P k 1 (j + 1)).length cap1 := by rw [st_succ]; simp
                  exact ⟨st P k 1 (j + 1), false, _, _, by rw [← hv5]; rfl, hO5, ends_fail hlt (by rw [hsl.out]; exact hj2) HY2.out hans, hb3⟩
              · go_wp2
                go_roundw
                case rel =>
                  have e : st P k 1 j = pre P (k + 1) := by
                    obtain rfl : j = sl P k 1 := by rw [hsl.out]; omega
                    rw [st_end]
                  have hO5 := HO2.out
                  have hY5 := HY2.out
                  rw [e] at hO5 hY5
                  exact ⟨k + 1, _, _, by omega, by go_num, by rw [e], hO5, hY5, hb2⟩
                case measure => simp [intOf]; omega
    · go_wp2
      go_ret2
      obtain rfl : k = n := by omega
      exact ⟨pre P k, true, vo, vc, rfl, HO.out, .inl ⟨rfl, rfl, HY.out⟩, hb⟩
end Go.Proofs.YbulkcwjiFmt
