/-
  Seat b4901aD: LawS4901CRoundTrip (3): the walk.
-/
import Derived.Test.YbulkcwmaDoorBytes
import Derived.Deep.QuietTactic
import Derived.BigQuiet
namespace Go.Proofs.YbulkcwmaDoor
open Go.RowKit

theorem Ybad.info5 : (Ybad.prog.info? 5).map (fun i => (i.zero, i.size, i.bytes)) = some (some (.int .u8 0), 1, 1) := by kernel_rfl

/-- The marks' own cells, in block b from off on. -/
def MAt (w : World) (b off n : Nat) (M : Nat → Mk) : Prop :=
  ∀ i, i < n → w.cell? ⟨b, off + i * 4, none⟩ = some (.int .u64 (M i).peer) ∧ w.cell? ⟨b, off + i * 4 + 1, none⟩ = some (.int .u64 (M i).inc) ∧ w.cell? ⟨b, off + i * 4 + 2, none⟩ = some (.int .u64 (M i).seq) ∧ w.cell? ⟨b, off + i * 4 + 3, none⟩ = some (.bool (M i).kept)
def MsIn (w : World) (ao : Option Addr) (n : Nat) (M : Nat → Mk) : Prop :=
  (n = 0 ∨ ∃ b off, ao = some ⟨b, off, none⟩ ∧ b < w.heap.size ∧ MAt w b off n M) ∧ ∀ i, i < n → MkOk (M i)
theorem bcell {W w1 : World} {B : Nat} (hb : Below B W w1) {b o : Nat} {v : Value} (h : W.cell? ⟨b, o, none⟩ = some v) (hB : b < B) : w1.cell? ⟨b, o, none⟩ = some v :=
  (hb.cell (p := ⟨b, o, none⟩) hB).trans h
theorem MAt.below {w w' : World} {b off n : Nat} {M : Nat → Mk} (h : MAt w b off n M) {B : Nat} (hb : Below B w w') (hB : b < B) : MAt w' b off n M := fun i hi =>
  ⟨bcell hb (h i hi).1 hB, bcell hb (h i hi).2.1 hB, bcell hb (h i hi).2.2.1 hB, bcell hb (h i hi).2.2.2 hB⟩
theorem MsIn.pick {w : World} {ao : Option Addr} {n i : Nat} {M : Nat → Mk} (h : MsIn w ao n M) (hi : i < n) : ∃ b off, ao = some ⟨b, off, none⟩ ∧ b < w.heap.size ∧ MAt w b off n M := by
  rcases h.1 with h | h
  · omega
  · exact h

/-- The bytes ahead of the k-th mark. -/
def buf (n : Nat) (M : Nat → Mk) (k : Nat) : List UInt8 := Lib.uvarint n ++ encs M k
theorem buf_length {n : Nat} {M : Nat → Mk} {k : Nat} (hn : n ≤ 1024) (hk : k ≤ n) (h : ∀ i, i < n → MkOk (M i)) : (buf n M k).length ≤ 40000 := by
  have h1 := Lib.uvarint_length64 (x := n) (by omega)
  have h2 := encs_length_le k (fun i hi => h i (by omega))
  simp [buf]
  omega

theorem buf_step {B n k : Nat} {M : Nat → Mk} {x : World} {v : Value} {b : Bool} (hb : (M k).kept = b) {xs : List Value} {m : Nat}
    (h : x.ownsRow B 5 1 v m xs) (hm : m = (buf n M k ++ Lib.uvarint (M k).peer ++ Lib.uvarint (M k).inc ++ Lib.uvarint (M k).seq).length + 1 := by rfl)
    (hxs : xs = Lib.byteCells (buf n M k ++ Lib.uvarint (M k).peer ++ Lib.uvarint (M k).inc ++ Lib.uvarint (M k).seq) ++ [.int .u8 (if b = true then 1 else 0)] := by rfl) : OwnB B x v (buf n M (k + 1)) := by
  have e : buf n M (k + 1) = (buf n M k ++ Lib.uvarint (M k).peer ++ Lib.uvarint (M k).inc ++ Lib.uvarint (M k).seq) ++ [if b = true then 1 else 0] := by
    simp [buf, encs, encM, hb]
  unfold OwnB
  rw [e, bc_append, List.length_append]
  subst hm hxs
  cases b <;> exact h

/-- The reader over the whole buffer. -/
theorem rd_start {B g c : Nat} {x : World} {L : List UInt8} (hlt : g < x.heap.size) (hc : L.length ≤ c) (hl : L.length ≤ 100000) (hcell : ∀ j (hj : j < L.length), x.cell? ⟨g, 0 + j, none⟩ = some (.int .u8 (L[j]).toNat)) (_ : B ≤ g) :
    RdAt 32 (x.alloc (.cells #[.slice (some ⟨g, 0, none⟩) L.length c, .nilIface] 32)) x.heap.size { b := some L, e := none } := by
  refine ⟨_, heap_alloc_new _ _, .inr ⟨L, g, 0, c, rfl, rfl, hc, hl, hlt, fun j hj => ?_⟩⟩
  have := hcell j hj
  exact (((Below.refl x.heap.size x).alloc (Nat.le_refl _) _).cell (p := ⟨g, 0 + j, none⟩) hlt).trans this

theorem BysAt.news {w wr : World} {ad : Addr} {l : List UInt8} (h : BysAt w (some ad) l) (hb : Below w.heap.size w wr) : ∀ j u, (Lib.byteCells l)[j]? = some u → wr.cell? (ad.add j) = some u := by
  intro j u hj
  rcases h with rfl | ⟨g, o, e, h2, h3⟩
  · simp [Lib.byteCells] at hj
  · simp at e
    subst e
    have hlt : j < l.length := by
      have := (List.getElem?_eq_some_iff.1 hj).1
      rwa [bc_length] at this
    rw [bc_at hlt] at hj
    rw [add_none, ← hj]
    exact bcell hb (h3 j hlt) h2
theorem bc_one (l : List UInt8) : ∀ u ∈ Lib.byteCells l, u.oneCell' = true := by
  intro u hu
  simp only [Lib.byteCells, List.mem_map] at hu
  obtain ⟨b, _, rfl⟩ := hu
  rfl

theorem own_join {B : Nat} {x : World} {v : Value} {a b : List UInt8} (h : x.ownsRow B 5 1 v (a.length + b.length) (Lib.byteCells a ++ Lib.byteCells b)) : OwnB B x v (a ++ b) := by
  unfold OwnB
  rw [bc_append, List.length_append]
  exact h

theorem start_zero {v : TypeId × Value} {M : Nat → Mk} {t : List UInt8} : lenV v { b := some (buf 0 M 0 ++ t), e := none } = 0 ∧ lenS v { b := some (buf 0 M 0 ++ t), e := none } = { b := some t, e := none } := by
  have := len_enc (v := v) (M := M) (t := t) (e := none) (n := 0) (by omega)
  simpa [buf, encs] using this
theorem start_some {v r : TypeId × Value} {M : Nat → Mk} {t : List UInt8} {n : Nat} (hn : n ≤ 1024) (h : ∀ i, i < n → MkOk (M i)) :
    lenV v { b := some (buf n M n ++ t), e := none } = n ∧ mksS v r (lenS v { b := some (buf n M n ++ t), e := none }) n = { b := some t, e := none } ∧ ∀ i, i < n → mksV v r (lenS v { b := some (buf n M n ++ t), e := none }) i = M i := by
  have := len_enc (v := v) (M := M) (t := t) (e := none) (n := n) hn
  rw [show buf n M n ++ t = Lib.uvarint n ++ (encs M n ++ t) by simp [buf]]
  refine ⟨this.1, ?_, fun i hi => ?_⟩
  · rw [this.2, mks_enc n h n (Nat.le_refl _)]
    simp [encFrom]
  · rw [this.2]
    exact mksV_enc h hi
theorem MksAt.congr {w : World} {g n k : Nat} {M M' : Nat → Mk} (h : MksAt w g n k M) (e : ∀ i, i < k → M i = M' i) : MksAt w g n k M' := by
  obtain ⟨cur, h1, h2, h3⟩ := h
  exact ⟨cur, h1, h2, fun i hi => by rw [← e i hi]; exact h3 i hi⟩
theorem MksAt.cells {w : World} {g n k i : Nat} {M : Nat → Mk} (h : MksAt w g n k M) (hi : i < k) :
    w.cell? ⟨g, i * 4, none⟩ = some (.int .u64 (M i).peer) ∧ w.cell? ⟨g, i * 4 + 1, none⟩ = some (.int .u64 (M i).inc) ∧ w.cell? ⟨g, i * 4 + 2, none⟩ = some (.int .u64 (M i).seq) ∧ w.cell? ⟨g, i * 4 + 3, none⟩ = some (.bool (M i).kept) := by
  obtain ⟨cur, h1, _, h3⟩ := h
  have c := fun j => cell_of_row w g j cur 38 (0, 0) h1
  obtain ⟨e0, e1, e2, e3⟩ := h3 i hi
  exact ⟨(c _).trans e0, (c _).trans e1, (c _).trans e2, (c _).trans e3⟩
theorem MksAt.lt {w : World} {g n k : Nat} {M : Nat → Mk} (h : MksAt w g n k M) : g < w.heap.size := by
  obtain ⟨cur, h1, _⟩ := h
  exact (Array.getElem?_eq_some_iff.1 h1).1
/-- The reader behind all: the tail is left, no error is held. -/
theorem RdAt.left {w : World} {p : Nat} {t : List UInt8} (h : RdAt 32 w p { b := some t, e := none }) : ∃ ao c, w.cell? ⟨p, 0, none⟩ = some (.slice ao t.length c) ∧ w.cell? ⟨p, 1, none⟩ = some .nilIface ∧ BysAt w ao t := by
  have hl := h.lt
  obtain ⟨bv, h1, h2⟩ := h
  rcases h2 with ⟨h, _⟩ | ⟨l, g, o, c, e, rfl, _, _, hg, hcell⟩
  · simp at h
  · simp at e
    subst e
    exact ⟨_, c, (two_cells h1).1, (two_cells h1).2.1, .inr ⟨g, o, rfl, by omega, hcell⟩⟩
theorem below_of_grown {W x y : World} {p : Nat} (hb : Below W.heap.size W x) (hg : x.grownBy y (some p)) (hp : W.heap.size ≤ p) : Below W.heap.size W y :=
  hb.grown hg hb.size (fun k hk => by simp at hk; omega)

set_option maxHeartbeats 400000 in
theorem trip_big (ao ta : Option Addr) (n cap tn tc : Nat) (w : World) (h : 1024 < n ∨ 1024 < tn) :
    Calls Ybad.prog 3 #[.slice ao n cap, .slice ta tn tc] w fun e w' => e = .returned (.bool true) ∧ Below w.heap.size w w' := by
  by_cases h1 : 1024 < n
  · clear h
    go_enter Ybad.func3, Ybad.ntmps3
    go_wp2
    go_ret
    exact ⟨rfl, Below.refl _ _⟩
  · have h2 : 1024 < tn := by omega
    clear h
    go_enter Ybad.func3, Ybad.ntmps3
    go_wp2
    go_ret
    exact ⟨rfl, Below.refl _ _⟩

set_option maxRecDepth 100000 in
set_option maxHeartbeats 2000000 in
theorem trip_small (ao ta : Option Addr) (n cap tc : Nat) (M : Nat → Mk) (t : List UInt8) (z y : TypeId × Value) (w : World) (hn : n ≤ 1024) (ht : t.length ≤ 1024) (hM : MsIn w ao n M) (hT : BysAt w ta t) (hTn : ta = none → tc = 0)
    (hG : w.cell? ⟨1, 0, none⟩ = some (.iface z.1 z.2)) (hG2 : w.cell? ⟨2, 0, none⟩ = some (.iface y.1 y.2)) :
    Calls Ybad.prog 3 #[.slice ao n cap, .slice ta t.length tc] w fun e w' => e = .returned (.bool true) ∧ Below w.heap.size w w' := by
  obtain ⟨i0, hi0, hz0, hz1, hz2⟩ := info_parts Ybad.info5
  have HM := hide hM
  have HT := hide hT
  have HOK := hide hM.2
  have hW : 2 < w.heap.size := World.block_lt_of_cell? w _ hG2
  have hni : (n : Int) ≤ 1024 := by omega
  have hti : (t.length : Int) ≤ 1024 := by omega
  clear hM hT
  go_enter Ybad.func3, Ybad.ntmps3
  go_wp2_with fail
  refine (au5 w.heap.size n (by omega) (.slice none 0 0) [] _ (World.ownsRow_nil _ _ _ _) (Nat.le_refl _) (by simp)).mono ?_
  rintro e w1 ⟨v1, rfl, ho1, hb1⟩
  have HO1 := hide ho1
  clear ho1
  go_wp2_with fail
  go_loopw [5, 6] (fun v i wr => ∃ k : Nat, k ≤ n ∧ i = .int .i64 k ∧ OwnB w.heap.size wr v (buf n M k) ∧ Below w.heap.size w wr) (fun _ i _ => n - (intOf i).toNat)
  case atStart => exact ⟨0, Nat.zero_le _, rfl, by simpa [buf, encs] using HO1.out, hb1⟩
  case round =>
    obtain ⟨k, hk, rfl, ho, hb⟩ := hrel
    have HO := hide ho
    have hsz := hb.size
    clear ho
    by_cases hlt : k < n
    · obtain ⟨b, off, rfl, hbl, hMA⟩ := HM.out.pick hlt
      obtain ⟨h0, h1, h2, h3⟩ := (hMA.below hb hbl) k hlt
      have hbl0 := buf_length hn (Nat.le_of_lt hlt) HOK.out
      obtain ⟨m1, m2, m3⟩ := HOK.out k hlt
      have l1 := Lib.uvarint_length64 m1
      have l2 := Lib.uvarint_length64 m2
      have l3 := Lib.uvarint_length64 m3
      clear hMA
      go_wp2_with fail
      refine (au5 w.heap.size _ m1 _ (buf n M k) _ HO.out hsz (by omega)).mono ?_
      rintro e x1 ⟨v2, rfl, o2, c1⟩
      have b1 := hb.trans c1
      have s1 := b1.size
      have O2 := hide o2
      have q1 := bcell c1 h1 hbl
      have q2 := bcell c1 h2 hbl
      have q3 := bcell c1 h3 hbl
      clear o2 h0 h1 h2 h3
      go_wp2_with fail
      refine (au5 w.heap.size _ m2 _ _ _ O2.out s1 (by simp; omega)).mono ?_
      rintro e x2 ⟨v3, rfl, o3, c2⟩
      have b2 := b1.trans c2
      have s2 := b2.size
      have O3 := hide o3
      have q2' := bcell c2 q2 hbl
      have q3' := bcell c2 q3 hbl
      clear o3 q1 q2 q3
      go_wp2_with fail
      refine (au5 w.heap.size _ m3 _ _ _ O3.out s2 (by simp; omega)).mono ?_
      rintro e x3 ⟨v4, rfl, o4, c3⟩
      have b3 := b2.trans c3
      have s3 := b3.size
      have O4 := hide o4
      have q3'' := bcell c3 q3' hbl
      clear o4 q2' q3'
      cases hkk : (M k).kept with
      | true =>
        rw [hkk] at q3''
        have HK := hide hkk
        clear hkk
        go_wp2_with (at_builtin; refine wpList_append_own _ rfl _ _ 23 rfl w.heap.size 5 i0 _ 1 1 Ybad.underlying23 hi0 hz0 hz1 hz2 rfl (by omega) _ _ _ rfl (World.ownsRow.alloc O4.out _) ⟨x3.heap.size, 0, none⟩ 1 1 [.int .u8 1] rfl rfl (cell_one_new _ _ _) (by simp [Value.oneCell']) (by unfold maxLen; simp; omega) (by simp; omega) (by simp; omega) ?_; intro v5 x4 o5 g5 _)
        go_roundw
        case rel => exact ⟨k + 1, by omega, by go_num, buf_step HK.out o5, (b3.alloc s3 _).grown g5 (by simp; omega) (fun j hj => (World.ownsRow.lt O4.out j hj).1)⟩
        case measure => simp [intOf]; omega
      | false =>
        rw [hkk] at q3''
        have HK := hide hkk
        clear hkk
        go_wp2_with (at_builtin; refine wpList_append_own _ rfl _ _ 23 rfl w.heap.size 5 i0 _ 1 1 Ybad.underlying23 hi0 hz0 hz1 hz2 rfl (by omega) _ _ _ rfl (World.ownsRow.alloc O4.out _) ⟨x3.heap.size, 0, none⟩ 1 1 [.int .u8 0] rfl rfl (cell_one_new _ _ _) (by simp [Value.oneCell']) (by unfold maxLen; simp; omega) (by simp; omega) (by simp; omega) ?_; intro v5 x4 o5 g5 _)
        go_roundw
        case rel => exact ⟨k + 1, by omega, by go_num, buf_step HK.out o5, (b3.alloc s3 _).grown g5 (by simp; omega) (fun j hj => (World.ownsRow.lt O4.out j hj).1)⟩
        case measure => simp [intOf]; omega
    · obtain rfl : k = n := by omega
      have hbl0 := buf_length hn (Nat.le_refl _) HOK.out
      have hpos : 0 < (buf k M k).length := by simp [buf]; have := Lib.uvarint_pos k; omega
      have hG' := bcell hb hG (by omega)
      have hG2' := bcell hb hG2 (by omega)
      cases ta with
      | none =>
        obtain rfl : t = [] := by
          rcases HT.out with h | ⟨g, o, h, _⟩
          · exact h
          · simp at h
        obtain rfl := hTn rfl
        obtain ⟨g, c, rfl, hg1, hg2, hc, hcell⟩ := HO.out.form hpos
        have HR : Hid (RdAt 32 (wr.alloc (.cells #[.slice (some ⟨g, 0, none⟩) (buf k M k).length c, .nilIface] 32)) wr.heap.size { b := some (buf k M k ++ []), e := none }) := by rw [List.append_nil]; exact rd_start hg2 hc (by omega) hcell hg1
        have bX := hb
        have qG := fun X => bcell ((Below.refl wr.heap.size wr).alloc (Nat.le_refl _) X) hG' (by omega)
        have qG2 := fun X => bcell ((Below.refl wr.heap.size wr).alloc (Nat.le_refl _) X) hG2' (by omega)
        clear hcell
        go_wp2_with (at_builtin; refine wpList_append_own_none rfl _ _ 23 rfl w.heap.size 5 i0 1 Ybad.underlying23 hi0 _ _ _ rfl HO.out rfl ?_)
        by_cases hk0 : k = 0
        · subst hk0
          refine (marks6_zero wr.heap.size _ z _ (by omega) HR.out (qG _) start_zero.1).mono ?_
          rw [start_zero.2]
          rintro e x6 ⟨rfl, r6, g6⟩
          have b6 := below_of_grown (bX.alloc (by omega) _) g6 (by omega)
          obtain ⟨ra, rc, d0, d1, hra⟩ := r6.left
          have HRA := hide hra
          have HT6 := hide (HT.out.below b6 (Nat.le_refl _))
          have hq := fun (w : World) => run_eql_nil_slice (P := Ybad.prog) w 33 38 none 0 0 0 0 Ybad.underlying33
          clear hra r6 g6
          go_wp2_with (go_at_call 7; refine (equal7 _ _ _ _ _ _ [] _ rfl rfl HRA.out HT6.out).mono ?_; rintro e x7 ⟨rfl, rfl⟩)
          go_ret
          exact ⟨rfl, b6⟩
        · obtain ⟨st1, st2, st3⟩ := start_some (v := z) (r := y) (t := []) hn HOK.out
          refine (marks6_some wr.heap.size k _ z y _ (by omega) HR.out (qG _) (qG2 _) st1 (by omega) (by omega)).mono ?_
          rw [st2]
          rintro e x6 ⟨g2, rfl, hg2', hmk, r6, g6⟩
          have b6 := below_of_grown (bX.alloc (by omega) _) g6 (by omega)
          have hmk' := hmk.congr st3
          obtain ⟨ra, rc, d0, d1, hra⟩ := r6.left
          have HRA := hide hra
          have HT6 := hide (HT.out.below b6 (Nat.le_refl _))
          have HMK := hide hmk'
          have hkz : ((k : Int) == 0) = false := by simp; omega
          clear hra r6 g6 hmk hmk' st1 st2 st3 qG qG2 hG' hG2' hG hG2
          go_wp2_with (go_at_call 7; refine (equal7 _ _ _ _ _ _ [] _ rfl rfl HRA.out HT6.out).mono ?_; rintro e x7 ⟨rfl, rfl⟩)
          go_loopw [9] (fun i wr => ∃ j : Nat, j ≤ k ∧ i = .int .i64 j ∧ Below x7.heap.size x7 wr) (fun i _ => k - (intOf i).toNat)
          case atStart => exact ⟨0, Nat.zero_le _, rfl, Below.refl _ _⟩
          case round =>
            obtain ⟨j, hj, rfl, hbj⟩ := hrel
            have hszj := hbj.size
            have hsz6 := b6.size
            by_cases hlj : j < k
            · obtain ⟨b, off, rfl, hbl, hMA⟩ := HM.out.pick hlj
              obtain ⟨a0, a1, a2, a3⟩ := (hMA.below (b6.trans (hbj.mono hsz6)) hbl) j hlj
              obtain ⟨e0, e1, e2, e3⟩ := HMK.out.cells hlj
              have hgl := HMK.out.lt
              have e0' := bcell hbj e0 hgl
              have e1' := bcell hbj e1 hgl
              have e2' := bcell hbj e2 hgl
              have e3' := bcell hbj e3 hgl
              have belj := fun X => (Below.refl wr.heap.size wr).alloc (Nat.le_refl _) X
              have hbl' : b < wr.heap.size := by omega
              have a0' := fun X => bcell (belj X) a0 hbl'
              have a1' := fun X => bcell (belj X) a1 hbl'
              have a2' := fun X => bcell (belj X) a2 hbl'
              have a3' := fun X => bcell (belj X) a3 hbl'
              have hi0 : (0 : Int) ≤ (j : Int) := Int.natCast_nonneg _
              have hi1 : (j : Int) < (k : Int) := by omega
              clear hMA e0 e1 e2 e3 belj
              go_wp2_with fail
              go_quiet (fail)
              go_wp2
              go_roundw
              case rel => exact ⟨j + 1, by omega, by go_num, below_drewN (hbj.alloc hszj _) _⟩
              case measure => simp [intOf]; omega
            · go_wp2
              go_ret
              exact ⟨rfl, b6.trans (hbj.mono hsz6)⟩
      | some ad =>
        have hnews := BysAt.news HT.out hb
        have HNW := hide hnews
        clear hnews
        go_wp2_with (at_builtin; refine wpList_append_own _ rfl _ _ 23 rfl w.heap.size 5 i0 _ 1 1 Ybad.underlying23 hi0 hz0 hz1 hz2 rfl (by omega) _ _ _ rfl HO.out ad t.length tc (Lib.byteCells t) rfl (by rw [bc_length, Nat.mul_one]) HNW.out (bc_one t) (by unfold maxLen; omega) (by omega) hsz ?_; intro v5 x5 o5 g5 _; obtain ⟨g, c, hv5, hg1, hg2, hc, hcell⟩ := (own_join o5).form (by simp; omega); have hr := rd_start hg2 hc (by simp; omega) hcell hg1; rw [List.length_append] at hv5 hr; subst hv5; have HR := hide hr; clear hcell o5 hr hc)
        have bX : Below w.heap.size w x5 := hb.grown g5 hsz (fun j hj => (World.ownsRow.lt HO.out j hj).1)
        have sX := bX.size
        have qG := fun X => bcell (bX.alloc sX X) hG (by omega)
        have qG2 := fun X => bcell (bX.alloc sX X) hG2 (by omega)
        clear HNW g5 HO
        by_cases hk0 : k = 0
        · subst hk0
          refine (marks6_zero x5.heap.size _ z _ (by omega) HR.out (qG _) start_zero.1).mono ?_
          rw [start_zero.2]
          rintro e x6 ⟨rfl, r6, g6⟩
          have b6 := below_of_grown (bX.alloc (by omega) _) g6 (by omega)
          obtain ⟨ra, rc, d0, d1, hra⟩ := r6.left
          have HRA := hide hra
          have HT6 := hide (HT.out.below b6 (Nat.le_refl _))
          have hq := fun (w : World) => run_eql_nil_slice (P := Ybad.prog) w 33 38 none 0 0 0 0 Ybad.underlying33
          clear hra r6 g6
          go_wp2_with (go_at_call 7; refine (equal7 _ _ _ _ _ _ t _ rfl rfl HRA.out HT6.out).mono ?_; rintro e x7 ⟨rfl, rfl⟩)
          go_ret
          exact ⟨rfl, b6⟩
        · obtain ⟨st1, st2, st3⟩ := start_some (v := z) (r := y) (t := t) hn HOK.out
          refine (marks6_some x5.heap.size k _ z y _ (by omega) HR.out (qG _) (qG2 _) st1 (by omega) (by omega)).mono ?_
          rw [st2]
          rintro e x6 ⟨g2, rfl, hg2', hmk, r6, g6⟩
          have b6 := below_of_grown (bX.alloc (by omega) _) g6 (by omega)
          have hmk' := hmk.congr st3
          obtain ⟨ra, rc, d0, d1, hra⟩ := r6.left
          have HRA := hide hra
          have HT6 := hide (HT.out.below b6 (Nat.le_refl _))
          have HMK := hide hmk'
          have hkz : ((k : Int) == 0) = false := by simp; omega
          clear hra r6 g6 hmk hmk' st1 st2 st3 qG qG2 hG' hG2' hG hG2
          go_wp2_with (go_at_call 7; refine (equal7 _ _ _ _ _ _ t _ rfl rfl HRA.out HT6.out).mono ?_; rintro e x7 ⟨rfl, rfl⟩)
          go_loopw [9] (fun i wr => ∃ j : Nat, j ≤ k ∧ i = .int .i64 j ∧ Below x7.heap.size x7 wr) (fun i _ => k - (intOf i).toNat)
          case atStart => exact ⟨0, Nat.zero_le _, rfl, Below.refl _ _⟩
          case round =>
            obtain ⟨j, hj, rfl, hbj⟩ := hrel
            have hszj := hbj.size
            have hsz6 := b6.size
            by_cases hlj : j < k
            · obtain ⟨b, off, rfl, hbl, hMA⟩ := HM.out.pick hlj
              obtain ⟨a0, a1, a2, a3⟩ := (hMA.below (b6.trans (hbj.mono hsz6)) hbl) j hlj
              obtain ⟨e0, e1, e2, e3⟩ := HMK.out.cells hlj
              have hgl := HMK.out.lt
              have e0' := bcell hbj e0 hgl
              have e1' := bcell hbj e1 hgl
              have e2' := bcell hbj e2 hgl
              have e3' := bcell hbj e3 hgl
              have belj := fun X => (Below.refl wr.heap.size wr).alloc (Nat.le_refl _) X
              have hbl' : b < wr.heap.size := by omega
              have a0' := fun X => bcell (belj X) a0 hbl'
              have a1' := fun X => bcell (belj X) a1 hbl'
              have a2' := fun X => bcell (belj X) a2 hbl'
              have a3' := fun X => bcell (belj X) a3 hbl'
              have hi0 : (0 : Int) ≤ (j : Int) := Int.natCast_nonneg _
              have hi1 : (j : Int) < (k : Int) := by omega
              clear hMA e0 e1 e2 e3 belj
              go_wp2_with fail
              go_quiet (fail)
              go_wp2
              go_roundw
              case rel => exact ⟨j + 1, by omega, by go_num, below_drewN (hbj.alloc hszj _) _⟩
              case measure => simp [intOf]; omega
            · go_wp2
              go_ret
              exact ⟨rfl, b6.trans (hbj.mono hsz6)⟩

theorem trip_any (ao ta : Option Addr) (n cap tc : Nat) (M : Nat → Mk) (t : List UInt8) (z y : TypeId × Value) (w : World) (hM : MsIn w ao n M) (hT : BysAt w ta t) (hTn : ta = none → tc = 0)
    (hG : w.cell? ⟨1, 0, none⟩ = some (.iface z.1 z.2)) (hG2 : w.cell? ⟨2, 0, none⟩ = some (.iface y.1 y.2)) :
    Calls Ybad.prog 3 #[.slice ao n cap, .slice ta t.length tc] w fun e w' => e = .returned (.bool true) ∧ Below w.heap.size w w' := by
  by_cases h : 1024 < n ∨ 1024 < t.length
  · exact trip_big ao ta n cap t.length tc w h
  · exact trip_small ao ta n cap tc M t z y w (by omega) (by omega) hM hT hTn hG hG2
end Go.Proofs.YbulkcwmaDoor
