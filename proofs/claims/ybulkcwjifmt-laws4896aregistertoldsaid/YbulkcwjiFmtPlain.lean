/-
  Seat b4896aF: the plain law: no Go in sight.
-/
namespace Go.Proofs.YbulkcwjiFmt

/-- ONE LIST OF ACCOUNTS ASKED ONE AFTER THE OTHER: 'ans k a' is the answer at the k-th question. All of l were answered yes. -/
def Yes (ans : Nat → ByteArray → Bool) (l : List ByteArray) : Prop := ∀ m a, l[m]? = some a → ans m a = true

theorem yes_nil (ans : Nat → ByteArray → Bool) : Yes ans [] := by intro m a h; simp at h

theorem yes_snoc {ans : Nat → ByteArray → Bool} {l : List ByteArray} {a : ByteArray} (h : Yes ans l) (ha : ans l.length a = true) : Yes ans (l ++ [a]) := by
  intro m b hb
  by_cases hm : m < l.length
  · rw [List.getElem?_append_left hm] at hb
    exact h m b hb
  · rw [List.getElem?_append_right (by omega)] at hb
    have hm' : m - l.length = 0 := by
      have := (List.getElem?_eq_some_iff.1 hb).1
      simp at this
      omega
    rw [hm'] at hb
    simp at hb
    subst hb
    have : m = l.length := by omega
    rw [this]; exact ha

/-- How the asking of L ended: 'log' was asked; ok: none was refused. -/
def Ends (ans : Nat → ByteArray → Bool) (L log : List ByteArray) (ok : Bool) : Prop :=
  (ok = true ∧ log = L ∧ Yes ans L) ∨ (ok = false ∧ ∃ l a r, log = l ++ [a] ∧ L = l ++ a :: r ∧ Yes ans l ∧ ans l.length a = false)

theorem ends_one {ans : Nat → ByteArray → Bool} {L x y : List ByteArray} {p q : Bool} (h : Ends ans L x p) (k : Ends ans L y q) : x = y ∧ p = q := by
  have clash : ∀ {l a r}, L = l ++ a :: r → Yes ans L → ans l.length a = false → False := by
    intro l a r hL hy hf
    have := hy l.length a (by rw [hL]; simp)
    rw [hf] at this
    exact Bool.noConfusion this
  rcases h with ⟨rfl, rfl, hy⟩ | ⟨rfl, l, a, r, rfl, hL, hy, hf⟩
  · rcases k with ⟨rfl, rfl, _⟩ | ⟨rfl, l, a, r, rfl, hL, _, hf⟩
    · exact ⟨rfl, rfl⟩
    · exact (clash hL hy hf).elim
  · rcases k with ⟨rfl, rfl, hy'⟩ | ⟨rfl, l', a', r', rfl, hL', hy', hf'⟩
    · exact (clash hL hy' hf).elim
    · have hlen : l.length = l'.length := by
        have at1 : L[l.length]? = some a := by rw [hL]; simp
        have at2 : L[l'.length]? = some a' := by rw [hL']; simp
        rcases Nat.lt_trichotomy l.length l'.length with h | h | h
        · rw [hL', List.getElem?_append_left h] at at1
          have := hy' _ _ at1
          rw [hf] at this; exact Bool.noConfusion this
        · exact h
        · rw [hL, List.getElem?_append_left h] at at2
          have := hy _ _ at2
          rw [hf'] at this; exact Bool.noConfusion this
      have e : l ++ a :: r = l' ++ a' :: r' := hL.symm.trans hL'
      obtain ⟨e1, e2⟩ := List.append_inj e hlen
      simp at e2
      exact ⟨by rw [e1, e2.1], rfl⟩

/-- The proposals as the law draws them, by their index. -/
structure Pr where
  rl : Nat → Nat
  rs : Nat → Nat → ByteArray
  im : Nat → Bool
  bl : Nat → Nat
  bs : Nat → Nat → ByteArray

/-- The first k of a family. -/
def firsts (f : Nat → ByteArray) : Nat → List ByteArray
  | 0 => []
  | k + 1 => firsts f k ++ [f k]

theorem firsts_length (f : Nat → ByteArray) : ∀ k, (firsts f k).length = k
  | 0 => rfl
  | k + 1 => by simp [firsts, firsts_length f k]

theorem firsts_at (f : Nat → ByteArray) : ∀ (k j : Nat), j < k → (firsts f k)[j]? = some (f j)
  | 0, _, h => absurd h (Nat.not_lt_zero _)
  | k + 1, j, h => by
    unfold firsts
    by_cases hj : j < k
    · rw [List.getElem?_append_left (by rw [firsts_length]; exact hj)]
      exact firsts_at f k j hj
    · obtain rfl : j = k := by omega
      rw [List.getElem?_append_right (by rw [firsts_length]; omega), firsts_length]
      simp

/-- The strings after the first j up to k. -/
def lasts (f : Nat → ByteArray) (j k : Nat) : List ByteArray := (firsts f k).drop j

theorem firsts_split (f : Nat → ByteArray) (j k : Nat) (h : j < k) : firsts f k = firsts f j ++ f j :: lasts f (j + 1) k := by
  have take : (firsts f k).take j = firsts f j := by
    apply List.ext_getElem?
    intro m
    by_cases hm : m < j
    · rw [List.getElem?_take_of_lt hm, firsts_at f k m (by omega), firsts_at f j m hm]
    · rw [List.getElem?_eq_none (by simp [firsts_length]; omega), List.getElem?_eq_none (by rw [firsts_length]; omega)]
  have hd : (firsts f k).drop j = f j :: lasts f (j + 1) k := by
    have hl : j < (firsts f k).length := by rw [firsts_length]; exact h
    rw [List.drop_eq_getElem_cons hl]
    congr 1
    have := firsts_at f k j h
    rw [List.getElem?_eq_getElem hl] at this
    exact Option.some.inj this
  rw [← take, ← hd, List.take_append_drop]

/-- How many accounts of 'by' count. -/
def byl (P : Pr) (i : Nat) : Nat := if P.im i = true then P.bl i else 0
/-- The accounts of the first i proposals, in order. -/
def pre (P : Pr) : Nat → List ByteArray
  | 0 => []
  | i + 1 => pre P i ++ (firsts (P.rs i) (P.rl i) ++ firsts (P.bs i) (byl P i))

theorem pre_split (P : Pr) : ∀ (n i : Nat), i ≤ n → ∃ r, pre P n = pre P i ++ r
  | 0, i, h => by
    obtain rfl : i = 0 := by omega
    exact ⟨[], by simp⟩
  | n + 1, i, h => by
    by_cases hi : i ≤ n
    · obtain ⟨r, hr⟩ := pre_split P n i hi
      exact ⟨r ++ (firsts (P.rs n) (P.rl n) ++ firsts (P.bs n) (byl P n)), by rw [pre, hr, List.append_assoc]⟩
    · obtain rfl : i = n + 1 := by omega
      exact ⟨[], by simp⟩

/-- What has been asked ahead of account j of list t (0: related; 1: by) of proposal i. -/
def st (P : Pr) (i t j : Nat) : List ByteArray :=
  if t = 0 then pre P i ++ firsts (P.rs i) j else pre P i ++ (firsts (P.rs i) (P.rl i) ++ firsts (P.bs i) j)
def sl (P : Pr) (i t : Nat) : Nat := if t = 0 then P.rl i else byl P i
def ss (P : Pr) (i t j : Nat) : ByteArray := if t = 0 then P.rs i j else P.bs i j

theorem st_zero (P : Pr) (i : Nat) : st P i 0 0 = pre P i := by simp [st, firsts]
theorem st_mid (P : Pr) (i : Nat) : st P i 0 (sl P i 0) = st P i 1 0 := by simp [st, sl, firsts]
theorem st_end (P : Pr) (i : Nat) : st P i 1 (sl P i 1) = pre P (i + 1) := by simp [st, sl, pre]
theorem st_succ (P : Pr) (i t j : Nat) : st P i t (j + 1) = st P i t j ++ [ss P i t j] := by
  unfold st ss
  split <;> simp [firsts]

theorem st_split (P : Pr) {n i t j : Nat} (hi : i < n) (hj : j < sl P i t) : ∃ r, pre P n = st P i t j ++ ss P i t j :: r := by
  obtain ⟨r, hr⟩ := pre_split P n (i + 1) hi
  unfold st ss sl at *
  by_cases ht : t = 0
  · rw [if_pos ht] at hj ⊢
    rw [if_pos ht]
    exact ⟨_, by rw [hr, pre, firsts_split (P.rs i) j (P.rl i) hj]; simp only [List.append_assoc, List.cons_append]; rfl⟩
  · rw [if_neg ht] at hj ⊢
    rw [if_neg ht]
    exact ⟨_, by rw [hr, pre, firsts_split (P.bs i) j (byl P i) hj]; simp only [List.append_assoc, List.cons_append]; rfl⟩

theorem ends_fail {ans : Nat → ByteArray → Bool} {P : Pr} {n i t j : Nat} (hi : i < n) (hj : j < sl P i t) (hy : Yes ans (st P i t j)) (hf : ans (st P i t j).length (ss P i t j) = false) :
    Ends ans (pre P n) (st P i t (j + 1)) false := by
  obtain ⟨r, hr⟩ := st_split P hi hj
  exact .inr ⟨rfl, _, _, r, st_succ P i t j, hr, hy, hf⟩

/-! ### How many -/
def Bnd (P : Pr) (n : Nat) : Prop := n ≤ 256 ∧ ∀ i, i < n → P.rl i ≤ 256 ∧ P.bl i ≤ 256

theorem byl_le (P : Pr) (i : Nat) : byl P i ≤ P.bl i := by unfold byl; split <;> omega

theorem pre_length {P : Pr} {n : Nat} (h : Bnd P n) : ∀ i, i ≤ n → (pre P i).length ≤ 512 * i
  | 0, _ => by simp [pre]
  | i + 1, hi => by
    have ih := pre_length h i (by omega)
    have hb := h.2 i (by omega)
    have hy := byl_le P i
    simp [pre, firsts_length]
    omega

theorem st_length {P : Pr} {n i t j : Nat} (h : Bnd P n) (hi : i < n) (hj : j ≤ sl P i t) : (st P i t j).length ≤ 131072 := by
  have ih := pre_length h i (by omega)
  have hb := h.2 i hi
  have hy := byl_le P i
  have hn := h.1
  unfold st sl at *
  split
  · simp_all [firsts_length]; omega
  · simp_all [firsts_length]; omega

theorem pre_length_all {P : Pr} {n : Nat} (h : Bnd P n) : (pre P n).length ≤ 131072 := by
  have := pre_length h n (Nat.le_refl _)
  have := h.1
  omega
end Go.Proofs.YbulkcwjiFmt
