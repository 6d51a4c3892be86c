/-
  Seat b4901aD: the reader of marks as a plain function on bytes; what is encoded is what is read back. No Go in sight.
-/
import Derived.Lib.Varint
import Derived.Lib.VarintDec
import GoSem.Core.Value
namespace Go.Proofs.YbulkcwmaDoor

/-- An error value: none: nil; else its dynamic type and value. -/
abbrev Er := Option (TypeId × Value)

/-- The reader's state: the bytes left (none: a nil slice) and the error that it holds. -/
structure St where
  b : Option (List UInt8)
  e : Er

/-- The bytes left. -/
def St.l (s : St) : List UInt8 := s.b.getD []
/-- 'fail': the first error is kept; nothing is left to read. -/
def failS (v : TypeId × Value) (s : St) : St := { b := none, e := some (s.e.getD v) }

def uvOk (l : List UInt8) : Bool := decide (0 < (Lib.uvarintDec l).2)
/-- 'uvarint'. -/
def uvV (s : St) : Nat := if uvOk s.l = true then (Lib.uvarintDec s.l).1 else 0
def uvS (v : TypeId × Value) (s : St) : St := if uvOk s.l = true then { b := some (s.l.drop (Lib.uvarintDec s.l).2.toNat), e := s.e } else failS v s

/-- 'length'. -/
def lenOk (v : TypeId × Value) (s : St) : Bool := decide (uvV s ≤ (uvS v s).l.length)
def lenV (v : TypeId × Value) (s : St) : Nat := if lenOk v s = true then uvV s else 0
def lenS (v : TypeId × Value) (s : St) : St := if lenOk v s = true then uvS v s else failS v (uvS v s)

/-- 'byte'. -/
def byV (s : St) : Nat := match s.l with | [] => 0 | c :: _ => c.toNat
def byS (v : TypeId × Value) (s : St) : St := match s.l with | [] => failS v s | _ :: r => { b := some r, e := s.e }

/-- 'flag'. -/
def flV (s : St) : Bool := decide (byV s = 1)
def flS (v r : TypeId × Value) (s : St) : St := if byV s ≤ 1 then byS v s else failS r (byS v s)

/-- A mark. -/
structure Mk where
  peer : Nat
  inc : Nat
  seq : Nat
  kept : Bool

/-- One mark read. -/
def mkV (v : TypeId × Value) (s : St) : Mk := { peer := uvV s, inc := uvV (uvS v s), seq := uvV (uvS v (uvS v s)), kept := flV (uvS v (uvS v (uvS v s))) }
def mkS (v r : TypeId × Value) (s : St) : St := flS v r (uvS v (uvS v (uvS v s)))

/-- The state behind k marks; the k-th mark. -/
def mksS (v r : TypeId × Value) (s : St) : Nat → St
  | 0 => s
  | k + 1 => mkS v r (mksS v r s k)
def mksV (v r : TypeId × Value) (s : St) (k : Nat) : Mk := mkV v (mksS v r s k)

/-! ### Bounds -/
theorem from_le : ∀ (l : List UInt8) (i acc : Nat), (Lib.uvarintFrom i acc l).2 ≤ ((i + l.length : Nat) : Int)
  | [], i, acc => by simp [Lib.uvarintFrom]
  | b :: r, i, acc => by
    unfold Lib.uvarintFrom
    have ih := from_le r (i + 1) (acc + b.toNat % 128 * 2 ^ (7 * i))
    split
    · simp; omega
    · split
      · split
        · simp; omega
        · simp; omega
      · simp only [List.length_cons]
        have e : i + 1 + r.length = i + (r.length + 1) := by omega
        rw [e] at ih
        exact ih
theorem dec_le (l : List UInt8) : (Lib.uvarintDec l).2 ≤ (l.length : Int) := by
  have := from_le l 0 0
  simpa [Lib.uvarintDec] using this

theorem uvV_lt (s : St) : uvV s < 18446744073709551616 := by
  unfold uvV
  split
  · exact Lib.uvarintDec_lt _
  · omega

/-! ### What is encoded is what is read -/
theorem from_enc (r : List UInt8) : ∀ (k y i acc : Nat), y ≤ k → i ≤ 9 → y * 2 ^ (7 * i) < 18446744073709551616 →
    Lib.uvarintFrom i acc (Lib.uvarint y ++ r) = (acc + y * 2 ^ (7 * i), ((i + (Lib.uvarint y).length : Nat) : Int)) := by
  intro k
  induction k with
  | zero =>
    intro y i acc hy hi hlt
    obtain rfl : y = 0 := by omega
    rw [Lib.uvarint_small (by omega)]
    simp only [List.cons_append, List.nil_append, Lib.uvarintFrom]
    rw [if_neg (by omega), if_pos (by decide), if_neg (by rintro ⟨_, h⟩; exact absurd h (by decide))]
    simp
  | succ k ih =>
    intro y i acc hy hi hlt
    have hi' : i = 0 ∨ i = 1 ∨ i = 2 ∨ i = 3 ∨ i = 4 ∨ i = 5 ∨ i = 6 ∨ i = 7 ∨ i = 8 ∨ i = 9 := by omega
    by_cases hs : y < 128
    · rw [Lib.uvarint_small hs]
      have ht : (y.toUInt8).toNat = y := by
        simp [Nat.toUInt8]; omega
      simp only [List.cons_append, List.nil_append, Lib.uvarintFrom, ht]
      rw [if_neg (by omega), if_pos hs, if_neg ?_]
      · simp
      · rintro ⟨h9, h1⟩
        subst h9
        have : (2 : Nat) ^ (7 * 9) = 9223372036854775808 := by decide
        rw [this] at hlt
        omega
    · have hb := Lib.uvarint_big (x := y) (by omega)
      rw [hb]
      have ht : ((y % 128 + 128).toUInt8).toNat = y % 128 + 128 := by
        simp [Nat.toUInt8]; omega
      simp only [List.cons_append, Lib.uvarintFrom, ht]
      have hp : (2 : Nat) ^ (7 * (i + 1)) = 128 * 2 ^ (7 * i) := by
        rw [show 7 * (i + 1) = 7 + 7 * i by omega, Nat.pow_add]
      have hi9 : i ≤ 8 := by
        rcases hi' with rfl | rfl | rfl | rfl | rfl | rfl | rfl | rfl | rfl | rfl <;> omega
      rw [if_neg (by omega), if_neg (by omega)]
      have hy2 : y / 128 * 2 ^ (7 * (i + 1)) ≤ y * 2 ^ (7 * i) := by
        rw [hp, ← Nat.mul_assoc]
        exact Nat.mul_le_mul_right _ (Nat.div_mul_le_self y 128)
      rw [ih (y / 128) (i + 1) _ (by omega) (by omega) (by omega)]
      have e1 : acc + (y % 128 + 128) % 128 * 2 ^ (7 * i) + y / 128 * 2 ^ (7 * (i + 1)) = acc + y * 2 ^ (7 * i) := by
        rw [hp]
        have e2 : (y % 128 + 128) % 128 = y % 128 := by omega
        rw [e2, ← Nat.mul_assoc, Nat.add_assoc, ← Nat.add_mul]
        congr 2
        omega
      rw [e1]
      simp only [List.length_cons, Prod.mk.injEq, true_and]
      omega

theorem dec_enc (x : Nat) (r : List UInt8) (h : x < 18446744073709551616) : Lib.uvarintDec (Lib.uvarint x ++ r) = (x, ((Lib.uvarint x).length : Int)) := by
  have := from_enc r x x 0 0 (Nat.le_refl _) (by omega) (by simpa using h)
  simpa [Lib.uvarintDec] using this

theorem uv_enc {v : TypeId × Value} {x : Nat} {r : List UInt8} {e : Er} (h : x < 18446744073709551616) :
    uvV { b := some (Lib.uvarint x ++ r), e := e } = x ∧ uvS v { b := some (Lib.uvarint x ++ r), e := e } = { b := some r, e := e } := by
  have hd := dec_enc x r h
  have hp := Lib.uvarint_pos x
  have ok : uvOk (St.l { b := some (Lib.uvarint x ++ r), e := e }) = true := by
    show uvOk (Lib.uvarint x ++ r) = true
    unfold uvOk
    rw [hd]
    simp
    omega
  constructor
  · unfold uvV
    rw [if_pos ok]
    show (Lib.uvarintDec (Lib.uvarint x ++ r)).1 = x
    rw [hd]
  · unfold uvS
    rw [if_pos ok]
    show ({ b := some ((Lib.uvarint x ++ r).drop (Lib.uvarintDec (Lib.uvarint x ++ r)).2.toNat), e := e } : St) = _
    rw [hd]
    simp

/-- A mark's bytes. -/
def encM (m : Mk) : List UInt8 := Lib.uvarint m.peer ++ (Lib.uvarint m.inc ++ (Lib.uvarint m.seq ++ [if m.kept = true then 1 else 0]))
def MkOk (m : Mk) : Prop := m.peer < 18446744073709551616 ∧ m.inc < 18446744073709551616 ∧ m.seq < 18446744073709551616

theorem fl_enc {v r : TypeId × Value} {k : Bool} {t : List UInt8} {e : Er} :
    flV { b := some ((if k = true then 1 else 0) :: t), e := e } = k ∧ flS v r { b := some ((if k = true then 1 else 0) :: t), e := e } = { b := some t, e := e } := by
  cases k
  · exact ⟨rfl, rfl⟩
  · exact ⟨rfl, rfl⟩

theorem mk_enc {v r : TypeId × Value} {m : Mk} {t : List UInt8} {e : Er} (h : MkOk m) :
    mkV v { b := some (encM m ++ t), e := e } = m ∧ mkS v r { b := some (encM m ++ t), e := e } = { b := some t, e := e } := by
  obtain ⟨h1, h2, h3⟩ := h
  unfold encM mkV mkS
  simp only [List.append_assoc, List.cons_append, List.nil_append]
  rw [(uv_enc (v := v) h1).1, (uv_enc (v := v) h1).2, (uv_enc (v := v) h2).1, (uv_enc (v := v) h2).2, (uv_enc (v := v) h3).1, (uv_enc (v := v) h3).2, (fl_enc (v := v) (r := r)).1, (fl_enc (v := v) (r := r)).2]
  exact ⟨rfl, rfl⟩

/-- The first k marks' bytes. -/
def encs (M : Nat → Mk) : Nat → List UInt8
  | 0 => []
  | k + 1 => encs M k ++ encM (M k)
/-- The bytes of the marks from k on, n of them in all. -/
def encFrom (M : Nat → Mk) (k : Nat) : Nat → List UInt8
  | 0 => []
  | d + 1 => encM (M k) ++ encFrom M (k + 1) d

theorem encs_split (M : Nat → Mk) : ∀ (d k : Nat), encs M (k + d) = encs M k ++ encFrom M k d
  | 0, k => by simp [encFrom]
  | d + 1, k => by
    have ih := encs_split M d (k + 1)
    rw [show k + (d + 1) = k + 1 + d by omega, ih, encs, encFrom, List.append_assoc]

theorem mks_enc {v r : TypeId × Value} {M : Nat → Mk} {t : List UInt8} {e : Er} (n : Nat) (h : ∀ i, i < n → MkOk (M i)) : ∀ k, k ≤ n →
    mksS v r { b := some (encs M n ++ t), e := e } k = { b := some (encFrom M k (n - k) ++ t), e := e }
  | 0, _ => by
    show ({ b := some (encs M n ++ t), e := e } : St) = _
    have := encs_split M n 0
    simp only [Nat.zero_add] at this
    rw [this]
    simp [encs]
  | k + 1, hk => by
    rw [mksS, mks_enc n h k (by omega), show n - k = (n - (k + 1)) + 1 by omega, encFrom, List.append_assoc, (mk_enc (h k (by omega))).2]

theorem mksV_enc {v r : TypeId × Value} {M : Nat → Mk} {t : List UInt8} {e : Er} {n k : Nat} (h : ∀ i, i < n → MkOk (M i)) (hk : k < n) :
    mksV v r { b := some (encs M n ++ t), e := e } k = M k := by
  unfold mksV
  rw [mks_enc n h k (by omega), show n - k = (n - (k + 1)) + 1 by omega, encFrom, List.append_assoc, (mk_enc (r := r) (h k (by omega))).1]

theorem encM_length (m : Mk) : 4 ≤ (encM m).length := by
  have h1 := Lib.uvarint_pos m.peer
  have h2 := Lib.uvarint_pos m.inc
  have h3 := Lib.uvarint_pos m.seq
  simp [encM]
  omega
theorem encM_length_le {m : Mk} (h : MkOk m) : (encM m).length ≤ 31 := by
  have h1 := Lib.uvarint_length64 h.1
  have h2 := Lib.uvarint_length64 h.2.1
  have h3 := Lib.uvarint_length64 h.2.2
  simp [encM]
  omega
theorem encs_length (M : Nat → Mk) : ∀ n, n ≤ (encs M n).length
  | 0 => by simp [encs]
  | n + 1 => by
    have := encs_length M n
    have := encM_length (M n)
    simp [encs]
    omega
theorem encs_length_le {M : Nat → Mk} : ∀ n, (∀ i, i < n → MkOk (M i)) → (encs M n).length ≤ 31 * n
  | 0, _ => by simp [encs]
  | n + 1, h => by
    have := encs_length_le n (fun i hi => h i (by omega))
    have := encM_length_le (h n (by omega))
    simp [encs]
    omega

/-- The length at the head, read. -/
theorem len_enc {v : TypeId × Value} {M : Nat → Mk} {t : List UInt8} {e : Er} {n : Nat} (hn : n ≤ 1024) :
    lenV v { b := some (Lib.uvarint n ++ (encs M n ++ t)), e := e } = n ∧ lenS v { b := some (Lib.uvarint n ++ (encs M n ++ t)), e := e } = { b := some (encs M n ++ t), e := e } := by
  have h1 := (uv_enc (v := v) (x := n) (r := encs M n ++ t) (e := e) (by omega)).1
  have h2 := (uv_enc (v := v) (x := n) (r := encs M n ++ t) (e := e) (by omega)).2
  have ok : lenOk v { b := some (Lib.uvarint n ++ (encs M n ++ t)), e := e } = true := by
    unfold lenOk
    rw [h1, h2]
    have := encs_length M n
    simp [St.l]
    omega
  constructor
  · unfold lenV; rw [if_pos ok, h1]
  · unfold lenS; rw [if_pos ok, h2]
end Go.Proofs.YbulkcwmaDoor
