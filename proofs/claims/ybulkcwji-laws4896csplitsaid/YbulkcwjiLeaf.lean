/-
  The leaves of seat b4896a: zzs4896crole (function 9) and Holder.VotingShares (function 10).
-/
import Derived.Test.YbulkcwjiRows
import Derived.WalkKit
import Derived.WalkSpells
import Derived.WalkLawsBesides
namespace Go.Proofs.Ybulkcwji
open Go.RowKit

/-- What 'zzs4896crole' answers. -/
def roleOf (r : Int) : ByteArray :=
  if r % 5 = 0 then { data := #[104, 111, 108, 100, 101, 114] }
  else if r % 5 = 1 then { data := #[105, 110, 115, 105, 100, 101, 114] }
  else if r % 5 = 2 then { data := #[116, 114, 101, 97, 115, 117, 114, 121] }
  else if r % 5 = 3 then { data := #[110, 111, 109, 105, 110, 101, 101] }
  else { data := #[84, 114, 101, 97, 115, 117, 114, 121] }

/-- Is it the treasury's role? -/
def isT (s : ByteArray) : Bool := s.toList == [116, 114, 101, 97, 115, 117, 114, 121]

/-- What '(Holder).VotingShares' answers. -/
def voteOf (s : ByteArray) (sh br : Int) : Int := if isT s = true then 0 else wrap64 (sh - br)

theorem isT_roleOf (r : Int) : isT (roleOf r) = decide (r % 5 = 2) := by
  have h5 : r % 5 = 0 ∨ r % 5 = 1 ∨ r % 5 = 2 ∨ r % 5 = 3 ∨ r % 5 = 4 := by omega
  unfold roleOf isT
  rw [ByteArray.toList_eq]
  rcases h5 with h | h | h | h | h <;> rw [h] <;> decide

theorem role_0 {r : Int} (h : (r % 5 == 0) = true) : roleOf r = { data := #[104, 111, 108, 100, 101, 114] } := by
  have : r % 5 = 0 := by simpa using h
  simp [roleOf, this]
theorem role_1 {r : Int} (h : (r % 5 == 1) = true) : roleOf r = { data := #[105, 110, 115, 105, 100, 101, 114] } := by
  have : r % 5 = 1 := by simpa using h
  simp [roleOf, this]
theorem role_2 {r : Int} (h : (r % 5 == 2) = true) : roleOf r = { data := #[116, 114, 101, 97, 115, 117, 114, 121] } := by
  have : r % 5 = 2 := by simpa using h
  simp [roleOf, this]
theorem role_3 {r : Int} (h : (r % 5 == 3) = true) : roleOf r = { data := #[110, 111, 109, 105, 110, 101, 101] } := by
  have : r % 5 = 3 := by simpa using h
  simp [roleOf, this]
theorem role_4 {r : Int} (h0 : (r % 5 == 0) = false) (h1 : (r % 5 == 1) = false) (h2 : (r % 5 == 2) = false) (h3 : (r % 5 == 3) = false) : roleOf r = { data := #[84, 114, 101, 97, 115, 117, 114, 121] } := by
  simp at h0 h1 h2 h3
  simp [roleOf, h0, h1, h2, h3]

theorem ret_str {a b : ByteArray} (h : b = a) : Ending.returned (.string a) = .returned (.string b) := by rw [h]
theorem ret_int {k : IntKind} {a b : Int} (h : b = a) : Ending.returned (.int k a) = .returned (.int k b) := by rw [h]

set_option maxHeartbeats 400000 in
theorem role_any (r : Int) (w : World) (h0 : 0 ≤ r) (h1 : r ≤ 255) :
    Calls Yba.prog 9 #[.int .u8 r] w fun e w' => e = .returned (.string (roleOf r)) ∧ w' = w := by
  go_enter Yba.func9, Yba.ntmps9
  go_wp2
  all_goals go_ret
  · exact ⟨ret_str (role_0 ‹_›), rfl⟩
  · exact ⟨ret_str (role_1 ‹_›), rfl⟩
  · exact ⟨ret_str (role_2 ‹_›), rfl⟩
  · exact ⟨ret_str (role_3 ‹_›), rfl⟩
  · exact ⟨ret_str (role_4 ‹_› ‹_› ‹_› ‹_›), rfl⟩

theorem vote_t {s : ByteArray} {sh br : Int} (h : (s.toList == [116, 114, 101, 97, 115, 117, 114, 121]) = true) : voteOf s sh br = 0 := by
  unfold voteOf isT; rw [if_pos h]
theorem vote_f {s : ByteArray} {sh br : Int} (h : (s.toList == [116, 114, 101, 97, 115, 117, 114, 121]) = false) : voteOf s sh br = wrap64 (sh - br) := by
  unfold voteOf isT; rw [if_neg (by rw [h]; decide)]

set_option maxHeartbeats 400000 in
theorem vote_any (a n s g : ByteArray) (sh br : Int) (w : World) :
    Calls Yba.prog 10 #[.agg #[.string a, .string n, .int .i64 sh, .string s, .int .i64 br, .string g]] w fun e w' => e = .returned (.int .i64 (voteOf s sh br)) ∧ Below w.heap.size w w' := by
  go_enter Yba.func10, Yba.ntmps10
  go_wp2
  all_goals go_ret
  · exact ⟨ret_int (vote_t ‹_›), (Below.refl _ _).alloc (Nat.le_refl _) _⟩
  · exact ⟨ret_int (vote_f ‹_›), (Below.refl _ _).alloc (Nat.le_refl _) _⟩
end Go.Proofs.Ybulkcwji
