/-
  Contracts of claimableLooksSQL (number 24), its door ZZclaimableLooksSQL (17), floorClaimSQL (26) and its door ZZfloorClaimSQL (22): each hands back a text that is laid together out of constants and its two arguments; the world stands.
  THE CONSTANTS ARE NAMED, NOT WRITTEN OUT: 'text f i' reads the constant of operation i off the program's own function; ahead of the walk each literal is exchanged for its name, so that no step of the walk runs through thousands of bytes.
-/
import Derived.Test.Qxb6000761aRows
import Derived.WalkKit
import Derived.ProofKit
namespace Go.Proofs.Qxb6000761a.Looks
open Go.RowKit

/-- The text that an addition of strings bears as a constant. -/
def opText : Op → ByteArray
  | .binOp _ _ (.const (.string b)) _ _ => b
  | .binOp _ _ _ (.const (.string b)) _ => b
  | _ => ByteArray.empty
/-- The constant text of operation i of a function's second statement. -/
def text (f : Func) (i : Nat) : ByteArray :=
  match f.body with
  | some (.seq _ (.seq (.region _ ops _) _)) => (ops[i]?.map fun o => opText o.op).getD ByteArray.empty
  | _ => ByteArray.empty

theorem size24_1 : (text Try.f24 1).size ≤ 100000 := by decide +kernel
theorem size24_2 : (text Try.f24 2).size ≤ 100000 := by decide +kernel
theorem size24_3 : (text Try.f24 3).size ≤ 100000 := by decide +kernel
theorem size24_4 : (text Try.f24 4).size ≤ 100000 := by decide +kernel
theorem size24_7 : (text Try.f24 7).size ≤ 100000 := by decide +kernel
theorem size26_3 : (text Try.f26 3).size ≤ 100000 := by decide +kernel
theorem size26_4 : (text Try.f26 4).size ≤ 100000 := by decide +kernel
theorem size26_5 : (text Try.f26 5).size ≤ 100000 := by decide +kernel
theorem size26_6 : (text Try.f26 6).size ≤ 100000 := by decide +kernel

/-- What stands ahead of awaited, between awaited and judged, and behind judged (f: claimableLooksSQL). -/
def ahead (f : Func) : ByteArray := text f 1
def mid (f : Func) : ByteArray := text f 2 ++ text f 3 ++ text f 4
def behind (f : Func) : ByteArray := text f 7
/-- What claimableLooksSQL hands back. -/
def looks (f : Func) (j a : ByteArray) : ByteArray := ahead f ++ (a ++ (mid f ++ (j ++ behind f)))

/-- What stands ahead of the looks in floorClaimSQL's text, and behind them (g: floorClaimSQL). -/
def head (g : Func) : ByteArray := text g 3
def tail (g : Func) : ByteArray := text g 4 ++ text g 5 ++ text g 6
/-- What floorClaimSQL hands back. -/
def floor (g f : Func) (j a : ByteArray) : ByteArray := head g ++ (looks f j a ++ tail g)

theorem looks_size (j a : ByteArray) : (looks Try.f24 j a).size = (ahead Try.f24).size + a.size + (mid Try.f24).size + j.size + (behind Try.f24).size := by
  unfold looks
  simp only [ByteArray.size_append]
  omega

theorem looks_le (j a : ByteArray) : (looks Try.f24 j a).size ≤ a.size + j.size + 500000 := by
  rw [looks_size]
  unfold ahead mid behind
  simp only [ByteArray.size_append]
  have s1 := size24_1
  have s2 := size24_2
  have s3 := size24_3
  have s4 := size24_4
  have s7 := size24_7
  omega

theorem floor_size (j a : ByteArray) : (floor Try.f26 Try.f24 j a).size = (head Try.f26).size + (looks Try.f24 j a).size + (tail Try.f26).size := by
  unfold floor
  simp only [ByteArray.size_append]
  omega

theorem floor_le (j a : ByteArray) : (floor Try.f26 Try.f24 j a).size ≤ a.size + j.size + 900000 := by
  have h := looks_le j a
  rw [floor_size]
  unfold head tail
  simp only [ByteArray.size_append]
  have s3 := size26_3
  have s4 := size26_4
  have s5 := size26_5
  have s6 := size26_6
  omega

theorem looks_laid (j a : ByteArray) : text Try.f24 1 ++ a ++ text Try.f24 2 ++ text Try.f24 3 ++ text Try.f24 4 ++ j ++ text Try.f24 7 = looks Try.f24 j a := by
  unfold looks ahead mid behind
  simp only [ByteArray.append_assoc]

theorem floor_laid (j a : ByteArray) : text Try.f26 3 ++ looks Try.f24 j a ++ text Try.f26 4 ++ text Try.f26 5 ++ text Try.f26 6 = floor Try.f26 Try.f24 j a := by
  unfold floor head tail
  simp only [ByteArray.append_assoc]

set_option maxHeartbeats 400000 in
theorem looks24_raw (j a : ByteArray) (w : World) (hj : (j.size : Int) ≤ 1048576) (ha : (a.size : Int) ≤ 1048576) :
    Calls Try.prog 24 #[.string j, .string a] w fun e w' => e = .returned (.string (text Try.f24 1 ++ a ++ text Try.f24 2 ++ text Try.f24 3 ++ text Try.f24 4 ++ j ++ text Try.f24 7)) ∧ w' = w := by
  have s1 := size24_1
  have s2 := size24_2
  have s3 := size24_3
  have s4 := size24_4
  have s7 := size24_7
  go_enter Try.func24, Try.ntmps24
  conv in (occs := 2) (ByteArray.mk _) => change text Try.f24 1
  conv in (occs := 2) (ByteArray.mk _) => change text Try.f24 2
  conv in (occs := 2) (ByteArray.mk _) => change text Try.f24 3
  conv in (occs := 2) (ByteArray.mk _) => change text Try.f24 4
  conv in (occs := 2) (ByteArray.mk _) => change text Try.f24 7
  go_wp2
  go_ret
  exact ⟨rfl, rfl⟩

theorem looks24 (j a : ByteArray) (w : World) (hj : (j.size : Int) ≤ 1048576) (ha : (a.size : Int) ≤ 1048576) :
    Calls Try.prog 24 #[.string j, .string a] w fun e w' => e = .returned (.string (looks Try.f24 j a)) ∧ w' = w := by
  rw [← looks_laid]
  exact looks24_raw j a w hj ha

theorem looks17 (j a : ByteArray) (w : World) (hj : (j.size : Int) ≤ 1048576) (ha : (a.size : Int) ≤ 1048576) :
    Calls Try.prog 17 #[.string j, .string a] w fun e w' => e = .returned (.string (looks Try.f24 j a)) ∧ w' = w := by
  go_enter Try.func17, Try.ntmps17
  go_wp2_with fail
  refine (looks24 j a _ hj ha).mono ?_
  rintro e w' ⟨rfl, rfl⟩
  go_wp2_with fail
  go_ret
  exact ⟨rfl, rfl⟩

set_option maxHeartbeats 400000 in
theorem floor26 (j a : ByteArray) (w : World) (hj : (j.size : Int) ≤ 1048576) (ha : (a.size : Int) ≤ 1048576) :
    Calls Try.prog 26 #[.string j, .string a] w fun e w' => e = .returned (.string (floor Try.f26 Try.f24 j a)) ∧ w' = w := by
  rw [← floor_laid]
  have s3 := size26_3
  have s4 := size26_4
  have s5 := size26_5
  have s6 := size26_6
  have hl := looks_le j a
  go_enter Try.func26, Try.ntmps26
  conv in (occs := 2) (ByteArray.mk _) => change text Try.f26 3
  conv in (occs := 2) (ByteArray.mk _) => change text Try.f26 4
  conv in (occs := 2) (ByteArray.mk _) => change text Try.f26 5
  conv in (occs := 2) (ByteArray.mk _) => change text Try.f26 6
  go_wp2_with fail
  refine (looks24 j a _ hj ha).mono ?_
  rintro e w' ⟨rfl, rfl⟩
  go_wp2_with fail
  go_ret
  exact ⟨rfl, rfl⟩

theorem floor22 (j a : ByteArray) (w : World) (hj : (j.size : Int) ≤ 1048576) (ha : (a.size : Int) ≤ 1048576) :
    Calls Try.prog 22 #[.string j, .string a] w fun e w' => e = .returned (.string (floor Try.f26 Try.f24 j a)) ∧ w' = w := by
  go_enter Try.func22, Try.ntmps22
  go_wp2_with fail
  refine (floor26 j a _ hj ha).mono ?_
  rintro e w' ⟨rfl, rfl⟩
  go_wp2_with fail
  go_ret
  exact ⟨rfl, rfl⟩

end Go.Proofs.Qxb6000761a.Looks
