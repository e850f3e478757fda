/-
  The contract of ZZDefaultCollation (number 11), over that of (Profile).defaultCollation (number 14): both only compute: the world stands. And the plain law on what they compute.
-/
import Derived.Test.Qxb6001406aRows
import Derived.Test.Qxb6001406aCollPlain
import Derived.WalkKit
import Derived.ProofKit
namespace Go.Proofs.Qxb6001406a.Coll
open Go.RowKit

def utf : List UInt8 := [117, 116, 102, 56, 109, 98, 52]
/-- the name of the modelled collation -/
def name : List UInt8 := [117, 116, 102, 56, 109, 98, 52, 95, 48, 57, 48, 48, 95, 97, 105, 95, 99, 105]
/-- what the classic profile says of no character set -/
def server : List UInt8 := [116, 104, 101, 32, 115, 101, 114, 118, 101, 114, 39, 115, 32, 100, 101, 102, 97, 117, 108, 116, 44,
  32, 119, 104, 105, 99, 104, 32, 116, 104, 101, 32, 99, 108, 97, 115, 115, 105,
  99, 32, 112, 114, 111, 102, 105, 108, 101, 32, 99, 97, 110, 110, 111, 116, 32, 107, 110, 111, 119,
  32, 102, 114, 111, 109, 32, 116, 104, 101, 32, 115, 99, 101, 110, 97, 114, 105, 111]
/-- what the classic profile says of utf8mb4 -/
def general : List UInt8 := [117, 116, 102, 56, 109, 98, 52, 95, 103, 101, 110, 101, 114, 97, 108, 95, 99, 105, 44, 32, 116, 104,
  101, 32, 100, 101, 102, 97, 117, 108, 116, 32, 111, 102, 32, 99, 104, 97, 114,
  97, 99, 116, 101, 114, 32, 115, 101, 116, 32, 117, 116, 102, 56, 109, 98, 52, 32, 105, 110, 32,
  116, 104, 101, 32, 99, 108, 97, 115, 115, 105, 99, 32, 112, 114, 111, 102, 105, 108, 101]
/-- what stands ahead of another character set -/
def ahead : List UInt8 := [116, 104, 101, 32, 100, 101, 102, 97, 117, 108, 116, 32, 111, 102, 32, 99, 104, 97, 114, 97, 99,
  116, 101, 114, 32, 115, 101, 116, 32]

/-- What defaultCollation hands back. -/
def col (p : Int) (c : ByteArray) : ByteArray :=
  if c.toList = [] then (if p = 0 then ⟨name.toArray⟩ else ⟨server.toArray⟩)
  else if c.toList = utf then (if p = 0 then ⟨name.toArray⟩ else ⟨general.toArray⟩)
  else ⟨ahead.toArray⟩ ++ c

set_option maxHeartbeats 400000 in
theorem coll14 (p : Int) (c : ByteArray) (w : World) (hs : (c.size : Int) ≤ 1048576) :
    Calls Try.prog 14 #[.int .i64 p, .string c] w fun e w' => e = .returned (.string (col p c)) ∧ w' = w := by
  by_cases h1 : c.toList = []
  · by_cases hp : p = 0
    · have e : col p c = ⟨name.toArray⟩ := by unfold col; rw [if_pos h1, if_pos hp]
      rw [e]; clear e
      obtain rfl := Coll.eq_of_toList h1
      clear h1
      subst hp
      go_enter Try.func14, Try.ntmps14
      go_wp2
      go_ret
      exact ⟨rfl, rfl⟩
    · have e : col p c = ⟨server.toArray⟩ := by unfold col; rw [if_pos h1, if_neg hp]
      rw [e]; clear e
      obtain rfl := Coll.eq_of_toList h1
      clear h1
      have hp' : (p == 0) = false := by simpa using hp
      go_enter Try.func14, Try.ntmps14
      go_wp2
      go_ret
      exact ⟨rfl, rfl⟩
  by_cases h2 : c.toList = utf
  · by_cases hp : p = 0
    · have e : col p c = ⟨name.toArray⟩ := by unfold col; rw [if_neg h1, if_pos h2, if_pos hp]
      rw [e]; clear e
      obtain rfl := Coll.eq_of_toList h2
      clear h1 h2
      subst hp
      unfold utf
      go_enter Try.func14, Try.ntmps14
      go_wp2
      go_ret
      exact ⟨rfl, rfl⟩
    · have e : col p c = ⟨general.toArray⟩ := by unfold col; rw [if_neg h1, if_pos h2, if_neg hp]
      rw [e]; clear e
      obtain rfl := Coll.eq_of_toList h2
      clear h1 h2
      have hp' : (p == 0) = false := by simpa using hp
      unfold utf
      go_enter Try.func14, Try.ntmps14
      go_wp2
      go_ret
      exact ⟨rfl, rfl⟩
  have e : col p c = ⟨ahead.toArray⟩ ++ c := by
    unfold col; rw [if_neg h1, if_neg h2]
  rw [e]; clear e
  unfold utf at h2
  have h1' : c.toList.isEmpty = false := by simpa using h1
  have h2' : (c.toList == [117, 116, 102, 56, 109, 98, 52]) = false := by simpa using h2
  go_enter Try.func14, Try.ntmps14
  go_wp2
  go_ret
  exact ⟨rfl, rfl⟩

theorem coll11 (p : Int) (c : ByteArray) (w : World) (hs : (c.size : Int) ≤ 1048576) :
    Calls Try.prog 11 #[.int .i64 p, .string c] w fun e w' => e = .returned (.string (col p c)) ∧ w' = w := by
  go_enter Try.func11, Try.ntmps11
  go_wp2_with fail
  refine (coll14 p c _ hs).mono ?_
  rintro e w' ⟨rfl, rfl⟩
  go_wp2_with fail
  go_ret
  exact ⟨rfl, rfl⟩

/-! ### The plain law -/
theorem ahead_apart (c : ByteArray) : ¬ ((⟨ahead.toArray⟩ : ByteArray) ++ c).toList = name ∧ ¬ ((⟨ahead.toArray⟩ : ByteArray) ++ c).toList = server ∧ ¬ ((⟨ahead.toArray⟩ : ByteArray) ++ c).toList = general := by
  rw [toList_append, ByteArray.toList_mk ahead]
  unfold ahead name server general
  simp

/-- Two character sets with one answer: one and the same, or the empty one and utf8mb4 under Current. -/
theorem col_alike (p : Int) (c d : ByteArray) (hcd : ¬ c.toList = d.toList) (h : (col p c).toList = (col p d).toList) :
    p = 0 ∧ ((c.toList = [] ∧ d.toList = utf) ∨ (c.toList = utf ∧ d.toList = [])) := by
  have hn : (⟨name.toArray⟩ : ByteArray).toList = name := ByteArray.toList_mk name
  have hs : (⟨server.toArray⟩ : ByteArray).toList = server := ByteArray.toList_mk server
  have hg : (⟨general.toArray⟩ : ByteArray).toList = general := ByteArray.toList_mk general
  have ac := ahead_apart c
  have ad := ahead_apart d
  have sg : ¬ server = general := by decide
  unfold col at h
  by_cases c1 : c.toList = []
  · rw [if_pos c1] at h
    by_cases d1 : d.toList = []
    · exact absurd (c1.trans d1.symm) hcd
    rw [if_neg d1] at h
    by_cases d2 : d.toList = utf
    · rw [if_pos d2] at h
      by_cases hp : p = 0
      · exact ⟨hp, Or.inl ⟨c1, d2⟩⟩
      · rw [if_neg hp, if_neg hp, hs, hg] at h
        exact absurd h sg
    · rw [if_neg d2] at h
      by_cases hp : p = 0
      · rw [if_pos hp, hn] at h; exact absurd h.symm ad.1
      · rw [if_neg hp, hs] at h; exact absurd h.symm ad.2.1
  rw [if_neg c1] at h
  by_cases c2 : c.toList = utf
  · rw [if_pos c2] at h
    by_cases d1 : d.toList = []
    · rw [if_pos d1] at h
      by_cases hp : p = 0
      · exact ⟨hp, Or.inr ⟨c2, d1⟩⟩
      · rw [if_neg hp, if_neg hp, hs, hg] at h
        exact absurd h.symm sg
    rw [if_neg d1] at h
    by_cases d2 : d.toList = utf
    · exact absurd (c2.trans d2.symm) hcd
    rw [if_neg d2] at h
    by_cases hp : p = 0
    · rw [if_pos hp, hn] at h; exact absurd h.symm ad.1
    · rw [if_neg hp, hg] at h; exact absurd h.symm ad.2.2
  rw [if_neg c2] at h
  by_cases d1 : d.toList = []
  · rw [if_pos d1] at h
    by_cases hp : p = 0
    · rw [if_pos hp, hn] at h; exact absurd h ac.1
    · rw [if_neg hp, hs] at h; exact absurd h ac.2.1
  rw [if_neg d1] at h
  by_cases d2 : d.toList = utf
  · rw [if_pos d2] at h
    by_cases hp : p = 0
    · rw [if_pos hp, hn] at h; exact absurd h ac.1
    · rw [if_neg hp, hg] at h; exact absurd h ac.2.2
  rw [if_neg d2, toList_append, toList_append] at h
  exact absurd (List.append_cancel_left h) hcd

end Go.Proofs.Qxb6001406a.Coll
