/-
  Contracts of the two functions that both laws on (Outcome).String go through: (Outcome).String (number 8) and isNamedOutcomeEngineB1 (number 9). Each only computes: the world stands.
-/
import Derived.Test.Qxb6001406aRows
import Derived.WalkKit
import Derived.ProofKit
namespace Go.Proofs.Qxb6001406a.Outcome
open Go.RowKit

/-- What (Outcome).String hands back, its bytes written out. -/
def nm (a : Int) : ByteArray :=
  if a = 1 then ⟨#[111, 107]⟩
  else if a = 2 then ⟨#[119, 97, 105, 116, 115]⟩
  else if a = 3 then ⟨#[114, 101, 115, 117, 109, 101, 100]⟩
  else if a = 4 then ⟨#[100, 101, 97, 100, 108, 111, 99, 107]⟩
  else if a = 5 then ⟨#[101, 114, 114, 111, 114, 32, 100, 117, 112, 108, 105, 99, 97, 116, 101, 45, 107, 101, 121]⟩
  else ⟨#[117, 110, 107, 110, 111, 119, 110]⟩

/-- Is the outcome one of the five named ones? -/
def namedB (a : Int) : Bool := decide (1 ≤ a ∧ a ≤ 5)

set_option maxHeartbeats 400000 in
theorem string_any (a : Int) (w : World) :
    Calls Try.prog 8 #[.int .i64 a] w fun e w' => e = .returned (.string (nm a)) ∧ w' = w := by
  unfold nm
  by_cases h1 : a = 1
  · subst h1; go_enter Try.func8, Try.ntmps8; go_wp2; go_ret; exact ⟨rfl, rfl⟩
  by_cases h2 : a = 2
  · subst h2; go_enter Try.func8, Try.ntmps8; go_wp2; go_ret; exact ⟨rfl, rfl⟩
  by_cases h3 : a = 3
  · subst h3; go_enter Try.func8, Try.ntmps8; go_wp2; go_ret; exact ⟨rfl, rfl⟩
  by_cases h4 : a = 4
  · subst h4; go_enter Try.func8, Try.ntmps8; go_wp2; go_ret; exact ⟨rfl, rfl⟩
  by_cases h5 : a = 5
  · subst h5; go_enter Try.func8, Try.ntmps8; go_wp2; go_ret; exact ⟨rfl, rfl⟩
  rw [if_neg h1, if_neg h2, if_neg h3, if_neg h4, if_neg h5]
  go_enter Try.func8, Try.ntmps8
  go_wp2
  go_ret
  exact ⟨rfl, rfl⟩

set_option maxHeartbeats 400000 in
theorem named_any (a : Int) (w : World) :
    Calls Try.prog 9 #[.int .i64 a] w fun e w' => e = .returned (.bool (namedB a)) ∧ w' = w := by
  by_cases h1 : 1 ≤ a
  · by_cases h2 : a ≤ 5
    · have hb : namedB a = true := by unfold namedB; simp [h1, h2]
      rw [hb]; clear hb
      go_enter Try.func9, Try.ntmps9; go_wp2; go_ret; exact ⟨rfl, rfl⟩
    · have hb : namedB a = false := by unfold namedB; simp [h2]
      rw [hb]; clear hb
      go_enter Try.func9, Try.ntmps9; go_wp2; go_ret; exact ⟨rfl, rfl⟩
  · have hb : namedB a = false := by unfold namedB; simp [h1]
    rw [hb]; clear hb
    go_enter Try.func9, Try.ntmps9; go_wp2; go_ret; exact ⟨rfl, rfl⟩

theorem named_no (a : Int) (w : World) (h : namedB a = false) :
    Calls Try.prog 9 #[.int .i64 a] w fun e w' => e = .returned (.bool false) ∧ w' = w := by
  have := named_any a w
  rw [h] at this
  exact this

/-! ### The plain law: no Go in sight -/
/-- The place of an outcome's text: 1 to 5 for the named ones, 0 for the rest. -/
def key (a : Int) : Nat :=
  if a = 1 then 1 else if a = 2 then 2 else if a = 3 then 3 else if a = 4 then 4 else if a = 5 then 5 else 0

theorem nm_key (a : Int) : nm a = nm (key a : Int) := by
  unfold key nm
  by_cases h1 : a = 1
  · simp [h1]
  by_cases h2 : a = 2
  · simp [h2]
  by_cases h3 : a = 3
  · simp [h3]
  by_cases h4 : a = 4
  · simp [h4]
  by_cases h5 : a = 5
  · simp [h5]
  simp [h1, h2, h3, h4, h5]

theorem key_lt (a : Int) : key a < 6 := by
  unfold key
  repeat (first | omega | split)

theorem table : ∀ i : Fin 6, ∀ j : Fin 6, ((nm (i.val : Int)).toList == (nm (j.val : Int)).toList) = true → i = j := by
  decide +kernel

/-- Two outcomes that print alike are one, or neither is named. -/
theorem alike (a b : Int) (h : ((nm a).toList == (nm b).toList) = true) (hab : ¬ a = b) :
    namedB a = false ∧ namedB b = false := by
  rw [nm_key a, nm_key b] at h
  have e := table ⟨key a, key_lt a⟩ ⟨key b, key_lt b⟩ h
  have e' : key a = key b := congrArg Fin.val e
  have hk : ∀ x : Int, 1 ≤ x ∧ x ≤ 5 → (key x : Int) = x := by
    intro x hx
    unfold key
    repeat (first | omega | split)
  have hz : ∀ x : Int, ¬ (1 ≤ x ∧ x ≤ 5) → key x = 0 := by
    intro x hx
    unfold key
    repeat (first | omega | split)
  unfold namedB
  simp only [decide_eq_false_iff_not]
  refine ⟨fun ha => ?_, fun hb => ?_⟩
  · have h1 := hk a ha
    by_cases hb : 1 ≤ b ∧ b ≤ 5
    · have h2 := hk b hb; omega
    · have h2 := hz b hb; omega
  · have h1 := hk b hb
    by_cases ha : 1 ≤ a ∧ a ≤ 5
    · have h2 := hk a ha; omega
    · have h2 := hz a ha; omega

end Go.Proofs.Qxb6001406a.Outcome
