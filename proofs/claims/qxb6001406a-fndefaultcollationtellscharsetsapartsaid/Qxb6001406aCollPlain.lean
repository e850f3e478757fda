/-
  Plain facts on byte arrays for the two laws on defaultCollation: no Go in sight.
-/
import Derived.WalkKit
import Derived.ProofKit
namespace Go.Proofs.Qxb6001406a.Coll

theorem toList_inj {a b : ByteArray} (h : a.toList = b.toList) : a = b := by
  rw [ByteArray.toList_eq, ByteArray.toList_eq] at h
  cases a; cases b
  simpa using h

theorem eq_of_toList {c : ByteArray} {l : List UInt8} (h : c.toList = l) : c = ⟨l.toArray⟩ :=
  toList_inj (h.trans (ByteArray.toList_mk l).symm)

theorem toList_append (a b : ByteArray) : (a ++ b).toList = a.toList ++ b.toList := by
  simp [ByteArray.toList_eq]

/-- A text that opens with a 't' is none that opens with a 'u'. -/
theorem head_apart (l : List UInt8) (c : ByteArray) (m : List UInt8) (x y : UInt8) (h : ¬ x = y) :
    (((⟨(x :: l).toArray⟩ : ByteArray) ++ c).toList == (y :: m)) = false := by
  rw [toList_append, ByteArray.toList_mk (x :: l)]
  simp [h]

end Go.Proofs.Qxb6001406a.Coll
