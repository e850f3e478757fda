/-
  zzAt (number 25) and zzOneWindow (number 19): contracts. Both only read (their tests draw an order): the world behind the call is the world before it with some draws made.
-/
import Derived.Test.Qxb6000761aRows
import Derived.WalkKit
import Derived.ProofKit
import Derived.Deep.QuietTactic
import Derived.BigQuiet
import Derived.Deep.CutRange
import Derived.Deep.CutBlock
import Derived.Deep.DeepCutAuto
namespace Go.Proofs.Qxb6000761a.Window
open Go.RowKit

/-- 'wd' stands in 's' at offset p. -/
def At (s : ByteArray) (p : Nat) (wd : ByteArray) : Prop := ∀ k : Nat, k < wd.size → s[p + k]? = wd[k]?

theorem byte_eq {s t : ByteArray} {i j : Nat} (hi : i < s.size) (hj : j < t.size) (h : s[i]? = t[j]?) : s[i] = t[j] := by
  rw [ByteArray.getElem?_lt' s i hi, ByteArray.getElem?_lt' t j hj] at h
  exact Option.some.inj h

theorem at_no {s wd : ByteArray} {p k : Nat} (hk : k < wd.size) (hpk : p + k < s.size)
    (hne : ((s[p + k].toNat : Int) != (wd[k].toNat : Int)) = true) (h : At s p wd) : false = true := by
  rw [byte_eq hpk hk (h k hk)] at hne
  simp at hne

set_option maxHeartbeats 400000 in
theorem at_any (s wd : ByteArray) (p : Nat) (w : World) (hs : (s.size : Int) ≤ 100000000) (hp : (p : Int) + (wd.size : Int) ≤ (s.size : Int)) :
    Calls Try.prog 25 #[.string s, .int .i64 p, .string wd] w fun e w' => ∃ b : Bool, e = .returned (.bool b) ∧ (∃ n, w' = w.drewN n) ∧ (At s p wd → b = true) := by
  go_enter Try.func25, Try.ntmps25
  go_wp2
  go_loopw [7] (fun i wr => ∃ k n : Nat, k ≤ wd.size ∧ i = .int .i64 k ∧ wr = w.drewN n) (fun i _ => wd.size - (intOf i).toNat)
  case atStart => exact ⟨0, 0, Nat.zero_le _, rfl, rfl⟩
  case round =>
    obtain ⟨k, n, hk, rfl, rfl⟩ := hrel
    by_cases hlt : k < wd.size
    · have h1 : (k : Int) < (wd.size : Int) := by omega
      have h2 : (p : Int) + (k : Int) < (s.size : Int) := by omega
      have h3 : (0 : Int) ≤ (p : Int) + (k : Int) := by omega
      go_wp2
      go_quiet (fail)
      go_wp2
      · go_ret
        exact ⟨false, rfl, ⟨n + nq, World.drewN_drewN ..⟩, at_no hlt (by omega) ‹_›⟩
      · go_roundw
        case rel => exact ⟨k + 1, n + nq, by omega, by go_num, rfl⟩
        case measure => simp [intOf]; omega
    · go_wp2
      go_ret
      exact ⟨true, rfl, ⟨_, rfl⟩, fun _ => rfl⟩

/-- The first n bytes of x and y agree. -/
def Pre (x y : ByteArray) (n : Nat) : Prop := ∀ i : Nat, i < n → x[i]? = y[i]?
/-- The last n bytes of x and y agree. -/
def Suf (x y : ByteArray) (n : Nat) : Prop := ∀ i : Nat, i < n → x[x.size - 1 - i]? = y[y.size - 1 - i]?

theorem pre_stop {x y : ByteArray} {n k : Nat} (h : Pre x y n) (hx : k < x.size) (hy : k < y.size)
    (hne : ((x[k].toNat : Int) == (y[k].toNat : Int)) = false) : n ≤ k := by
  by_cases hk : k < n
  · rw [byte_eq hx hy (h k hk)] at hne
    simp at hne
  · omega

theorem suf_stop {x y : ByteArray} {n k ix iy : Nat} (h : Suf x y n) (hix : (x.size : Int) - 1 - (k : Int) = (ix : Int))
    (hiy : (y.size : Int) - 1 - (k : Int) = (iy : Int)) (hx : ix < x.size) (hy : iy < y.size)
    (hne : ((x[ix].toNat : Int) == (y[iy].toNat : Int)) = false) : n ≤ k := by
  by_cases hk : k < n
  · obtain rfl : ix = x.size - 1 - k := by omega
    obtain rfl : iy = y.size - 1 - k := by omega
    rw [byte_eq hx hy (h k hk)] at hne
    simp at hne
  · omega

set_option maxHeartbeats 400000 in
theorem window_any (x y wx wy : ByteArray) (pn sn : Nat) (w : World) (hx : (x.size : Int) ≤ 100000000) (hy : (y.size : Int) ≤ 100000000)
    (hx1 : (wx.size : Int) ≤ (x.size : Int)) (hy1 : (wy.size : Int) ≤ (y.size : Int))
    (hm : ((x.size : Int) - (wx.size : Int) != (y.size : Int) - (wy.size : Int)) = false)
    (hge : (pn : Int) + (sn : Int) ≤ (x.size : Int) - (wx.size : Int)) (hle : (x.size : Int) - (wx.size : Int) ≤ (pn : Int) + (sn : Int))
    (hpre : Pre x y pn) (hsuf : Suf x y sn) (hax : At x pn wx) (hay : At y pn wy) :
    Calls Try.prog 19 #[.string x, .string y, .string wx, .string wy] w fun e w' => e = .returned (.bool true) ∧ ∃ n, w' = w.drewN n := by
  have hm' : (x.size : Int) - (wx.size : Int) ≤ (y.size : Int) - (wy.size : Int) := by simp at hm; omega
  have hq1 : ¬ x.size < wx.size := by omega
  have hq2 : ¬ y.size < wy.size := by omega
  go_enter Try.func19, Try.ntmps19
  go_upto_block 0 with fail
  clear hm
  go_cut [10] (fun l wr => ∃ k n : Nat, pn ≤ k ∧ (k : Int) ≤ (x.size : Int) - (wx.size : Int) ∧ l = .int .i64 k ∧ wr = w.drewN n)
  case first =>
    go_wp2_with fail
    go_loopw [10] (fun l wr => ∃ k n : Nat, (k : Int) ≤ (x.size : Int) - (wx.size : Int) ∧ l = .int .i64 k ∧ wr = w.drewN n) (fun l _ => x.size - (intOf l).toNat)
    case atStart => exact ⟨0, 0, by omega, rfl, rfl⟩
    case round =>
      obtain ⟨k, n, hk, rfl, rfl⟩ := hrel
      by_cases hlt : (k : Int) < (x.size : Int) - (wx.size : Int)
      · have h1 : (k : Int) < (x.size : Int) := by omega
        have h2 : (k : Int) < (y.size : Int) := by omega
        go_wp2_with fail
        go_quiet (fail)
        go_wp2_with fail
        · go_roundw
          case rel => exact ⟨k + 1, n + nq, by omega, by go_num, rfl⟩
          case measure => simp [intOf]; omega
        · go_meet
          case rel => exact ⟨k, n + nq, pre_stop hpre (by omega) (by omega) ‹_›, by omega, rfl, World.drewN_drewN ..⟩
      · have hd : decide ((k : Int) < (x.size : Int) - (wx.size : Int)) = false := by simpa using hlt
        go_wp2_with fail
        go_quiet (fail)
        go_wp2_with fail
        go_meet
        case rel => exact ⟨k, n + nq, by omega, by omega, rfl, World.drewN_drewN ..⟩
  case rest =>
    obtain ⟨l, n1, hl1, hl2, rfl, rfl⟩ := hcut
    clear hpre
    go_upto_block 2 with fail
    go_cut [11] (fun r wr => ∃ k n : Nat, sn ≤ k ∧ (k : Int) ≤ (x.size : Int) - (wx.size : Int) ∧ r = .int .i64 k ∧ wr = w.drewN n)
    case first =>
      go_wp2_with fail
      go_loopw [11] (fun r wr => ∃ k n : Nat, (k : Int) ≤ (x.size : Int) - (wx.size : Int) ∧ r = .int .i64 k ∧ wr = w.drewN n) (fun r _ => x.size - (intOf r).toNat)
      case atStart => exact ⟨0, n1, by omega, rfl, rfl⟩
      case round =>
        obtain ⟨k, n, hk, rfl, rfl⟩ := hrel
        by_cases hlt : (k : Int) < (x.size : Int) - (wx.size : Int)
        · obtain ⟨ix, hix⟩ : ∃ ix : Nat, (x.size : Int) - 1 - (k : Int) = (ix : Int) := ⟨x.size - 1 - k, by omega⟩
          obtain ⟨iy, hiy⟩ : ∃ iy : Nat, (y.size : Int) - 1 - (k : Int) = (iy : Int) := ⟨y.size - 1 - k, by omega⟩
          have h1 : (ix : Int) < (x.size : Int) := by omega
          have h2 : (iy : Int) < (y.size : Int) := by omega
          go_wp2_with fail
          go_quiet (fail)
          go_wp2_with fail
          · go_roundw
            case rel => exact ⟨k + 1, n + nq, by omega, by go_num, rfl⟩
            case measure => simp [intOf]; omega
          · go_meet
            case rel => exact ⟨k, n + nq, suf_stop hsuf hix hiy (by omega) (by omega) ‹_›, by omega, rfl, World.drewN_drewN ..⟩
        · have hd : decide ((k : Int) < (x.size : Int) - (wx.size : Int)) = false := by simpa using hlt
          go_wp2_with fail
          go_quiet (fail)
          go_wp2_with fail
          go_meet
          case rel => exact ⟨k, n + nq, by omega, by omega, rfl, World.drewN_drewN ..⟩
    case rest =>
      obtain ⟨r, n2, hr1, hr2, rfl, rfl⟩ := hcut
      clear hsuf
      go_wp2_with fail
      go_loopw [12] (fun p wr => ∃ q n : Nat, q ≤ pn ∧ p = .int .i64 q ∧ wr = w.drewN n) (fun p _ => pn + 1 - (intOf p).toNat)
      case atStart => exact ⟨x.size - wx.size - r, n2, by omega, by go_num, rfl⟩
      case round =>
        obtain ⟨q, n, hq, rfl, rfl⟩ := hrel
        have hql : (q : Int) ≤ (l : Int) := by omega
        go_wp2_with fail
        refine (at_any x wx q _ hx (by omega)).mono ?_
        rintro e w' ⟨b, rfl, ⟨n3, rfl⟩, hb⟩
        have hb' : q = pn → b = true := fun h => hb (h ▸ hax)
        clear hb
        cases b
        · have hlt : q < pn := by
            by_cases h : q = pn
            · exact absurd (hb' h) (by decide)
            · omega
          clear hb'
          go_wp2_with fail
          go_roundw
          case rel => exact ⟨q + 1, n + n3, by omega, by go_num, rfl⟩
          case measure => simp [intOf]; omega
        · clear hb'
          go_wp2_with fail
          refine (at_any y wy q _ hy (by omega)).mono ?_
          rintro e w' ⟨b, rfl, ⟨n4, rfl⟩, hb⟩
          have hb' : q = pn → b = true := fun h => hb (h ▸ hay)
          clear hb
          cases b
          · have hlt : q < pn := by
              by_cases h : q = pn
              · exact absurd (hb' h) (by decide)
              · omega
            clear hb'
            go_wp2_with fail
            go_roundw
            case rel => exact ⟨q + 1, n + n3 + n4, by omega, by go_num, rfl⟩
            case measure => simp [intOf]; omega
          · clear hb'
            go_wp2_with fail
            go_ret
            exact ⟨rfl, n + n3 + n4, by simp⟩

/-! ### Two texts of one frame -/
theorem byte_append (a b : ByteArray) (i : Nat) : (a ++ b)[i]? = if i < a.size then a[i]? else b[i - a.size]? := by
  have e : ∀ (s : ByteArray) (j : Nat), s[j]? = s.data[j]? := by
    intro s j
    by_cases h : j < s.size
    · rw [ByteArray.getElem?_lt' s j h]
      have h' : j < s.data.size := h
      rw [Array.getElem?_eq_getElem h']
      rfl
    · rw [ByteArray.getElem?_ge' s j h]
      have h' : ¬ j < s.data.size := h
      rw [Array.getElem?_eq_none (by omega)]
  rw [e, e, e, ByteArray.data_append, Array.getElem?_append]
  rfl

theorem pre_frame (P S wx wy : ByteArray) : Pre (P ++ (wx ++ S)) (P ++ (wy ++ S)) P.size := by
  intro i hi
  rw [byte_append P (wx ++ S), if_pos hi, byte_append P (wy ++ S), if_pos hi]

theorem at_frame (P S wx : ByteArray) : At (P ++ (wx ++ S)) P.size wx := by
  intro k hk
  rw [byte_append, if_neg (by omega), byte_append]
  have e : P.size + k - P.size = k := by omega
  rw [e, if_pos hk]

theorem suf_frame (P S wx wy : ByteArray) : Suf (P ++ (wx ++ S)) (P ++ (wy ++ S)) S.size := by
  intro i hi
  have hx : (P ++ (wx ++ S)).size = P.size + (wx.size + S.size) := by simp only [ByteArray.size_append]
  have hy : (P ++ (wy ++ S)).size = P.size + (wy.size + S.size) := by simp only [ByteArray.size_append]
  rw [hx, hy, byte_append P (wx ++ S), if_neg (by omega), byte_append P (wy ++ S), if_neg (by omega), byte_append wx S, if_neg (by omega), byte_append wy S, if_neg (by omega)]
  congr 1
  omega

/-- zzOneWindow answers true of one frame with a window each. -/
theorem window_frame (P S wx wy x y : ByteArray) (w : World) (ex : P ++ (wx ++ S) = x) (ey : P ++ (wy ++ S) = y)
    (hx : (x.size : Int) ≤ 100000000) (hy : (y.size : Int) ≤ 100000000) :
    Calls Try.prog 19 #[.string x, .string y, .string wx, .string wy] w fun e w' => e = .returned (.bool true) ∧ ∃ n, w' = w.drewN n := by
  have sx : x.size = P.size + (wx.size + S.size) := by rw [← ex]; simp only [ByteArray.size_append]
  have sy : y.size = P.size + (wy.size + S.size) := by rw [← ey]; simp only [ByteArray.size_append]
  refine window_any x y wx wy P.size S.size w hx hy (by omega) (by omega) ?_ (by omega) (by omega) ?_ ?_ ?_ ?_
  · have e : (x.size : Int) - (wx.size : Int) = (y.size : Int) - (wy.size : Int) := by omega
    rw [e]; simp
  · rw [← ex, ← ey]; exact pre_frame P S wx wy
  · rw [← ex, ← ey]; exact suf_frame P S wx wy
  · rw [← ex]; exact at_frame P S wx
  · rw [← ey]; exact at_frame P S wy

end Go.Proofs.Qxb6000761a.Window
