/-
  The contracts that both laws of seat b6615937a share: the text of a continuedError, and the plain laws on that text.
-/
import Derived.Test.Qxb6615937aRows
import Derived.WalkKit
import Derived.WalkLawsBesides
namespace Go.Proofs.Qxb6615937a
/-! ### THE PLAIN LAWS: no Go in sight -/
def hd : ByteArray := ⟨#[105, 116, 101, 114, 119, 101, 108, 108, 58, 32]⟩
def tl : ByteArray := ⟨#[58, 32, 115, 111, 117, 114, 99, 101, 32, 99, 97, 108, 108, 101, 100, 32, 121, 105, 101, 108, 100, 32, 97, 103, 97, 105, 110, 32, 97, 102, 116, 101, 114, 32, 105, 116, 32, 114, 101, 116, 117, 114, 110, 101, 100, 32, 102, 97, 108, 115, 101]⟩
def msg (s : ByteArray) : ByteArray := hd ++ s ++ tl
theorem hd_size : hd.size = 10 := by decide +kernel
theorem tl_size : tl.size = 51 := by decide +kernel
theorem msg_size (s : ByteArray) : (msg s).size = s.size + 61 := by
  simp [msg, ByteArray.size_append, hd_size, tl_size]; omega
theorem cut_head (a : ByteArray) : (msg a).extract 0 (10 + a.size) = hd ++ a := by
  unfold msg
  have h := hd_size
  rw [ByteArray.extract_append_eq_left]
  simp [ByteArray.size_append, h]
theorem cut_tail (a : ByteArray) : (msg a).extract (10 + a.size) (msg a).size = tl := by
  unfold msg
  have h := hd_size
  rw [ByteArray.extract_append_eq_right]
  · simp [ByteArray.size_append, h]
  · simp [ByteArray.size_append]
theorem join (a b : ByteArray) : msg (a ++ b) = hd ++ a ++ b ++ tl := by
  unfold msg; simp [ByteArray.append_assoc]
theorem inj (a b : ByteArray) (h : msg a = msg b) : a = b := by
  unfold msg at h
  rw [ByteArray.append_assoc, ByteArray.append_assoc] at h
  have h1 := (ByteArray.append_right_inj hd).1 h
  exact (ByteArray.append_left_inj tl).1 h1

/-! ### THE CONTRACTS -/
theorem err (s : ByteArray) (hs : s.size ≤ 1048576) (w : World) :
    Calls Try.prog 8 #[.string s] w fun e w' => e = .returned (.string (msg s)) ∧ w = w' := by
  go_enter Try.func8, Try.ntmps8
  go_wp2
  go_ret
  exact ⟨rfl, rfl⟩
theorem text (s : ByteArray) (hs : s.size ≤ 1048576) (w : World) :
    Calls Try.prog 6 #[.string s] w fun e w' => e = .returned (.string (msg s)) ∧ w = w' := by
  go_enter Try.func6, Try.ntmps6
  go_wp2_with fail
  refine (err s hs _).mono ?_
  rintro e w' ⟨rfl, rfl⟩
  go_wp2
  go_ret
  exact ⟨rfl, rfl⟩
end Go.Proofs.Qxb6615937a
