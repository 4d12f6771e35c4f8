import Derived.Test.Qxb6619408aRows
import Derived.WalkKit
import Derived.Deep.Light
import Derived.RowKit3
namespace Go.Proofs.Qxb6619408a
open Go.RowKit

/-! ### the plain functions -/
def isBool (k : ByteArray) : Bool := k.toList == [98, 111, 111, 108]
def isAn (k : ByteArray) : Bool := k.toList == [97, 114, 114, 97, 121] || k.toList == [111, 98, 106, 101, 99, 116]
def jv (k : ByteArray) : ByteArray :=
  if isBool k then ⟨#[116, 114, 117, 101, 32, 111, 114, 32, 102, 97, 108, 115, 101]⟩
  else if isAn k then ⟨#[97, 110, 32]⟩ ++ k else ⟨#[97, 32]⟩ ++ k
def isK (k : ByteArray) : Bool :=
  k.toList == [115, 116, 114, 105, 110, 103] || k.toList == [110, 117, 109, 98, 101, 114] || k.toList == [97, 114, 114, 97, 121] || k.toList == [111, 98, 106, 101, 99, 116] || k.toList == [110, 117, 108, 108]
def vow (c : Nat) : Bool := c == 97 || c == 101 || c == 105 || c == 111 || c == 117

theorem toList_add (a b : ByteArray) : (a ++ b).toList = a.toList ++ b.toList := by
  simp [ByteArray.toList_eq]
theorem ret_bool {x y : Bool} (h : x = y) : Ending.returned (.bool x) = .returned (.bool y) := by rw [h]
theorem ret_str {x y : ByteArray} (h : x = y) : Ending.returned (.string x) = .returned (.string y) := by rw [h]

theorem f11 (k : ByteArray) (w : World) (hk : k.size ≤ 4096) : Calls Try.prog 11 #[.string k] w fun e w' => e = .returned (.string (jv k)) ∧ w' = w := by
  cases h1 : k.toList == [98, 111, 111, 108]
  · cases h2 : k.toList == [97, 114, 114, 97, 121]
    · cases h3 : k.toList == [111, 98, 106, 101, 99, 116]
      · go_enter Try.func11, Try.ntmps11
        go_wp2
        go_ret
        exact ⟨ret_str (by unfold jv isBool isAn; rw [h1, h2, h3]; rfl), rfl⟩
      · go_enter Try.func11, Try.ntmps11
        go_wp2
        go_ret
        exact ⟨ret_str (by unfold jv isBool isAn; rw [h1, h2, h3]; rfl), rfl⟩
    · go_enter Try.func11, Try.ntmps11
      go_wp2
      go_ret
      exact ⟨ret_str (by unfold jv isBool isAn; rw [h1, h2]; rfl), rfl⟩
  · go_enter Try.func11, Try.ntmps11
    go_wp2
    go_ret
    exact ⟨ret_str (by unfold jv isBool; rw [h1]; rfl), rfl⟩
theorem f6 (k : ByteArray) (w : World) (hk : k.size ≤ 4096) : Calls Try.prog 6 #[.string k] w fun e w' => e = .returned (.string (jv k)) ∧ w' = w := by
  go_enter Try.func6, Try.ntmps6
  go_wp2_with (go_at_call 11; refine (f11 _ _ hk).mono ?_; rintro e wx ⟨rfl, rfl⟩)
  go_ret
  exact ⟨rfl, rfl⟩
theorem f12 (k : ByteArray) (w : World) : Calls Try.prog 12 #[.string k] w fun e w' => e = .returned (.bool (isK k)) ∧ w' = w := by
  cases h1 : k.toList == [115, 116, 114, 105, 110, 103]
  · cases h2 : k.toList == [110, 117, 109, 98, 101, 114]
    · cases h3 : k.toList == [97, 114, 114, 97, 121]
      · cases h4 : k.toList == [111, 98, 106, 101, 99, 116]
        · cases h5 : k.toList == [110, 117, 108, 108]
          · go_enter Try.func12, Try.ntmps12
            go_wp2
            go_ret
            exact ⟨ret_bool (by unfold isK; rw [h1, h2, h3, h4, h5]; rfl), rfl⟩
          · go_enter Try.func12, Try.ntmps12
            go_wp2
            go_ret
            exact ⟨ret_bool (by unfold isK; rw [h1, h2, h3, h4, h5]; rfl), rfl⟩
        · go_enter Try.func12, Try.ntmps12
          go_wp2
          go_ret
          exact ⟨ret_bool (by unfold isK; rw [h1, h2, h3, h4]; rfl), rfl⟩
      · go_enter Try.func12, Try.ntmps12
        go_wp2
        go_ret
        exact ⟨ret_bool (by unfold isK; rw [h1, h2, h3]; rfl), rfl⟩
    · go_enter Try.func12, Try.ntmps12
      go_wp2
      go_ret
      exact ⟨ret_bool (by unfold isK; rw [h1, h2]; rfl), rfl⟩
  · go_enter Try.func12, Try.ntmps12
    go_wp2
    go_ret
    exact ⟨ret_bool (by unfold isK; rw [h1]; rfl), rfl⟩
theorem f13 (c : Nat) (w : World) : Calls Try.prog 13 #[.int .u8 c] w fun e w' => e = .returned (.bool (vow c)) ∧ w' = w := by
  go_enter Try.func13, Try.ntmps13
  go_wp2
  all_goals go_ret
  all_goals
    refine ⟨ret_bool ?_, rfl⟩
    go_light
    unfold vow
    rw [Bool.eq_iff_iff]
    simp only [Bool.or_eq_true, beq_iff_eq, true_iff]
    omega

/-! ### the plain laws -/
theorem jv_bool (k : ByteArray) (h : isBool k = true) : (jv k).toList = [116, 114, 117, 101, 32, 111, 114, 32, 102, 97, 108, 115, 101] := by
  unfold jv; rw [h]; simp [ByteArray.toList_eq]
theorem jv_an (k : ByteArray) (h : isBool k = false) (h2 : isAn k = true) : (jv k).toList = [97, 110, 32] ++ k.toList := by
  unfold jv; rw [h, h2]; simp [ByteArray.toList_eq]
theorem jv_a (k : ByteArray) (h : isBool k = false) (h2 : isAn k = false) : (jv k).toList = [97, 32] ++ k.toList := by
  unfold jv; rw [h, h2]; simp [ByteArray.toList_eq]
theorem jv_inj (a b : ByteArray) : ((jv a).toList == (jv b).toList) = (a.toList == b.toList) := by
  rw [Bool.eq_iff_iff, beq_iff_eq, beq_iff_eq]
  constructor
  · intro h
    cases ha : isBool a
    · cases ha2 : isAn a
      · rw [jv_a a ha ha2] at h
        cases hb : isBool b
        · cases hb2 : isAn b
          · rw [jv_a b hb hb2] at h; simpa using h
          · rw [jv_an b hb hb2] at h; simp at h
        · rw [jv_bool b hb] at h; simp at h
      · rw [jv_an a ha ha2] at h
        cases hb : isBool b
        · cases hb2 : isAn b
          · rw [jv_a b hb hb2] at h; simp at h
          · rw [jv_an b hb hb2] at h; simpa using h
        · rw [jv_bool b hb] at h; simp at h
    · rw [jv_bool a ha] at h
      cases hb : isBool b
      · cases hb2 : isAn b
        · rw [jv_a b hb hb2] at h; simp at h
        · rw [jv_an b hb hb2] at h; simp at h
      · unfold isBool at ha hb
        rw [eq_of_beq ha, eq_of_beq hb]
  · intro h
    have e : a = b := by
      rw [ByteArray.toList_eq, ByteArray.toList_eq] at h
      rcases a with ⟨⟨x⟩⟩; rcases b with ⟨⟨y⟩⟩
      simpa using h
    rw [e]
theorem first_of (k : ByteArray) (c : UInt8) (t : List UInt8) (h : k.toList = c :: t) : ∃ hp : 0 < k.size, k[0]'hp = c := by
  rw [ByteArray.toList_eq] at h
  rcases k with ⟨⟨l⟩⟩
  simp at h
  subst h
  exact ⟨by simp [ByteArray.size], rfl⟩
end Go.Proofs.Qxb6619408a
