import Derived.Test.Qxb6617420aRows
import Derived.WalkKit
import Derived.Deep.Light
import Derived.RowKit3
namespace Go.Proofs.Qxb6617420a
open Go.RowKit

/-! ### the plain functions -/
def hb (c : Nat) : Bool := (97 ≤ c && c ≤ 122) || (65 ≤ c && c ≤ 90) || (48 ≤ c && c ≤ 57) || c == 45 || c == 95 || c == 46
def hostL (l : List UInt8) : Bool := l.all fun b => hb b.toNat
def hostN (s : ByteArray) : Bool := hostL s.data.toList && !s.data.toList.isEmpty

theorem hb_yes (c : Int) (n : Nat) (e : c = n) (h : (97 ≤ c ∧ c ≤ 122) ∨ (65 ≤ c ∧ c ≤ 90) ∨ (48 ≤ c ∧ c ≤ 57) ∨ c = 45 ∨ c = 95 ∨ c = 46) : hb n = true := by
  subst e
  unfold hb
  simp only [Bool.or_eq_true, Bool.and_eq_true, decide_eq_true_eq, beq_iff_eq]
  omega
theorem hb_no (c : Int) (n : Nat) (e : c = n ∨ (128 ≤ c ∧ 128 ≤ n)) (h : ¬ ((97 ≤ c ∧ c ≤ 122) ∨ (65 ≤ c ∧ c ≤ 90) ∨ (48 ≤ c ∧ c ≤ 57) ∨ c = 45 ∨ c = 95 ∨ c = 46)) : hb n = false := by
  rw [← Bool.not_eq_true]
  unfold hb
  simp only [Bool.or_eq_true, Bool.and_eq_true, decide_eq_true_eq, beq_iff_eq]
  omega
theorem take_snoc (s : ByteArray) (k : Nat) (h : k < s.size) : s.data.toList.take (k + 1) = s.data.toList.take k ++ [s[k]] := by
  rw [List.take_succ_eq_append_getElem (by simpa using h)]; rfl
theorem hostL_snoc (s : ByteArray) (k : Nat) (h : k < s.size) (a : hostL (s.data.toList.take k) = true) (b : hb (s[k]).toNat = true) : hostL (s.data.toList.take (k + 1)) = true := by
  rw [take_snoc s k h]
  simp only [hostL, List.all_append, List.all_cons, List.all_nil, Bool.and_true, Bool.and_eq_true] at a ⊢
  exact ⟨a, b⟩
theorem hostN_no (s : ByteArray) (k : Nat) (h : k < s.size) (b : hb (s[k]).toNat = false) : hostN s = false := by
  unfold hostN hostL
  rw [Bool.and_eq_false_iff]
  left
  rw [List.all_eq_false]
  exact ⟨s[k], by
    show s.data[k] ∈ s.data.toList
    simp, by simp [b]⟩

theorem width_pos (s : ByteArray) (pos : Nat) (h : pos < s.size) : 1 ≤ (Utf8.decode s pos).2 := by
  by_cases ha : (s[pos]'h).toNat < 128
  · rw [decode_ascii s pos h ha]
    exact Nat.le_refl _
  · exact (decode_high s pos h (by omega)).2

set_option maxHeartbeats 400000 in
set_option maxRecDepth 1000000 in
theorem isHost_any (s : ByteArray) (w : World) :
    Calls Try.prog 9 #[.string s] w fun e w' => e = .returned (.bool (hostN s)) ∧ ∃ pos, w' = w.iter s pos := by
  go_enter Try.func9, Try.ntmps9
  go_wp2
  go_loopw [4] (fun _ w' => ∃ pos : Nat, w' = w.iter s pos ∧ pos ≤ s.size ∧ hostL (s.data.toList.take pos) = true) (fun _ w' => s.size - w'.iterPos w.heap.size)
  case atStart => exact ⟨0, rfl, Nat.zero_le _, rfl⟩
  case round =>
    obtain ⟨pos, rfl, hle, hh⟩ := hrel
    have Hh : Hid (hostL (s.data.toList.take pos) = true) := hh
    clear hh
    by_cases hp : pos < s.size
    · obtain ⟨c, hc⟩ : ∃ c : Nat, c = (Utf8.decode s pos).1 := ⟨_, rfl⟩
      obtain ⟨wd, hwd⟩ : ∃ wd : Nat, wd = (Utf8.decode s pos).2 := ⟨_, rfl⟩
      have hnx : ∀ ty, (Instr.next (.pointer (some ⟨w.heap.size, 0, none⟩)) true ty).run Try.prog (w.iter s pos) = .ok (.tuple #[.bool true, .int .i64 pos, .int .i32 c]) (w.iter s (pos + wd)) := fun ty => by rw [hc, hwd]; exact run_next_any w s pos ty hp
      have hx : Hid (c = (s[pos]).toNat ∧ wd = 1 ∨ (128 ≤ c ∧ 128 ≤ (s[pos]).toNat)) := by
        by_cases ha : (s[pos]).toNat < 128
        · left; rw [hc, hwd, decode_ascii s pos hp ha]; exact ⟨rfl, rfl⟩
        · right; rw [hc]; exact ⟨(decode_high s pos hp (by omega)).1, by omega⟩
      clear hc hwd
      go_wp2
      all_goals first
        | (go_ret
           refine ⟨?_, pos + wd, rfl⟩
           have hno : ¬ ((97 ≤ (c : Int) ∧ (c : Int) ≤ 122) ∨ (65 ≤ (c : Int) ∧ (c : Int) ≤ 90) ∨ (48 ≤ (c : Int) ∧ (c : Int) ≤ 57) ∨ (c : Int) = 45 ∨ (c : Int) = 95 ∨ (c : Int) = 46) := by
             go_light
             simp only [Bool.not_eq_true', decide_eq_false_iff_not, beq_eq_false_iff_ne] at *
             omega
           rw [hostN_no s pos hp (hb_no c _ (by have := hx.out; omega) hno)]
           rfl)
        | (have hyes : (97 ≤ (c : Int) ∧ (c : Int) ≤ 122) ∨ (65 ≤ (c : Int) ∧ (c : Int) ≤ 90) ∨ (48 ≤ (c : Int) ∧ (c : Int) ≤ 57) ∨ (c : Int) = 45 ∨ (c : Int) = 95 ∨ (c : Int) = 46 := by
             go_light
             first | omega | (simp only [Bool.not_eq_false', decide_eq_true_eq, beq_iff_eq] at *; omega)
           have hx' : c = (s[pos]).toNat ∧ wd = 1 := by have := hx.out; omega
           obtain ⟨h1, rfl⟩ := hx'
           exact ⟨⟨pos + 1, rfl, by omega, hostL_snoc s pos hp Hh.out (hb_yes c _ (by omega) hyes)⟩, by simp; omega⟩)
    · have hnx : ∀ ty, (Instr.next (.pointer (some ⟨w.heap.size, 0, none⟩)) true ty).run Try.prog (w.iter s pos) = .ok (.tuple #[.bool false]) (w.iter s pos) := fun ty => run_next_end w s pos ty hp
      go_wp2
      go_ret
      have e : pos = s.size := by omega
      subst e
      refine ⟨?_, _, rfl⟩
      have h2 := Hh.out
      go_light
      rw [List.take_of_length_le (by simp)] at h2
      simp [hostN, h2, ByteArray.toList_eq]

theorem grown_iter (w : World) (s : ByteArray) (pos : Nat) : Grown w (w.iter s pos) := by
  refine ⟨World.keptBut_alloc _ _ _, fun a => ?_, by show w.heap.size ≤ (w.heap.push _).size; simp⟩
  by_cases h : a.block = w.heap.size
  · have e1 : (w.iter s pos).heap[a.block]? = some (.stringIter s pos) := by rw [h]; exact World.iter_heap w s pos
    have e2 : w.heap[a.block]? = none := by rw [h]; simp
    simp [World.frozen?, e1, e2]
  · exact World.frozen?_alloc_old _ _ _ h
theorem grown_trans {a b c : World} (h : Grown a b) (k : Grown b c) : Grown a c :=
  ⟨World.keptBut_trans h.1 k.1, fun x => (k.2.1 x).trans (h.2.1 x), Nat.le_trans h.2.2 k.2.2⟩

theorem zzHost_any (s : ByteArray) (w : World) :
    Calls Try.prog 6 #[.string s] w fun e w' => e = .returned (.bool (hostN s)) ∧ Grown w w' := by
  go_enter Try.func6, Try.ntmps6
  go_wp2_with (go_at_call 9; refine (isHost_any _ _).mono ?_; rintro e w' ⟨rfl, pos, rfl⟩)
  go_ret
  exact ⟨rfl, grown_iter _ _ _⟩

theorem ret_bool {x y : Bool} (h : x = y) : Ending.returned (.bool x) = .returned (.bool y) := by rw [h]
theorem hostByte_any (c : Nat) (w : World) :
    Calls Try.prog 7 #[.int .u8 c] w fun e w' => e = .returned (.bool (hb c)) ∧ w' = w := by
  go_enter Try.func7, Try.ntmps7
  go_wp2
  all_goals go_ret
  all_goals
    refine ⟨ret_bool ?_, rfl⟩
    go_light
    unfold hb
    rw [Bool.eq_iff_iff]
    simp only [Bool.or_eq_true, Bool.and_eq_true, decide_eq_true_eq, beq_iff_eq, true_iff]
    omega

theorem bytes3_yes (a b : ByteArray) (w : World) (h : a.size + b.size ≤ 1048576) :
    Calls Try.prog 5 #[.string a, .string b] w fun e w' => e = .returned (.bool true) ∧ w' = w := by
  go_enter Try.func5, Try.ntmps5
  go_wp2
  go_ret
  exact ⟨rfl, rfl⟩
theorem bytes3_no (a b : ByteArray) (w : World) (h : ¬ a.size + b.size ≤ 1048576) (ha : a.size ≤ maxLen) (hb : b.size ≤ maxLen) :
    Calls Try.prog 5 #[.string a, .string b] w fun e w' => e = .returned (.bool false) ∧ w' = w := by
  unfold maxLen at ha hb
  go_enter Try.func5, Try.ntmps5
  go_wp2
  all_goals (go_ret; exact ⟨rfl, rfl⟩)
theorem bytes4_yes (a : ByteArray) (i c : Int) (w : World) (h : a.size ≤ 1048576) :
    Calls Try.prog 8 #[.string a, .int .i64 i, .int .u8 c] w fun e w' => e = .returned (.bool true) ∧ w' = w := by
  go_enter Try.func8, Try.ntmps8
  go_wp2
  go_ret
  exact ⟨rfl, rfl⟩
theorem bytes4_no (a : ByteArray) (i c : Int) (w : World) (h : ¬ a.size ≤ 1048576) (ha : a.size ≤ maxLen) :
    Calls Try.prog 8 #[.string a, .int .i64 i, .int .u8 c] w fun e w' => e = .returned (.bool false) ∧ w' = w := by
  unfold maxLen at ha
  go_enter Try.func8, Try.ntmps8
  go_wp2
  all_goals (go_ret; exact ⟨rfl, rfl⟩)
end Go.Proofs.Qxb6617420a
