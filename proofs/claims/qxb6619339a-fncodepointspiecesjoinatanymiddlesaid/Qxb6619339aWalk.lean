import Derived.Test.Qxb6619339aPts
import Derived.WalkSpells
namespace Go.Proofs.Qxb6619339a
open Go.RowKit

theorem grown_iter (w : World) (s : ByteArray) (pos : Nat) : Grown w (w.iter s pos) := by
  refine ⟨World.keptBut_alloc _ _ _, fun a => ?_, by show w.heap.size ≤ (w.heap.push _).size; simp⟩
  by_cases h : a.block = w.heap.size
  · have e1 : (w.iter s pos).heap[a.block]? = some (.stringIter s pos) := by rw [h]; exact World.iter_heap w s pos
    have e2 : w.heap[a.block]? = none := by rw [h]; simp
    simp [World.frozen?, e1, e2]
  · exact World.frozen?_alloc_old _ _ _ h
theorem grown_trans {a b c : World} (h : Grown a b) (k : Grown b c) : Grown a c :=
  ⟨World.keptBut_trans h.1 k.1, fun x => (k.2.1 x).trans (h.2.1 x), Nat.le_trans h.2.2 k.2.2⟩

theorem next_bd (s : ByteArray) (k : Nat) (w : World) (h : bd s k < s.size) :
    ∃ c : Nat, ∀ ty : TypeId, (Instr.next (.pointer (some ⟨w.heap.size, 0, none⟩)) true ty).run Try.prog (w.iter s (bd s k)) = .ok (.tuple #[.bool true, .int .i64 (bd s k), .int .i32 c]) (w.iter s (bd s (k + 1))) :=
  ⟨_, fun ty => run_next_any w s (bd s k) ty h⟩

set_option maxRecDepth 1000000 in
theorem count_any (s : ByteArray) (w : World) (hs : s.size ≤ 1048576) :
    Calls Try.prog 5 #[.string s] w fun e w' => (∃ n : Nat, e = .returned (.int .i64 n) ∧ bd s n = s.size) ∧ Grown w w' := by
  go_enter Try.func5, Try.ntmps5
  go_wp2
  go_loopw [3] (fun n w' => ∃ k : Nat, w' = w.iter s (bd s k) ∧ n = .int .i64 k ∧ bd s k ≤ s.size) (fun _ w' => s.size - w'.iterPos w.heap.size)
  case atStart => exact ⟨0, rfl, rfl, Nat.zero_le _⟩
  case round =>
    obtain ⟨k, rfl, rfl, hle⟩ := hrel
    have hge := bd_ge s k
    by_cases hp : bd s k < s.size
    · have hle1 : bd s (k + 1) ≤ s.size := wd_le s (bd s k) hp
      have hlt := bd_lt s k (k + 1) (by omega)
      obtain ⟨pos, hpos⟩ : ∃ pos, pos = bd s k := ⟨_, rfl⟩
      obtain ⟨pos1, hpos1⟩ : ∃ pos, pos = bd s (k + 1) := ⟨_, rfl⟩
      obtain ⟨c, hnx⟩ := next_bd s k w hp
      rw [← hpos, ← hpos1] at hnx
      rw [← hpos] at hle hge hp hlt
      rw [← hpos1] at hle1 hlt
      rw [← hpos]
      have H : Hid (pos = bd s k ∧ pos1 = bd s (k + 1)) := ⟨hpos, hpos1⟩
      clear hpos hpos1
      go_wp2
      go_roundw
      case rel => exact ⟨k + 1, by rw [← H.out.2], by go_num, by rw [← H.out.2]; exact hle1⟩
      case measure => simp; omega
    · have hnx : ∀ ty, (Instr.next (.pointer (some ⟨w.heap.size, 0, none⟩)) true ty).run Try.prog (w.iter s (bd s k)) = .ok (.tuple #[.bool false]) (w.iter s (bd s k)) := fun ty => run_next_end w s (bd s k) ty hp
      go_wp2
      go_ret
      exact ⟨⟨k, rfl, by omega⟩, grown_iter _ _ _⟩

theorem ret_str {x y : ByteArray} (h : x = y) : Ending.returned (.string x) = .returned (.string y) := by rw [h]

set_option maxHeartbeats 1000000 in
set_option maxRecDepth 1000000 in
theorem cp_any (s : ByteArray) (lo hi n : Nat) (w : World) (hs : s.size ≤ 1048576) (hlh : lo ≤ hi) (hn : hi ≤ n) (hb : bd s n = s.size) :
    Calls Try.prog 7 #[.string s, .int .i64 lo, .int .i64 hi] w fun e w' => e = .returned (.string (s.extract (bd s lo) (bd s hi))) ∧ Grown w w' := by
  have Hb : Hid (bd s n = s.size) := hb
  clear hb
  have hnb : n ≤ s.size := by have := bd_ge s n; rw [Hb.out] at this; exact this
  go_enter Try.func7, Try.ntmps7
  go_wp2
  go_loopw [7, 8] (fun st i w' => ∃ k S : Nat, w' = w.iter s (bd s k) ∧ i = .int .i64 k ∧ st = .int .i64 S ∧ k ≤ hi ∧ (lo < k → S = bd s lo) ∧ (k ≤ lo → S = s.size)) (fun _ _ w' => s.size - w'.iterPos w.heap.size)
  case atStart => exact ⟨0, s.size, rfl, rfl, rfl, Nat.zero_le _, by omega, by omega⟩
  case round =>
    obtain ⟨k, S, rfl, rfl, rfl, hk, hS1, hS2⟩ := hrel
    have HS : Hid ((lo < k → S = bd s lo) ∧ (k ≤ lo → S = s.size)) := ⟨hS1, hS2⟩
    clear hS1 hS2
    have hle : bd s k ≤ s.size := by rw [← Hb.out]; exact bd_le s k n (by omega)
    have hlo : lo < k → bd s lo ≤ bd s k := fun h => bd_le s lo k (by omega)
    have hge := bd_ge s k
    by_cases hp : bd s k < s.size
    · have hle1 : bd s (k + 1) ≤ s.size := wd_le s (bd s k) hp
      have hlt := bd_lt s k (k + 1) (by omega)
      obtain ⟨pos, hpos⟩ : ∃ pos, pos = bd s k := ⟨_, rfl⟩
      obtain ⟨pos1, hpos1⟩ : ∃ pos, pos = bd s (k + 1) := ⟨_, rfl⟩
      obtain ⟨c, hnx⟩ := next_bd s k w hp
      rw [← hpos, ← hpos1] at hnx
      rw [← hpos] at hle hge hp hlt hlo
      rw [← hpos1] at hle1 hlt
      rw [← hpos]
      have H : Hid (pos = bd s k ∧ pos1 = bd s (k + 1)) := ⟨hpos, hpos1⟩
      clear hpos hpos1
      by_cases h1 : k = lo
      · have b1 : ((k : Int) == (lo : Int)) = true := by simp [h1]
        have H1 : Hid (k = lo) := h1
        clear h1
        by_cases h2 : k = hi
        · have b2 : ((k : Int) == (hi : Int)) = true := by simp [h2]
          have H2 : Hid (k = hi) := h2
          clear h2
          go_wp2
          go_ret
          exact ⟨ret_str (by rw [← H1.out, ← H2.out, ← H.out.1]; apply ByteArray.ext; simp), grown_iter _ _ _⟩
        · have b2 : ((k : Int) == (hi : Int)) = false := by simp; omega
          go_wp2
          go_roundw
          case rel => exact ⟨k + 1, pos, by rw [← H.out.2], by go_num, rfl, by omega, fun _ => by rw [← H1.out]; exact H.out.1, fun h => by have := H1.out; omega⟩
          case measure => simp; omega
      · have b1 : ((k : Int) == (lo : Int)) = false := by simp; omega
        by_cases h2 : k = hi
        · have b2 : ((k : Int) == (hi : Int)) = true := by simp [h2]
          have hSe : S = bd s lo := HS.out.1 (by omega)
          have hSp : S ≤ pos := by rw [hSe]; exact hlo (by omega)
          have hSp' : (S : Int) ≤ (pos : Int) := by omega
          have hSe' : Hid (S = bd s lo) := hSe
          have H2 : Hid (k = hi) := h2
          clear h2 hSe h1 hlo
          go_wp2
          go_ret
          exact ⟨ret_str (by rw [← hSe'.out, ← H2.out, ← H.out.1]), grown_iter _ _ _⟩
        · have b2 : ((k : Int) == (hi : Int)) = false := by simp; omega
          go_wp2
          go_roundw
          case rel => exact ⟨k + 1, S, by rw [← H.out.2], by go_num, rfl, by omega, fun h => HS.out.1 (by omega), fun h => HS.out.2 (by omega)⟩
          case measure => simp; omega
    · have hnx : ∀ ty, (Instr.next (.pointer (some ⟨w.heap.size, 0, none⟩)) true ty).run Try.prog (w.iter s (bd s k)) = .ok (.tuple #[.bool false]) (w.iter s (bd s k)) := fun ty => run_next_end w s (bd s k) ty hp
      have hkn : k = n := bd_inj s k n (by rw [Hb.out]; omega)
      have hSe : S = bd s lo := by
        by_cases h : lo < k
        · exact HS.out.1 h
        · have e : lo = n := by omega
          rw [e, Hb.out]; exact HS.out.2 (by omega)
      have hSp : S ≤ s.size := by rw [hSe, ← Hb.out]; exact bd_le s lo n (by omega)
      have hh : Hid (S = bd s lo ∧ bd s hi = s.size) := ⟨hSe, by rw [← Hb.out]; congr 1; omega⟩
      clear hSe hkn
      go_wp2
      go_ret
      exact ⟨ret_str (by rw [hh.out.2, ← hh.out.1]), grown_iter _ _ _⟩
end Go.Proofs.Qxb6619339a
