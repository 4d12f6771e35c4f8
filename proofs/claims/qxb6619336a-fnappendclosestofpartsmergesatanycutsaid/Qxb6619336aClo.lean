import Derived.Test.Qxb6619336aXor
import Derived.Test.Qxb6619336aZadd
namespace Go.Proofs.Qxb6619336a
open Go.RowKit
attribute [local go_sem ↓] Go.wp_at_zero Go.wp_at_succ
theorem bcell {W w1 : World} (hb : Below W.heap.size W w1) : (∀ b o, b < W.heap.size → w1.cell? ⟨b, o, none⟩ = W.cell? ⟨b, o, none⟩) :=
  fun b o h => hb.cell (p := ⟨b, o, none⟩) h

theorem bcell_at {W w1 : World} (hb : Below W.heap.size W w1) (n : Nat) (hn : W.heap.size = n) : (∀ b o, b < n → w1.cell? ⟨b, o, none⟩ = W.cell? ⟨b, o, none⟩) ∧ n ≤ w1.heap.size := by
  subst hn; exact ⟨fun b o h => hb.cell (p := ⟨b, o, none⟩) h, hb.size⟩

set_option maxHeartbeats 1000000 in
theorem closure_any (p : Pr) (x y z : Int) (T : Nat) (ta tb tc : Int) (w : World) (h0 : w.cell? ⟨T, 0, none⟩ = some (.int .u64 ta)) (h1 : w.cell? ⟨T, 1, none⟩ = some (.int .u64 tb)) (h2 : w.cell? ⟨T, 2, none⟩ = some (.int .u64 tc)) :
    Calls Try.prog 23 #[.agg #[.int .u64 p.a, .int .u64 p.b, .int .u64 p.c, .string p.nm, .string p.ad], .agg #[.int .u64 x, .int .u64 y, .int .u64 z], .pointer (some ⟨T, 0, none⟩)] w fun e w' =>
      e = .returned (.int .i64 (cmp3 (bits .xor .u64 p.a ta) (bits .xor .u64 p.b tb) (bits .xor .u64 p.c tc) x y z)) ∧ Below w.heap.size w w' := by
  have hT : T < w.heap.size := World.block_lt_of_cell? w _ h0
  have hT2 : T < w.heap.size + 1 := by omega
  have hT3 : T < w.heap.size + 1 + 1 := by omega
  have hw1 : w.heap.size < w.heap.size + 1 + 1 := by omega
  have hw2 : w.heap.size + 1 < w.heap.size + 1 + 1 := by omega
  go_enter Try.func23, Try.ntmps23
  go_wp2
  go_region_held3 (fun w' => w'.cell? ⟨w.heap.size, 0, none⟩ = some (.int .u64 p.a) ∧ w'.cell? ⟨w.heap.size, 1, none⟩ = some (.int .u64 p.b) ∧ w'.cell? ⟨w.heap.size, 2, none⟩ = some (.int .u64 p.c) ∧
    w'.cell? ⟨w.heap.size + 1, 0, none⟩ = some (.int .u64 x) ∧ w'.cell? ⟨w.heap.size + 1, 1, none⟩ = some (.int .u64 y) ∧ w'.cell? ⟨w.heap.size + 1, 2, none⟩ = some (.int .u64 z) ∧
    w'.cell? ⟨T, 0, none⟩ = some (.int .u64 ta) ∧ w'.cell? ⟨T, 1, none⟩ = some (.int .u64 tb) ∧ w'.cell? ⟨T, 2, none⟩ = some (.int .u64 tc)) (go_keep)
    ((first | (go_at_call 21; refine (xor_any _ _ _ _ _ _ _).mono ?_; rintro e wx ⟨rfl, hbx⟩; obtain ⟨hcx, hzx⟩ := bcell_at hbx (w.heap.size + 1 + 1) (by simp); have z1 : T < wx.heap.size := (by omega); have z2 : w.heap.size < wx.heap.size := (by omega); have z3 : w.heap.size + 1 < wx.heap.size := (by omega)) | (go_at_call 24; refine (cmp_any _ _ _ _ _ _ _).mono ?_; rintro e wy ⟨rfl, hby⟩; have hcy := bcell hby)))
  rename_i hHeld
  clear hHeld
  go_wp2
  go_ret
  refine ⟨rfl, ?_⟩
  have hA := (((Below.refl w.heap.size w).alloc (Nat.le_refl _) (.cells #[.int .u64 p.a, .int .u64 p.b, .int .u64 p.c, .string p.nm, .string p.ad] 34)).alloc (by simp) (.cells #[.int .u64 x, .int .u64 y, .int .u64 z] 32)).drew
  exact hA.trans ((hbx.mono hA.size).trans (hby.mono (by omega)))
end Go.Proofs.Qxb6619336a
