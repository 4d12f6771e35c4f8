import Derived.Test.Qxb6619336aOps
import Derived.BigQuiet
import Derived.Deep.RegionLaw
namespace Go.Proofs.Qxb6619336a
open Go.RowKit
attribute [local go_sem ↓] Go.wp_at_zero Go.wp_at_succ

theorem Fr.drewN {g : Option Nat} {B : Nat} {a b : World} (h : Fr g B a b) (n : Nat) : Fr g B a (b.drewN n) := ⟨h.os, h.tape, h.output, h.size, h.block⟩
theorem news_of (W : World) (p : Pr) (k : Nat) (hk : W.heap.size = k) :
    ∀ j u, p.cells[j]? = some u → (W.alloc (.cells #[.int .u64 p.a, .int .u64 p.b, .int .u64 p.c, .string p.nm, .string p.ad] 34)).drew.cell? ((⟨k, 0, none⟩ : Addr).add j) = some u := by
  subst hk
  have h : Row (W.alloc (.cells #[.int .u64 p.a, .int .u64 p.b, .int .u64 p.c, .string p.nm, .string p.ad] 34)).drew W.heap.size [p] := Row.made W [p]
  have := h.cells 0 1
  simpa [flat] using this

set_option maxHeartbeats 1000000 in
theorem add_room (B g n : Nat) (ds : List Pr) (fl : Bool) (p : Pr) (w : World) (h0 : w.cell? ⟨B, 0, none⟩ = some (.slice (some ⟨g, 0, none⟩) n ds.length)) (h1 : w.cell? ⟨B, 1, none⟩ = some (.bool fl))
    (hf : w.frozen? ⟨B, 0, none⟩ = false) (hr : Row w g ds) (hn : n < ds.length) (hg : g < B) (hB : B < w.heap.size) :
    Calls Try.prog 19 #[.pointer (some ⟨B, 0, none⟩), .agg #[.int .u64 p.a, .int .u64 p.b, .int .u64 p.c, .string p.nm, .string p.ad]] w fun e w' =>
      e = .returned (.tuple #[]) ∧ w'.cell? ⟨B, 0, none⟩ = some (.slice (some ⟨g, 0, none⟩) (n + 1) ds.length) ∧ w'.cell? ⟨B, 1, none⟩ = some (.bool fl) ∧ Row w' g (ds.set n p) ∧ Fr (some g) B w w' := by
  have hne : ((n : Int) == (ds.length : Int)) = false := by simp; omega
  go_enter Try.func19, Try.ntmps19
  go_wp2
  go_quiet (fail)
  go_wp2
  have hW : ((w.alloc (.cells #[.int .u64 p.a, .int .u64 p.b, .int .u64 p.c, .string p.nm, .string p.ad] 34)).drewN nq).cell? ⟨B, 0, none⟩ = some (.slice (some ⟨g, 0, none⟩) n ds.length) := by go_simp
  have hW1 : ((w.alloc (.cells #[.int .u64 p.a, .int .u64 p.b, .int .u64 p.c, .string p.nm, .string p.ad] 34)).drewN nq).cell? ⟨B, 1, none⟩ = some (.bool fl) := by go_simp
  have hWf : ((w.alloc (.cells #[.int .u64 p.a, .int .u64 p.b, .int .u64 p.c, .string p.nm, .string p.ad] 34)).drewN nq).frozen? ⟨B, 0, none⟩ = false := by go_simp
  have hWr : ((w.alloc (.cells #[.int .u64 p.a, .int .u64 p.b, .int .u64 p.c, .string p.nm, .string p.ad] 34)).drewN nq).rangeAt w.heap.size 0 p.cells := by
    exact (Row.made w [p]).range 0 (by simp)
  have hWg : Row ((w.alloc (.cells #[.int .u64 p.a, .int .u64 p.b, .int .u64 p.c, .string p.nm, .string p.ad] 34)).drewN nq) g ds := hr.alloc _
  have hWF : Fr (some g) B w ((w.alloc (.cells #[.int .u64 p.a, .int .u64 p.b, .int .u64 p.c, .string p.nm, .string p.ad] 34)).drewN nq) := Fr.drewN ((Fr.refl (some g) B w).alloc (Nat.le_of_lt hB) _) nq
  have hWs : ((w.alloc (.cells #[.int .u64 p.a, .int .u64 p.b, .int .u64 p.c, .string p.nm, .string p.ad] 34)).drewN nq).heap.size = w.heap.size + 1 := by go_simp
  generalize (w.alloc (.cells #[.int .u64 p.a, .int .u64 p.b, .int .u64 p.c, .string p.nm, .string p.ad] 34)).drewN nq = W at *
  obtain ⟨c0, c1, c2, c3, c4⟩ := five hWr
  clear h0 h1 hf hr
  have hBs : B < W.heap.size := by omega
  have hBg : some B ≠ some g := by simp; omega
  go_region_law ((refine step_append5 rfl _ _ rfl g n ds.length ds p _ _ rfl rfl rfl (hWg.alloc _).drew hn (news_of W p _ hWs) ?_; intro w1 hr1 hF1 hs1; have q0 : w1.cell? ⟨B, 0, none⟩ = some (.slice (some ⟨g, 0, none⟩) n ds.length) := (hF1.cell (p := ⟨B, 0, none⟩) (by simp; omega) hBg).trans (by go_simp); have q1 : w1.cell? ⟨B, 1, none⟩ = some (.bool fl) := (hF1.cell (p := ⟨B, 1, none⟩) (by simp; omega) hBg).trans (by go_simp); have qf : w1.frozen? ⟨B, 0, none⟩ = false := (hF1.frozen (p := ⟨B, 0, none⟩) (by simp; omega) hBg).trans (by go_simp)))
  all_goals
    go_wp2
    go_end0
    refine ⟨rfl, ?_, ?_, ?_, ?_⟩
    · go_simp
    · go_simp
    · exact hr1.of (Below.heap_setCell _ _ _ _ (by simp; omega))
    · exact ((hWF.trans (((Fr.refl _ _ _).alloc (Nat.le_of_lt hBs) _).drew)).trans (hF1.mono (by simp; omega))).setCell (.inl (Nat.le_refl _)) _

theorem run_mk' (n C : Nat) (X : Int) (hX : X = C) (h : n ≤ C) (hC : C ≤ 1000) (w : World) : (Instr.makeSlice 25 (.int .i64 n) (.int .i64 X)).run Try.prog w =
    .ok (.slice (some ⟨w.heap.size, 0, none⟩) n C) (w.alloc (.cells (flat (List.replicate C Pr.zero)).toArray 34)) := by
  have e : X = (n : Int) + ((C - n : Nat) : Int) := by omega
  have e2 : n + (C - n) = C := by omega
  rw [e, run_mk n (C - n) (by omega) w, e2]

set_option maxHeartbeats 2000000 in
theorem add_full (B : Nat) (a : Option Addr) (ds : List Pr) (fl : Bool) (p : Pr) (w : World) (h0 : w.cell? ⟨B, 0, none⟩ = some (.slice a ds.length ds.length)) (h1 : w.cell? ⟨B, 1, none⟩ = some (.bool fl))
    (hf : w.frozen? ⟨B, 0, none⟩ = false) (hr : (a = none ∧ ds = []) ∨ ∃ g, a = some ⟨g, 0, none⟩ ∧ Row w g ds) (hB : B < w.heap.size) (hl : ds.length < 20)
    (C : Nat) (hC : (ds.length < 1 ∧ C = 1) ∨ (1 ≤ ds.length ∧ ds.length ≤ 10 ∧ C = 2 * ds.length) ∨ (11 ≤ ds.length ∧ C = 20)) :
    Calls Try.prog 19 #[.pointer (some ⟨B, 0, none⟩), .agg #[.int .u64 p.a, .int .u64 p.b, .int .u64 p.c, .string p.nm, .string p.ad]] w fun e w' =>
      e = .returned (.tuple #[]) ∧ ∃ g', B < g' ∧ w'.cell? ⟨B, 0, none⟩ = some (.slice (some ⟨g', 0, none⟩) (ds.length + 1) C) ∧ w'.cell? ⟨B, 1, none⟩ = some (.bool fl) ∧
        Row w' g' (ds ++ p :: List.replicate (C - ds.length - 1) Pr.zero) ∧ Below B w w' := by
  have hlt : ds.length < C := by omega
  have hC20 : C ≤ 20 := by omega
  have Hr : Hid ((a = none ∧ ds = []) ∨ ∃ g, a = some ⟨g, 0, none⟩ ∧ Row w g ds) := hr
  clear hr
  obtain ⟨X, hX, hcase⟩ : ∃ X : Int, X = C ∧ ((((ds.length : Int) < 1 ∧ X = 1) ∨ (1 ≤ (ds.length : Int) ∧ (ds.length : Int) ≤ 10 ∧ X = 2 * (ds.length : Int))) ∨ (11 ≤ (ds.length : Int) ∧ X = 20)) := ⟨C, rfl, by omega⟩
  have hmk := run_mk' ds.length C X hX (by omega) (by omega)
  clear hC hX
  rcases hcase with (⟨b1, rfl⟩ | ⟨b1, b2, rfl⟩) | ⟨b1, rfl⟩
  all_goals
    go_enter Try.func19, Try.ntmps19
    go_wp2
    go_quiet (fail)
    go_wp2
    go_region
    clear hmk
    go_wp2_with (refine wpList_copyFull rfl _ _ rfl _ _ _ _ (List.replicate C Pr.zero) _ ds (by rfl) (by rfl) ?hr ?hsrc rfl (by simp; omega) ?h)
    case hr => exact Row.made' _ _ (by simp) _
    case hsrc =>
      rcases Hr.out with h | ⟨g, h, hg⟩
      · exact .inl h
      · exact .inr ⟨g, h, Row.alloc (show Row ((w.alloc _).drewN (nq + 1)) g ds from hg.alloc _) _⟩
    case h =>
      intro w1 hr1 hF1 hs1
      have q0 : w1.cell? ⟨B, 0, none⟩ = some (.slice a ds.length ds.length) := (hF1.cell (p := ⟨B, 0, none⟩) (by simp; omega) (by simp; omega)).trans (by go_simp)
      have q1 : w1.cell? ⟨B, 1, none⟩ = some (.bool fl) := (hF1.cell (p := ⟨B, 1, none⟩) (by simp; omega) (by simp; omega)).trans (by go_simp)
      have qf : w1.frozen? ⟨B, 0, none⟩ = false := (hF1.frozen (p := ⟨B, 0, none⟩) (by simp; omega) (by simp; omega)).trans (by go_simp)
      have d0 : w1.cell? ⟨w.heap.size, 0, none⟩ = some (.int .u64 p.a) := (hF1.cell (p := ⟨w.heap.size, 0, none⟩) (by show w.heap.size < _; omega) (by simp)).trans (by go_simp)
      have d1 : w1.cell? ⟨w.heap.size, 1, none⟩ = some (.int .u64 p.b) := (hF1.cell (p := ⟨w.heap.size, 1, none⟩) (by show w.heap.size < _; omega) (by simp)).trans (by go_simp)
      have d2 : w1.cell? ⟨w.heap.size, 2, none⟩ = some (.int .u64 p.c) := (hF1.cell (p := ⟨w.heap.size, 2, none⟩) (by show w.heap.size < _; omega) (by simp)).trans (by go_simp)
      have d3 : w1.cell? ⟨w.heap.size, 3, none⟩ = some (.string p.nm) := (hF1.cell (p := ⟨w.heap.size, 3, none⟩) (by show w.heap.size < _; omega) (by simp)).trans (by go_simp)
      have d4 : w1.cell? ⟨w.heap.size, 4, none⟩ = some (.string p.ad) := (hF1.cell (p := ⟨w.heap.size, 4, none⟩) (by show w.heap.size < _; omega) (by simp)).trans (by go_simp)
      have hb1 : Below B w w1 := ((((Fr.refl none B w).alloc (Nat.le_of_lt hB) _).drewN (nq + 1)).alloc (by simp; omega) _).below.trans (hF1.below_of (by omega) (by omega))
      clear hF1 h0 h1 hf Hr
      go_wp2
      have e0 : (w1.setCell ⟨B, 0, none⟩ (.slice (some ⟨w.heap.size + 1, 0, none⟩) ds.length C)).cell? ⟨B, 0, none⟩ = some (.slice (some ⟨w.heap.size + 1, 0, none⟩) ds.length C) := by go_simp
      have e1 : (w1.setCell ⟨B, 0, none⟩ (.slice (some ⟨w.heap.size + 1, 0, none⟩) ds.length C)).cell? ⟨B, 1, none⟩ = some (.bool fl) := by go_simp
      have ef : (w1.setCell ⟨B, 0, none⟩ (.slice (some ⟨w.heap.size + 1, 0, none⟩) ds.length C)).frozen? ⟨B, 0, none⟩ = false := by go_simp
      have hne : ∀ o, (⟨B, 0, none⟩ : Addr) ≠ ⟨w.heap.size, o, none⟩ := fun o h => by injection h; omega
      have c0 : (w1.setCell ⟨B, 0, none⟩ (.slice (some ⟨w.heap.size + 1, 0, none⟩) ds.length C)).cell? ⟨w.heap.size, 0, none⟩ = some (.int .u64 p.a) := (World.cell?_setCell_other _ _ _ _ (hne 0)).trans d0
      have c1 : (w1.setCell ⟨B, 0, none⟩ (.slice (some ⟨w.heap.size + 1, 0, none⟩) ds.length C)).cell? ⟨w.heap.size, 1, none⟩ = some (.int .u64 p.b) := (World.cell?_setCell_other _ _ _ _ (hne 1)).trans d1
      have c2 : (w1.setCell ⟨B, 0, none⟩ (.slice (some ⟨w.heap.size + 1, 0, none⟩) ds.length C)).cell? ⟨w.heap.size, 2, none⟩ = some (.int .u64 p.c) := (World.cell?_setCell_other _ _ _ _ (hne 2)).trans d2
      have c3 : (w1.setCell ⟨B, 0, none⟩ (.slice (some ⟨w.heap.size + 1, 0, none⟩) ds.length C)).cell? ⟨w.heap.size, 3, none⟩ = some (.string p.nm) := (World.cell?_setCell_other _ _ _ _ (hne 3)).trans d3
      have c4 : (w1.setCell ⟨B, 0, none⟩ (.slice (some ⟨w.heap.size + 1, 0, none⟩) ds.length C)).cell? ⟨w.heap.size, 4, none⟩ = some (.string p.ad) := (World.cell?_setCell_other _ _ _ _ (hne 4)).trans d4
      have hrW : Row (w1.setCell ⟨B, 0, none⟩ (.slice (some ⟨w.heap.size + 1, 0, none⟩) ds.length C)) (w.heap.size + 1) (ds ++ List.replicate (C - ds.length) Pr.zero) := hr1.of (Below.heap_setCell _ _ _ _ (by simp; omega))
      have hbW : Below B w (w1.setCell ⟨B, 0, none⟩ (.slice (some ⟨w.heap.size + 1, 0, none⟩) ds.length C)) := hb1.setCell (Nat.le_refl _) _
      have hsW : (w1.setCell ⟨B, 0, none⟩ (.slice (some ⟨w.heap.size + 1, 0, none⟩) ds.length C)).heap.size = w.heap.size + 2 := by rw [World.size_setCell]; omega
      generalize w1.setCell ⟨B, 0, none⟩ (.slice (some ⟨w.heap.size + 1, 0, none⟩) ds.length C) = W at *
      clear d0 d1 d2 d3 d4 q0 q1 qf hr1 hs1 hb1 hne
      have hBg : some B ≠ some (w.heap.size + 1) := by simp; omega
      have hBs : B < w.heap.size + 2 := by omega
      have hws : w.heap.size < w.heap.size + 2 := by omega
      have hset : (ds ++ List.replicate (C - ds.length) Pr.zero).set ds.length p = ds ++ p :: List.replicate (C - ds.length - 1) Pr.zero := by
        obtain ⟨m, hm⟩ : ∃ m, C - ds.length = m + 1 := ⟨C - ds.length - 1, by omega⟩
        rw [hm, List.set_append_right _ _ (Nat.le_refl _)]
        simp [List.replicate_succ]
      have Hset : Hid _ := hset
      clear hset
      go_region_law ((refine step_append5 rfl _ _ rfl (w.heap.size + 1) ds.length C (ds ++ List.replicate (C - ds.length) Pr.zero) p _ _ rfl rfl (by simp; omega) (hrW.alloc _).drew (by simp; omega) (news_of W p _ hsW) ?_; intro w2 hr2 hF2 hs2; have q0 : w2.cell? ⟨B, 0, none⟩ = some (.slice (some ⟨w.heap.size + 1, 0, none⟩) ds.length C) := (hF2.cell (p := ⟨B, 0, none⟩) (by simp; omega) hBg).trans (by go_simp); have q1 : w2.cell? ⟨B, 1, none⟩ = some (.bool fl) := (hF2.cell (p := ⟨B, 1, none⟩) (by simp; omega) hBg).trans (by go_simp); have qf : w2.frozen? ⟨B, 0, none⟩ = false := (hF2.frozen (p := ⟨B, 0, none⟩) (by simp; omega) hBg).trans (by go_simp)))
      all_goals
        go_wp2
        go_end0
        refine ⟨rfl, w.heap.size + 1, by omega, ?_, ?_, ?_, ?_⟩
        · go_simp
        · go_simp
        · rw [← Hset.out]; exact hr2.of (Below.heap_setCell _ _ _ _ (by simp; omega))
        · exact (((hbW.alloc (by omega) _).drew).trans (hF2.below_of (by omega) (by simp; omega))).setCell (Nat.le_refl _) _
end Go.Proofs.Qxb6619336a
