import Derived.Test.Qxb6619336aRows
import Derived.WalkKit
import Derived.Deep.Light
import Derived.Deep.RegionHeld3
import Derived.Deep.DrawnRows
import Derived.WalkSpells
import Derived.WalkLawsBesides
namespace Go.Proofs.Qxb6619336a
open Go.RowKit
attribute [local go_sem ↓] Go.wp_at_zero Go.wp_at_succ

/-! ### a peer (a contact): five cells -/
structure Pr where
  a : Int
  b : Int
  c : Int
  nm : ByteArray
  ad : ByteArray
def Pr.cells (p : Pr) : List Value := [.int .u64 p.a, .int .u64 p.b, .int .u64 p.c, .string p.nm, .string p.ad]
/-- the peers of a slice that lies at a: read only -/
def Ps (w : World) (a : Option Addr) (ps : List Pr) : Prop :=
  ps = [] ∨ ∃ b off, a = some ⟨b, off, none⟩ ∧ b < w.heap.size ∧ ∀ i p, ps[i]? = some p → w.rangeAt b (off + i * 5) p.cells
theorem rangeAt_below {B : Nat} {w w' : World} (h : Below B w w') {b o : Nat} {cs : List Value} (hb : b < B) (hr : w.rangeAt b o cs) : w'.rangeAt b o cs :=
  fun j v hv => by rw [h.cell (p := ⟨b, o + j, none⟩) hb]; exact hr j v hv
theorem Ps.below {w w' : World} {a : Option Addr} {ps : List Pr} (h : Ps w a ps) (hb : Below w.heap.size w w') : Ps w' a ps := by
  rcases h with h | ⟨b, off, ha, hlt, hr⟩
  · exact .inl h
  · exact .inr ⟨b, off, ha, Nat.lt_of_lt_of_le hlt hb.size, fun i p hp => rangeAt_below hb hlt (hr i p hp)⟩
/-- the five cells of peer i, as the walk spells them -/
theorem five {w : World} {b o : Nat} {p : Pr} (h : w.rangeAt b o p.cells) :
    w.cell? ⟨b, o, none⟩ = some (.int .u64 p.a) ∧ w.cell? ⟨b, o + 1, none⟩ = some (.int .u64 p.b) ∧ w.cell? ⟨b, o + 2, none⟩ = some (.int .u64 p.c) ∧
      w.cell? ⟨b, o + 3, none⟩ = some (.string p.nm) ∧ w.cell? ⟨b, o + 4, none⟩ = some (.string p.ad) :=
  ⟨h 0 _ rfl, h 1 _ rfl, h 2 _ rfl, h 3 _ rfl, h 4 _ rfl⟩

theorem ret_int {k : IntKind} {a b : Int} (h : a = b) : Ending.returned (.int k a) = .returned (.int k b) := by rw [h]
theorem ret_bool {x y : Bool} (h : x = y) : Ending.returned (.bool x) = .returned (.bool y) := by rw [h]
def AnyBool (e : Ending) : Prop := ∃ b : Bool, e = .returned (.bool b)
theorem Ps.at {w : World} {a : Option Addr} {ps : List Pr} (h : Ps w a ps) : 0 < ps.length → ∃ b off, a = some ⟨b, off, none⟩ ∧ ∀ i (hi : i < ps.length), w.rangeAt b (off + i * 5) ps[i].cells := by
  intro hl
  rcases h with rfl | ⟨b, off, rfl, _, hr⟩
  · simp at hl
  · exact ⟨b, off, rfl, fun i hi => hr i _ (List.getElem?_eq_getElem hi)⟩
theorem makeID (a b c : Int) (w : World) : Calls Try.prog 16 #[.int .u64 a, .int .u64 b, .int .u64 c] w fun e w' =>
    e = .returned (.agg #[.int .u64 a, .int .u64 b, .int .u64 c]) ∧ w' = w.alloc (.cells #[.int .u64 a, .int .u64 b, .int .u64 c] 32) := by
  go_enter Try.func16, Try.ntmps16
  go_wp2
  exact bodyPost_ret (v := .agg #[.int .u64 a, .int .u64 b, .int .u64 c]) (by simp [results, Try.results16, go_sem]) rfl ⟨rfl, rfl⟩

theorem contact (a b c : Int) (nm ad : ByteArray) (w : World) : Calls Try.prog 10 #[.agg #[.int .u64 a, .int .u64 b, .int .u64 c, .string nm, .string ad]] w fun e w' =>
    e = .returned (.agg #[.int .u64 a, .int .u64 b, .int .u64 c, .string nm, .string ad]) ∧ Below w.heap.size w w' := by
  go_enter Try.func10, Try.ntmps10
  go_wp2
  go_region_held3 (fun w' => w'.cell? ⟨w.heap.size, 0, none⟩ = some (.int .u64 a) ∧ w'.cell? ⟨w.heap.size, 1, none⟩ = some (.int .u64 b) ∧ w'.cell? ⟨w.heap.size, 2, none⟩ = some (.int .u64 c) ∧ w'.cell? ⟨w.heap.size, 3, none⟩ = some (.string nm) ∧ w'.cell? ⟨w.heap.size, 4, none⟩ = some (.string ad)) (go_keep)
    ((go_at_call 16; refine (makeID _ _ _ _).mono ?_; rintro e wx ⟨rfl, rfl⟩))
  rename_i hHeld
  clear hHeld
  go_wp2
  refine bodyPost_ret (v := .agg #[.int .u64 a, .int .u64 b, .int .u64 c, .string nm, .string ad]) (by simp [results, Try.results10, go_sem]) rfl ⟨rfl, ?_⟩
  exact ((((Below.refl _ _).alloc (Nat.le_refl _) _).alloc (by simp) _).alloc (by simp; omega) _).drew

set_option maxHeartbeats 1000000 in
theorem zzBytes_some (t : Int) (b off cap : Nat) (ps : List Pr) (w : World) (h0 : 0 ≤ t) (h1 : t ≤ 2097152) (hl : ps.length ≤ 4096)
    (hr : ∀ i p, ps[i]? = some p → w.rangeAt b (off + i * 5) p.cells) :
    Calls Try.prog 7 #[.int .i64 t, .slice (some ⟨b, off, none⟩) ps.length cap] w fun e w' => (∃ r : Int, e = .returned (.int .i64 r) ∧ 0 ≤ r ∧ r ≤ 2097152) ∧ w' = w := by
  by_cases ht : 1048576 < t
  · go_enter Try.func7, Try.ntmps7
    go_wp2
    go_ret
    exact ⟨⟨t, rfl, h0, h1⟩, rfl⟩
  go_enter Try.func7, Try.ntmps7
  go_wp2
  go_loop [0, 16] (fun s i => ∃ (k : Nat) (r : Int), k ≤ ps.length ∧ i = .int .i64 k ∧ s = .int .i64 r ∧ 0 ≤ r ∧ r ≤ 1212416) (fun _ i => ps.length - (intOf i).toNat)
  case atStart => exact ⟨0, _, Nat.zero_le _, rfl, rfl, by omega, by omega⟩
  case round =>
    obtain ⟨k, r, hk, rfl, rfl, r0, r1⟩ := hrel
    by_cases hlt : k < ps.length
    · obtain ⟨c0, c1, c2, c3, c4⟩ := five (hr k ps[k] (List.getElem?_eq_getElem hlt))
      by_cases hbig : 1048576 < r
      · go_wp2
        go_ret
        exact ⟨⟨r, rfl, r0, by omega⟩, rfl⟩
      · go_wp2
        · go_ret
          exact ⟨⟨1048577, rfl, by omega, by omega⟩, rfl⟩
        · go_ret
          exact ⟨⟨1048577, rfl, by omega, by omega⟩, rfl⟩
        · go_round
          case rel => exact ⟨k + 1, r + ps[k].nm.size + ps[k].ad.size, by omega, by go_num, rfl, by omega, by omega⟩
          case measure => simp [intOf]; omega
    · go_wp2
      go_ret
      exact ⟨⟨r, rfl, r0, by omega⟩, rfl⟩

theorem zzBytes_none (t : Int) (a : Option Addr) (cap : Nat) (w : World) (h0 : 0 ≤ t) (h1 : t ≤ 2097152) :
    Calls Try.prog 7 #[.int .i64 t, .slice a 0 cap] w fun e w' => (∃ r : Int, e = .returned (.int .i64 r) ∧ 0 ≤ r ∧ r ≤ 2097152) ∧ w' = w := by
  by_cases ht : 1048576 < t
  · go_enter Try.func7, Try.ntmps7
    go_wp2
    go_ret
    exact ⟨⟨t, rfl, h0, h1⟩, rfl⟩
  go_enter Try.func7, Try.ntmps7
  go_wp2
  refine wp_loop_rounds 1 ?_
  rw [rounds_succ]
  go_wp2
  go_ret
  exact ⟨⟨t, rfl, h0, h1⟩, rfl⟩
theorem zzBytes_any (t : Int) (a : Option Addr) (cap : Nat) (ps : List Pr) (w : World) (h0 : 0 ≤ t) (h1 : t ≤ 2097152) (hl : ps.length ≤ 4096) (hp : Ps w a ps) :
    Calls Try.prog 7 #[.int .i64 t, .slice a ps.length cap] w fun e w' => (∃ r : Int, e = .returned (.int .i64 r) ∧ 0 ≤ r ∧ r ≤ 2097152) ∧ w' = w := by
  rcases hp with rfl | ⟨b, off, rfl, _, hr⟩
  · exact zzBytes_none t a cap w h0 h1
  · exact zzBytes_some t b off cap ps w h0 h1 hl hr

theorem zzMax_any (a b : Int) (w : World) : Calls Try.prog 11 #[.int .i64 a, .int .i64 b] w fun e w' => e = .returned (.int .i64 (max a b)) ∧ w' = w := by
  by_cases h : b < a
  · go_enter Try.func11, Try.ntmps11
    go_wp2
    go_ret
    exact ⟨ret_int (by omega), rfl⟩
  · go_enter Try.func11, Try.ntmps11
    go_wp2
    go_ret
    exact ⟨ret_int (by omega), rfl⟩
end Go.Proofs.Qxb6619336a
