import Derived.Test.Qxb6619336aAdd
namespace Go.Proofs.Qxb6619336a
open Go.RowKit
attribute [local go_sem ↓] Go.wp_at_zero Go.wp_at_succ

/-- a slice of n contacts that the law itself has made (its block lies from B on), over the row ds (spare room counted in); or nil -/
def Sl (B : Nat) (w : World) (v : Value) (n : Nat) (ds : List Pr) : Prop :=
  (v = .slice none 0 0 ∧ n = 0 ∧ ds = []) ∨ ∃ g, B ≤ g ∧ v = .slice (some ⟨g, 0, none⟩) n ds.length ∧ Row w g ds ∧ n ≤ ds.length
theorem Sl.below {B : Nat} {w w' : World} {v : Value} {n : Nat} {ds : List Pr} (h : Sl B w v n ds) (hb : Below w.heap.size w w') : Sl B w' v n ds := by
  rcases h with h | ⟨g, hg, hv, hr, hn⟩
  · exact .inl h
  · exact .inr ⟨g, hg, hv, hr.of (hb.block g hr.lt), hn⟩

theorem Sl.shape {B : Nat} {w : World} {v : Value} {n : Nat} {ds : List Pr} (h : Sl B w v n ds) : ∃ a, v = .slice a n ds.length := by
  rcases h with ⟨rfl, rfl, rfl⟩ | ⟨g, _, rfl, _, _⟩
  · exact ⟨none, rfl⟩
  · exact ⟨_, rfl⟩
theorem Sl.le {B : Nat} {w : World} {v : Value} {n : Nat} {ds : List Pr} (h : Sl B w v n ds) : n ≤ ds.length := by
  rcases h with ⟨_, rfl, rfl⟩ | ⟨g, _, _, _, h⟩
  · simp
  · exact h
theorem Sl.of_made {w w' : World} {v : Value} {ps : List Pr} {r : Nat} (h : Made w w' v ps r) : Sl w.heap.size w' v ps.length (ps ++ List.replicate r Pr.zero) := by
  rcases h with ⟨rfl, rfl, rfl⟩ | ⟨rfl, h⟩
  · exact .inl ⟨rfl, rfl, rfl⟩
  · exact .inr ⟨_, Nat.le_refl _, by simp, h, by simp⟩

set_option maxHeartbeats 1000000 in
theorem zadd_room (B g n : Nat) (ds : List Pr) (fl : Bool) (p : Pr) (w : World) (hB : B ≤ w.heap.size) (hg : B ≤ g) (hr : Row w g ds) (hn : n < ds.length) :
    Calls Try.prog 9 #[.slice (some ⟨g, 0, none⟩) n ds.length, .bool fl, .agg #[.int .u64 p.a, .int .u64 p.b, .int .u64 p.c, .string p.nm, .string p.ad]] w fun e w' =>
      e = .returned (.tuple #[.slice (some ⟨g, 0, none⟩) (n + 1) ds.length, .bool fl]) ∧ Row w' g (ds.set n p) ∧ Below B w w' := by
  have hlt := hr.lt
  go_enter Try.func9, Try.ntmps9
  go_wp2_with fail
  refine (add_room (w.heap.size + 1) g n ds fl p _ (by go_simp) (by go_simp) (by go_simp) ((hr.alloc _).alloc _) hn (by omega) (by simp)).mono ?_
  rintro e wx ⟨rfl, q0, q1, hrow, hF⟩
  go_wp2
  go_quiet (fail)
  go_wp2
  go_ret2
  refine ⟨rfl, hrow, ?_⟩
  exact Below.trans (((Below.refl B w).alloc hB _).alloc (by simp; omega) _) ((hF.drewN _).below_of hg (by omega))

set_option maxHeartbeats 1000000 in
theorem zadd_full (B : Nat) (a : Option Addr) (ds : List Pr) (fl : Bool) (p : Pr) (w : World) (hB : B ≤ w.heap.size) (hr : (a = none ∧ ds = []) ∨ ∃ g, a = some ⟨g, 0, none⟩ ∧ Row w g ds) (hl : ds.length < 20)
    (C : Nat) (hC : (ds.length < 1 ∧ C = 1) ∨ (1 ≤ ds.length ∧ ds.length ≤ 10 ∧ C = 2 * ds.length) ∨ (11 ≤ ds.length ∧ C = 20)) :
    Calls Try.prog 9 #[.slice a ds.length ds.length, .bool fl, .agg #[.int .u64 p.a, .int .u64 p.b, .int .u64 p.c, .string p.nm, .string p.ad]] w fun e w' =>
      ∃ g', B ≤ g' ∧ e = .returned (.tuple #[.slice (some ⟨g', 0, none⟩) (ds.length + 1) C, .bool fl]) ∧ Row w' g' (ds ++ p :: List.replicate (C - ds.length - 1) Pr.zero) ∧ Below B w w' := by
  have Hr : Hid ((a = none ∧ ds = []) ∨ ∃ g, a = some ⟨g, 0, none⟩ ∧ Row w g ds) := hr
  have HC : Hid ((ds.length < 1 ∧ C = 1) ∨ (1 ≤ ds.length ∧ ds.length ≤ 10 ∧ C = 2 * ds.length) ∨ (11 ≤ ds.length ∧ C = 20)) := hC
  clear hr hC
  go_enter Try.func9, Try.ntmps9
  go_wp2_with fail
  refine (add_full (w.heap.size + 1) a ds fl p _ (by go_simp) (by go_simp) (by go_simp) ?_ (by simp) hl C HC.out).mono ?_
  · rcases Hr.out with h | ⟨g, h, hg⟩
    · exact .inl h
    · exact .inr ⟨g, h, (hg.alloc _).alloc _⟩
  rintro e wx ⟨rfl, g', hg', q0, q1, hrow, hF⟩
  go_wp2
  go_quiet (fail)
  go_wp2
  go_ret2
  refine ⟨g', by omega, rfl, hrow, ?_⟩
  exact Below.trans (((Below.refl B w).alloc hB _).alloc (by simp; omega) _) (((Fr.of_below (g := none) hF).drewN _).mono (by omega)).below

/-- how the room grows -/
def growTo (n cap : Nat) : Nat := if n < cap then cap else min (max (2 * n) 1) 20
theorem zadd_any (B : Nat) (v : Value) (n : Nat) (ds : List Pr) (fl : Bool) (p : Pr) (w : World) (hB : B ≤ w.heap.size) (hs : Sl B w v n ds) (hn : n < 20) :
    Calls Try.prog 9 #[v, .bool fl, .agg #[.int .u64 p.a, .int .u64 p.b, .int .u64 p.c, .string p.nm, .string p.ad]] w fun e w' =>
      ∃ v' ds', e = .returned (.tuple #[v', .bool fl]) ∧ Sl B w' v' (n + 1) ds' ∧ ds'.take (n + 1) = ds.take n ++ [p] ∧ ds'.length = growTo n ds.length ∧ Below B w w' := by
  by_cases hlt : n < ds.length
  · rcases hs with ⟨rfl, rfl, rfl⟩ | ⟨g, hg, rfl, hr, _⟩
    · simp at hlt
    · refine (zadd_room B g n ds fl p w hB hg hr hlt).mono fun e w' ⟨h1, h2, h3⟩ => ⟨_, ds.set n p, h1, .inr ⟨g, hg, by simp, h2, by simp; omega⟩, ?_, by simp [growTo, hlt], h3⟩
      rw [List.set_eq_take_append_cons_drop, if_pos hlt, List.take_append]
      simp [Nat.min_eq_left (Nat.le_of_lt hlt)]
      rw [List.take_of_length_le (by simp; omega)]
  · obtain ⟨a, rfl, hv, hr⟩ : ∃ a, n = ds.length ∧ v = .slice a ds.length ds.length ∧ ((a = none ∧ ds = []) ∨ ∃ g, a = some ⟨g, 0, none⟩ ∧ Row w g ds) := by
      rcases hs with ⟨rfl, rfl, rfl⟩ | ⟨g, hg, rfl, hr, hle⟩
      · exact ⟨none, rfl, rfl, .inl ⟨rfl, rfl⟩⟩
      · have e : n = ds.length := by omega
        subst e
        exact ⟨_, rfl, rfl, .inr ⟨g, rfl, hr⟩⟩
    subst hv
    have hgt : growTo ds.length ds.length = min (max (2 * ds.length) 1) 20 := by simp [growTo]
    refine (zadd_full B a ds fl p w hB hr hn (growTo ds.length ds.length) (by rw [hgt]; omega)).mono fun e w' ⟨g', hg', h1, h2, h3⟩ => ⟨_, _, h1, .inr ⟨g', hg', ?_, h2, ?_⟩, ?_, ?_, h3⟩
    · simp; rw [hgt]; omega
    · simp
    · rw [List.take_append]; simp; exact List.take_of_length_le (by omega)
    · simp; rw [hgt]; omega
end Go.Proofs.Qxb6619336a
