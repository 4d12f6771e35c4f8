import Derived.Test.Qxb6619336aMem
namespace Go.Proofs.Qxb6619336a
open Go.RowKit

def zeroV : Value := .agg #[.int .u64 0, .int .u64 0, .int .u64 0, .string ⟨#[]⟩, .string ⟨#[]⟩]
theorem info34' : (Try.prog.info? 34).map (fun i => (i.zero, i.size, i.bytes)) = some (some zeroV, 5, 56) := by kernel_rfl
theorem info34 : ∃ i, Try.prog.info? 34 = some i ∧ i.zero = some zeroV ∧ i.size = 5 ∧ i.bytes = 56 := by
  cases h : Try.prog.info? 34 with
  | none => have := info34'; rw [h] at this; cases this
  | some i =>
    have := info34'
    rw [h] at this
    simp only [Option.map_some, Option.some.injEq, Prod.mk.injEq] at this
    exact ⟨i, rfl, this⟩
theorem zeros_flat (n : Nat) : (flat (List.replicate n Pr.zero)).toArray = madeCells zeroV.cells (n * 5) := by
  apply Array.ext'
  apply List.ext_getElem?
  intro i
  have hz : zeroV.cells = #[.int .u64 0, .int .u64 0, .int .u64 0, .string ⟨#[]⟩, .string ⟨#[]⟩] := rfl
  by_cases hi : i < n * 5
  · have e : i = (i / 5) * 5 + i % 5 := by omega
    have h5 : i % 5 < 5 := Nat.mod_lt _ (by omega)
    have h1 : (flat (List.replicate n Pr.zero))[i]? = Pr.zero.cells[i % 5]? := by
      have := flat_get (List.replicate n Pr.zero) (i / 5) (i % 5) (by simp; omega) h5
      rw [← e] at this
      rw [this]; simp
    have h2 : (madeCells zeroV.cells (n * 5)).toList[i]? = Pr.zero.cells[i % 5]? := by
      unfold madeCells
      rw [hz]
      simp [hi]
      generalize i % 5 = j at h5
      match j, h5 with
      | 0, _ => rfl
      | 1, _ => rfl
      | 2, _ => rfl
      | 3, _ => rfl
      | 4, _ => rfl
    rw [h2]
    simpa using h1
  · rw [List.getElem?_eq_none (by simp [flat_length]; omega), List.getElem?_eq_none (by simp [size_madeCells]; omega)]
theorem run_mk (n r : Nat) (h : n + r ≤ 1000000) (w : World) : (Instr.makeSlice 25 (.int .i64 n) (.int .i64 ((n : Int) + (r : Int)))).run Try.prog w =
    .ok (.slice (some ⟨w.heap.size, 0, none⟩) n (n + r)) (w.alloc (.cells (flat (List.replicate (n + r) Pr.zero)).toArray 34)) := by
  obtain ⟨i, hi, hz, hs, hb⟩ := info34
  rw [run_make (P := Try.prog) w 25 34 i zeroV Try.underlying25 hi hz .i64 .i64 n ((n : Int) + (r : Int)) (by omega) (by omega) (by rw [hb]; omega) (by omega), hs, zeros_flat]
  have e1 : ((n : Int) + (r : Int)).toNat = n + r := by omega
  have e2 : ((n : Int)).toNat = n := by omega
  rw [e1, e2]

theorem eq_nil (n cap : Nat) (w : World) : (binOp .eql 22 (.slice none n cap) (.slice none 0 0)).run Try.prog w = .ok (.bool true) w := by
  rw [Lib.run_eql_slice_nil w 22 37 none n cap 0 0 Try.underlying22]; rfl
theorem eq_some (a : Addr) (n cap : Nat) (w : World) : (binOp .eql 22 (.slice (some a) n cap) (.slice none 0 0)).run Try.prog w = .ok (.bool false) w := by
  rw [Lib.run_eql_slice_nil w 22 37 (some a) n cap 0 0 Try.underlying22]; rfl

theorem contacts_nil (cap : Nat) (w : World) : Calls Try.prog 8 #[.slice none 0 cap, .int .i64 0] w fun e w' => e = .returned (.slice none 0 0) ∧ w' = w := by
  have hnil := eq_nil 0 cap
  go_enter Try.func8, Try.ntmps8
  go_wp2
  go_ret
  exact ⟨rfl, rfl⟩

/-- what the loop has laid after k rounds -/
def laidTo (ps : List Pr) (r k : Nat) : List Pr := ps.take k ++ List.replicate (ps.length + r - k) Pr.zero
theorem laidTo_zero (ps : List Pr) (r : Nat) : laidTo ps r 0 = List.replicate (ps.length + r) Pr.zero := by simp [laidTo]
theorem laidTo_length (ps : List Pr) (r k : Nat) (h : k ≤ ps.length) : (laidTo ps r k).length = ps.length + r := by simp [laidTo]; omega
theorem laidTo_succ (ps : List Pr) (r k : Nat) (h : k < ps.length) : (laidTo ps r k).set k ps[k] = laidTo ps r (k + 1) := by
  unfold laidTo
  have e : ps.length + r - k = (ps.length + r - (k + 1)) + 1 := by omega
  rw [e, List.replicate_succ, List.set_append_right _ _ (by simp; omega)]
  simp only [List.length_take, Nat.min_eq_left (Nat.le_of_lt h), Nat.sub_self, List.set_cons_zero]
  rw [List.take_succ_eq_append_getElem h, List.append_assoc]; rfl
theorem laidTo_all (ps : List Pr) (r : Nat) : laidTo ps r ps.length = ps ++ List.replicate r Pr.zero := by
  unfold laidTo; rw [List.take_length, Nat.add_sub_cancel_left]

set_option maxHeartbeats 1000000 in
theorem contacts_some (x : Addr) (cap : Nat) (ps : List Pr) (r : Nat) (w : World) (hp : Ps w (some x) ps) (hl : ps.length ≤ 100000) (hr : r ≤ 100000) :
    Calls Try.prog 8 #[.slice (some x) ps.length cap, .int .i64 r] w fun e w' =>
      e = .returned (.slice (some ⟨w.heap.size, 0, none⟩) ps.length (ps.length + r)) ∧ Row w' w.heap.size (ps ++ List.replicate r Pr.zero) ∧ Below w.heap.size w w' := by
  have hnil := eq_some x ps.length cap
  have hmk := run_mk ps.length r (by omega)
  go_enter Try.func8, Try.ntmps8
  go_wp2
  clear hmk hnil
  go_loopw [22] (fun i wr => ∃ k : Nat, k ≤ ps.length ∧ i = .int .i64 k ∧ Row wr w.heap.size (laidTo ps r k) ∧ Below w.heap.size w wr ∧ w.heap.size < wr.heap.size) (fun i _ => ps.length - (intOf i).toNat)
  case atStart => exact ⟨0, Nat.zero_le _, rfl, by rw [laidTo_zero]; exact Row.made w _, (Below.refl _ _).alloc (Nat.le_refl _) _, by simp⟩
  case round =>
    obtain ⟨k, hk, rfl, hrow, hbel, hsz⟩ := hrel
    by_cases hlt : k < ps.length
    · obtain ⟨b, off, ha, hrr⟩ := Ps.at hp (by omega)
      injection ha with ha
      subst ha
      have hb : b < w.heap.size := World.block_lt_of_cell? w _ (five (hrr k hlt)).1
      obtain ⟨c0, c1, c2, c3, c4⟩ := five (rangeAt_below hbel hb (hrr k hlt))
      go_wp2_with fail
      refine (contact _ _ _ _ _ _).mono ?_
      rintro e wx ⟨rfl, hbx⟩
      have hrow2 : Row wx w.heap.size (laidTo ps r k) := hrow.of (hbx.block _ hrow.lt)
      obtain ⟨⟨d0, d1, d2, d3, d4⟩, f0, f1, f2, f3, f4⟩ := hrow2.five k (by rw [laidTo_length ps r k hk]; omega)
      go_wp2
      go_roundw
      case rel =>
        have hset := hrow2.set k ps[k] (by rw [laidTo_length ps r k hk]; omega)
        rw [laidTo_succ ps r k hlt] at hset
        have hfr := Fr.setCells (g := none) (B := w.heap.size) (a := w) (b := w.heap.size) (.inl (Nat.le_refl _)) ps[k].cells (k * 5) wx ((Fr.of_below hbel).trans (Fr.of_below (hbx.mono (Nat.le_of_lt hsz))))
        exact ⟨k + 1, by omega, by go_num, hset, hfr.below, hset.lt⟩
      case measure => simp [intOf]; omega
    · go_wp2
      go_ret
      have e : k = ps.length := by omega
      subst e
      exact ⟨rfl, by rw [← laidTo_all]; exact hrow, hbel⟩

/-- a nil list, room asked for -/
theorem contacts_room (cap : Nat) (r : Nat) (w : World) (hr : r ≤ 100000) (h0 : 0 < r) :
    Calls Try.prog 8 #[.slice none 0 cap, .int .i64 r] w fun e w' =>
      e = .returned (.slice (some ⟨w.heap.size, 0, none⟩) 0 r) ∧ Row w' w.heap.size (List.replicate r Pr.zero) ∧ Below w.heap.size w w' := by
  have hnil := eq_nil 0 cap
  have hmk := run_mk 0 r (by omega)
  simp only [Nat.zero_add, Int.natCast_zero, Int.zero_add] at hmk
  have hr0 : ((r : Int) == 0) = false := by simp; omega
  go_enter Try.func8, Try.ntmps8
  go_wp2
  refine wp_loop_rounds 1 ?_
  rw [rounds_succ]
  go_wp2
  go_ret
  exact ⟨rfl, Row.made w _, (Below.refl _ _).alloc (Nat.le_refl _) _⟩

/-- what zzContacts hands back: nil where there is neither a list nor room, else a new row -/
def Made (w0 w : World) (v : Value) (ps : List Pr) (r : Nat) : Prop :=
  (v = .slice none 0 0 ∧ ps = [] ∧ r = 0) ∨ (v = .slice (some ⟨w0.heap.size, 0, none⟩) ps.length (ps.length + r) ∧ Row w w0.heap.size (ps ++ List.replicate r Pr.zero))
theorem contacts_any (a : Option Addr) (cap : Nat) (ps : List Pr) (r : Nat) (w : World) (hp : Ps w a ps) (hl : ps.length ≤ 100000) (hr : r ≤ 100000) :
    Calls Try.prog 8 #[.slice a ps.length cap, .int .i64 r] w fun e w' => ∃ v, e = .returned v ∧ Made w w' v ps r ∧ Below w.heap.size w w' := by
  cases a with
  | none =>
    have he : ps = [] := by
      rcases hp with h | ⟨b, off, h, _⟩
      · exact h
      · cases h
    subst he
    by_cases h0 : r = 0
    · subst h0
      exact (contacts_nil cap w).mono fun e w' ⟨h1, h2⟩ => ⟨_, h1, .inl ⟨rfl, rfl, rfl⟩, by rw [h2]; exact Below.refl _ _⟩
    · exact (contacts_room cap r w hr (by omega)).mono fun e w' ⟨h1, h2, h3⟩ => ⟨_, h1, .inr ⟨by simp, by simpa using h2⟩, h3⟩
  | some x => exact (contacts_some x cap ps r w hp hl hr).mono fun e w' ⟨h1, h2, h3⟩ => ⟨_, h1, .inr ⟨rfl, h2⟩, h3⟩
end Go.Proofs.Qxb6619336a
