import Derived.Test.Qxb6619336aOps2
import Derived.BigQuiet
import Derived.Deep.RegionLaw
namespace Go.Proofs.Qxb6619336a
open Go.RowKit
attribute [local go_sem ↓] Go.wp_at_zero Go.wp_at_succ

theorem ret_slice {a : Option Addr} {n n' c c' : Nat} (h : n = n') (k : c = c') : Ending.returned (.slice a n c) = .returned (.slice a n' c') := by rw [h, k]
theorem Row.news {w : World} {vb : Nat} {p : Pr} (h : Row w vb [p]) : ∀ j u, p.cells[j]? = some u → w.cell? ((⟨vb, 0, none⟩ : Addr).add j) = some u := by
  have := h.cells 0 1
  simpa [flat] using this

set_option maxHeartbeats 1000000 in
theorem insert_last (a : Option Addr) (n : Nat) (ds : List Pr) (p : Pr) (vb : Nat) (w : World) (hr : At w a n ds) (hn : n ≤ 100000) (hv : Row w vb [p]) :
    Calls Try.prog 25 #[.slice a n ds.length, .int .i64 n, .slice (some ⟨vb, 0, none⟩) 1 1] w fun e w' =>
      ∃ g' ds', e = .returned (.slice (some ⟨g', 0, none⟩) (n + 1) ds'.length) ∧ Row w' g' ds' ∧ ds'.take (n + 1) = ds.take n ++ [p] ∧ n + 1 ≤ ds'.length ∧ Fr (ownOf a) w.heap.size w w' ∧ (a = some ⟨g', 0, none⟩ ∨ w.heap.size ≤ g') := by
  rcases hr with ⟨rfl, rfl, rfl⟩ | ⟨g, rfl, hrow, hle⟩
  · go_enter Try.func25, Try.ntmps25
    go_wp2_with (at_builtin; refine wpList_append_any rfl _ _ rfl _ _ _ [] p _ _ (by rfl) (by rfl) rfl (.inl ⟨rfl, rfl, rfl⟩) (by omega) hv.news ?h)
    intro g' ds' w' q1 q2 q3 q4 q5
    have Q2 : Hid _ := q2
    clear q2
    go_wp2
    go_ret
    exact ⟨g', ds', rfl, q1, Q2.out, q3, q4, .inr q5⟩
  · go_enter Try.func25, Try.ntmps25
    go_wp2_with (at_builtin; refine wpList_append_any rfl _ _ rfl _ _ _ ds p _ _ (by rfl) (by rfl) (by omega) (.inr ⟨g, rfl, hrow, hle⟩) (by omega) hv.news ?h)
    all_goals
      intro g' ds' w' q1 q2 q3 q4 q5
      have Q2 : Hid _ := q2
      clear q2
      go_wp2
      go_ret
      exact ⟨g', ds', rfl, q1, Q2.out, q3, q4, q5.elim (fun e => .inl (by rw [e])) .inr⟩

/-- the insertion, told of the whole row -/
theorem lay_grow (ds : List Pr) (i k r : Nat) (p : Pr) (hi : i < ds.length) (hk : i + k = ds.length + 1) :
    lay (lay (ds.take i ++ List.replicate (k + r) Pr.zero) i [p]) (i + 1) (ds.drop i) = ds.take i ++ p :: (ds.drop i ++ List.replicate r Pr.zero) := by
  have hti : (ds.take i).length = i := by simp; omega
  have e1 : lay (ds.take i ++ List.replicate (k + r) Pr.zero) i [p] = ds.take i ++ (p :: List.replicate (k + r - 1) Pr.zero) := by
    unfold lay
    rw [List.take_append, List.drop_append, hti, Nat.sub_self, List.take_of_length_le (by omega), List.drop_of_length_le (by simp; omega)]
    simp
  rw [e1]
  unfold lay
  have hdl : (ds.drop i).length = k - 1 := by simp; omega
  rw [List.take_append, List.drop_append, hti, List.take_of_length_le (l := ds.take i) (by omega), List.drop_of_length_le (l := ds.take i) (by simp; omega), hdl]
  rw [show i + 1 - i = 1 by omega, show i + 1 + (k - 1) - i = k by omega]
  obtain ⟨k', rfl⟩ : ∃ k', k = k' + 1 := ⟨k - 1, by omega⟩
  simp
theorem lay_room (ds : List Pr) (n i : Nat) (p : Pr) (hi : i < n) (hn : n < ds.length) :
    (lay (lay ds (i + 1) ((ds.drop i).take (n - i))) i [p]).take (n + 1) = (ds.take n).take i ++ p :: (ds.take n).drop i := by
  have hl : ((ds.drop i).take (n - i)).length = n - i := by simp; omega
  have e1 : lay ds (i + 1) ((ds.drop i).take (n - i)) = ds.take (i + 1) ++ ((ds.drop i).take (n - i) ++ ds.drop (n + 1)) := by
    unfold lay; rw [hl, show i + 1 + (n - i) = n + 1 by omega]
  rw [e1]
  generalize hZ : (ds.drop i).take (n - i) = Z at hl ⊢
  have h1 : (ds.take (i + 1) ++ (Z ++ ds.drop (n + 1))).take i = ds.take i := by
    rw [List.take_append_of_le_length (by simp; omega), List.take_take, Nat.min_eq_left (Nat.le_succ i)]
  have h2 : (ds.take (i + 1) ++ (Z ++ ds.drop (n + 1))).drop (i + 1) = Z ++ ds.drop (n + 1) := List.drop_left' (by simp; omega)
  unfold lay
  simp only [List.length_cons, List.length_nil, Nat.zero_add]
  rw [h1, h2]
  have h3 : ds.take i ++ ([p] ++ (Z ++ ds.drop (n + 1))) = (ds.take i ++ p :: Z) ++ ds.drop (n + 1) := by simp
  rw [h3, List.take_left' (by simp; omega), List.take_take, Nat.min_eq_left (by omega), ← hZ, List.drop_take]

set_option maxHeartbeats 1000000 in
theorem insert_grow (g : Nat) (ds : List Pr) (i : Nat) (p : Pr) (vb : Nat) (w : World) (hr : Row w g ds) (hi : i < ds.length) (hn : ds.length ≤ 100000) (hv : Row w vb [p]) :
    Calls Try.prog 25 #[.slice (some ⟨g, 0, none⟩) ds.length ds.length, .int .i64 i, .slice (some ⟨vb, 0, none⟩) 1 1] w fun e w' =>
      ∃ g' ds', e = .returned (.slice (some ⟨g', 0, none⟩) (ds.length + 1) ds'.length) ∧ Row w' g' ds' ∧ ds'.take (ds.length + 1) = ds.take i ++ p :: ds.drop i ∧ ds.length + 1 ≤ ds'.length ∧ Below w.heap.size w w' ∧ w.heap.size ≤ g' := by
  have hne : ((i : Int) == (ds.length : Int)) = false := by simp; omega
  obtain ⟨k, hk⟩ : ∃ k : Nat, i + k = ds.length + 1 := ⟨ds.length + 1 - i, by omega⟩
  have hkk : (ds.length : Int) + 1 - (i : Int) = (k : Int) := by omega
  have Hk : Hid (i + k = ds.length + 1) := hk
  clear hk
  go_enter Try.func25, Try.ntmps25
  go_wp2_with (at_builtin; refine wpList_append_zeros rfl _ _ rfl g i _ k ds (by rfl) (by rfl) rfl hr (by omega) (by have := Hk.out; omega) (by have := Hk.out; omega) ?h)
  intro r w1 hr1 hb1 hs1
  have hv1 : Row w1 vb [p] := hv.of (hb1.block vb hv.lt)
  have hr0 : Row w1 g ds := hr.of (hb1.block g hr.lt)
  have hk2 : i < i + k + r := by have := Hk.out; omega
  have hk3 : ¬ i + k + r = i := by omega
  have hk4 : i ≤ i + k := by omega
  go_wp2_with (refine wpList_copy5 rfl _ _ rfl w.heap.size i _ _ _ (ds.take i ++ List.replicate (k + r) Pr.zero) _ _ _ [p] (by rfl) (by rfl) ?ho ?hr ?hq ?hf ?hn ?h)
  case ho => rfl
  case hr => exact hr1
  case hq => have := Hk.out; show 1 = min 1 k; omega
  case hf => have := Hk.out; simp; omega
  case hn => have := hv1.news; simpa [flat] using this
  intro w2 hr2 hF2 hs2
  have hr02 : Row w2 g ds := hF2.row hr0 hr0.lt (by have := hr.lt; simp; omega)
  have hb2 : Below w.heap.size w w2 := hb1.trans (hF2.below_of (Nat.le_refl _) (Nat.le_of_lt hs1))
  have hwr : IntKind.i64.wrap ((i : Int) + 1) = (i : Int) + 1 := by rw [IntKind.wrap_i64]; omega
  have hi5 : ((i : Int) + 1).toNat = i + 1 := by omega
  have hk5 : ¬ i + k + r = i + 1 := by have := Hk.out; omega
  have hk6 : (0 : Int) ≤ (i : Int) + 1 := by omega
  have hk7 : (i : Int) + 1 ≤ ((i : Int) + (k : Int)) := by have := Hk.out; omega
  have hk8 : i + 1 ≤ i + k := by have := Hk.out; omega
  have hk9 : i ≤ ds.length := by omega
  have hk10 : ¬ ds.length = i := by omega
  go_wp2
  have hqs : (ds.drop i).length = Nat.min (ds.length - i) (i + k - (i + 1)) := by have := Hk.out; show _ = min _ _; simp; omega
  have hfit : i + 1 + (ds.drop i).length ≤ (lay (ds.take i ++ List.replicate (k + r) Pr.zero) i [p]).length := by
    have := Hk.out
    rw [lay_length _ _ _ (by simp; omega)]
    simp; omega
  have hsrc : ∀ j u, (flat (ds.drop i))[j]? = some u → w2.drew.cell? ((⟨g, i * 5, none⟩ : Addr).add j) = some u := by
    have := hr02.drew.cells i (ds.length - i)
    rw [List.take_of_length_le (by simp)] at this
    exact this
  have Hqs : Hid _ := hqs
  have Hfit : Hid _ := hfit
  have Hsrc : Hid _ := hsrc
  clear hqs hfit hsrc
  go_region_law ((refine step_copy5 rfl (.tmp 50) (.tmp 53) rfl w.heap.size (i + 1) ((i + 1) * 5) (i + k - (i + 1)) (i + k + r - (i + 1)) (lay (ds.take i ++ List.replicate (k + r) Pr.zero) i [p]) ⟨g, i * 5, none⟩ (ds.length - i) (ds.length - i) (ds.drop i) (by simp [Act.eval, Act.put]) (by simp [Act.eval, Act.put]) rfl hr2.drew Hqs.out Hfit.out Hsrc.out ?_; intro w3 hr3 hF3 hs3))
  all_goals
    go_wp2
    go_ret
    have hkk2 := Hk.out
    have hlay := lay_grow ds i k r p hi hkk2
    have hlen : (ds.take i ++ p :: (ds.drop i ++ List.replicate r Pr.zero)).length = i + k + r := by simp; omega
    refine ⟨w.heap.size, ds.take i ++ p :: (ds.drop i ++ List.replicate r Pr.zero), ret_slice hkk2 hlen.symm, by rw [← hlay]; exact hr3, ?_, by omega, hb2.trans ((Below.refl _ _).drew.trans (hF3.below_of (Nat.le_refl _) (by simp only [World.size_drew]; omega))), Nat.le_refl _⟩
    have e : ds.take i ++ p :: (ds.drop i ++ List.replicate r Pr.zero) = (ds.take i ++ p :: ds.drop i) ++ List.replicate r Pr.zero := by simp
    rw [e, List.take_left' (by simp; omega)]

theorem run_overlaps (w : World) (g vb o lb cb : Nat) (ds : List Pr) (p : Pr) (hr : Row w g ds) (hd : 0 < ds.length) (hv : Row w vb [p]) (hne : vb ≠ g) :
    (callFunc 26 #[.slice (some ⟨vb, 0, none⟩) 1 1, .slice (some ⟨g, o, none⟩) lb cb]).run Try.prog w = .ok (.value (.bool false)) w := by
  have hr' : w.heap[g]? = some (.cells (flat ds).toArray 34 (0, 0)) := hr
  have hv' : w.heap[vb]? = some (.cells (flat [p]).toArray 34 (0, 0)) := hv
  have s1 : w.shape? vb = some (34, 5) := by simp [World.shape?, hv']; rfl
  have s2 : w.shape? g = some (34, (flat ds).length) := by simp [World.shape?, hr']
  rw [run_callFunc_extern Try.func26 (by kernel_rfl) (by kernel_rfl) (by kernel_rfl) (e := Extern.SlicesOverlaps.overlaps #[25, 25] #[4]) (by kernel_rfl),
    Lib.run_overlaps_apart w 25 4 34 Try.underlying25 5 run_sizeOf34 ⟨vb, 0, none⟩ ⟨g, o, none⟩ 1 1 lb cb hne 34 34 5 (flat ds).length s1 s2 (by rw [flat_length]; omega) (by simp [World.frozen?, hv']) (by simp [World.frozen?, hv'])]
  rfl

set_option maxRecDepth 1000000 in
set_option maxHeartbeats 1000000 in
theorem insert_room (g n : Nat) (ds : List Pr) (i : Nat) (p : Pr) (vb : Nat) (w : World) (hr : Row w g ds) (hi : i < n) (hn : n < ds.length) (hn2 : n ≤ 100000) (hv : Row w vb [p]) (hne : vb ≠ g) :
    Calls Try.prog 25 #[.slice (some ⟨g, 0, none⟩) n ds.length, .int .i64 i, .slice (some ⟨vb, 0, none⟩) 1 1] w fun e w' =>
      ∃ ds', e = .returned (.slice (some ⟨g, 0, none⟩) (n + 1) ds'.length) ∧ Row w' g ds' ∧ ds'.take (n + 1) = (ds.take n).take i ++ p :: (ds.take n).drop i ∧ n + 1 ≤ ds'.length ∧ Fr (some g) w.heap.size w w' := by
  have hne1 : ((i : Int) == (n : Int)) = false := by simp; omega
  have hk5 : ¬ ds.length = i + 1 := by omega
  have hk6 : ¬ ds.length = i := by omega
  have hov := run_overlaps w g vb ((i + 1) * 5) (n - i) (ds.length - (i + 1)) ds p hr (by omega) hv hne
  go_enter Try.func25, Try.ntmps25
  go_wp2
  clear hov
  have hwr : IntKind.i64.wrap ((i : Int) + 1) = (i : Int) + 1 := by rw [IntKind.wrap_i64]; omega
  have hi5 : ((i : Int) + 1).toNat = i + 1 := by omega
  have hk7 : (i : Int) + 1 ≤ (n : Int) + 1 := by omega
  have hk8 : i + 1 ≤ n + 1 := by omega
  have hk9 : i ≤ n + 1 := by omega
  have hk10 : (i : Int) ≤ (n : Int) + 1 := by omega
  have hk11 : (0 : Int) ≤ (i : Int) + 1 := by omega
  have hqs : ((ds.drop i).take (n - i)).length = Nat.min (n + 1 - i) (n - i) := by show _ = min _ _; simp; omega
  have hfit : i + 1 + ((ds.drop i).take (n - i)).length ≤ ds.length := by simp; omega
  have Hqs : Hid _ := hqs
  have Hfit : Hid _ := hfit
  clear hqs hfit
  go_region_law ((refine step_copy5 rfl (.tmp 73) (.tmp 76) rfl g (i + 1) ((i + 1) * 5) (n - i) (ds.length - (i + 1)) ds ⟨g, i * 5, none⟩ (n + 1 - i) (ds.length - i) ((ds.drop i).take (n - i)) (by simp [Act.eval, Act.put]) (by simp [Act.eval, Act.put]) rfl hr.drew Hqs.out Hfit.out (hr.drew.cells i (n - i)) ?_; intro w3 hr3 hF3 hs3))
  all_goals
    have hv3 : Row w3 vb [p] := hF3.row hv.drew hv.lt (by simp; omega)
    go_wp2_with (refine wpList_copy5 rfl _ _ rfl g i _ _ _ (lay ds (i + 1) ((ds.drop i).take (n - i))) _ _ _ [p] (by rfl) (by rfl) ?ho hr3 ?hq ?hf ?hn ?h)
  case ho => rfl
  case hq => show 1 = min 1 _; omega
  case hf => rw [lay_length _ _ _ Hfit.out]; simp; omega
  case hn => have := hv3.news; simpa [flat] using this
  intro w4 hr4 hF4 hs4
  go_wp2
  go_ret
  have hlen : (lay (lay ds (i + 1) ((ds.drop i).take (n - i))) i [p]).length = ds.length := by
    rw [lay_length _ _ _ (by rw [lay_length _ _ _ Hfit.out]; simp; omega), lay_length _ _ _ Hfit.out]
  refine ⟨_, ret_slice rfl hlen.symm, hr4, lay_room ds n i p hi hn, by omega, ?_⟩
  exact ((Fr.refl _ _ _).drew.trans (hF3.mono (by simp only [World.size_drew]; omega))).trans (hF4.mono (by omega))

/-- slices.Insert of one contact at i -/
theorem insert_any (a : Option Addr) (n : Nat) (ds : List Pr) (i : Nat) (p : Pr) (vb : Nat) (w : World) (hr : At w a n ds) (hi : i ≤ n) (hn : n ≤ 100000) (hv : Row w vb [p]) (hne : ∀ g, a = some ⟨g, 0, none⟩ → vb ≠ g) :
    Calls Try.prog 25 #[.slice a n ds.length, .int .i64 i, .slice (some ⟨vb, 0, none⟩) 1 1] w fun e w' =>
      ∃ g' ds', e = .returned (.slice (some ⟨g', 0, none⟩) (n + 1) ds'.length) ∧ Row w' g' ds' ∧ ds'.take (n + 1) = (ds.take n).take i ++ p :: (ds.take n).drop i ∧ n + 1 ≤ ds'.length ∧ Fr (ownOf a) w.heap.size w w' ∧ (a = some ⟨g', 0, none⟩ ∨ w.heap.size ≤ g') := by
  by_cases h : i = n
  · subst h
    refine (insert_last a i ds p vb w hr hn hv).mono fun e w' ⟨g', ds', h1, h2, h3, h4⟩ => ⟨g', ds', h1, h2, ?_, h4⟩
    rw [h3, List.take_take, Nat.min_self, List.drop_of_length_le (by simp; omega)]
  · rcases hr with ⟨_, rfl, _⟩ | ⟨g, rfl, hrow, hle⟩
    · omega
    · by_cases hf : n < ds.length
      · exact (insert_room g n ds i p vb w hrow (by omega) hf hn hv (hne g rfl)).mono fun e w' ⟨ds', h1, h2, h3, h4, h5⟩ => ⟨g, ds', h1, h2, h3, h4, h5, .inl rfl⟩
      · have e : n = ds.length := by omega
        subst e
        refine (insert_grow g ds i p vb w hrow (by omega) hn hv).mono fun e w' ⟨g', ds', h1, h2, h3, h4, h5, h6⟩ => ⟨g', ds', h1, h2, ?_, h4, Fr.of_below h5, .inr h6⟩
        rw [h3, List.take_length]
end Go.Proofs.Qxb6619336a
