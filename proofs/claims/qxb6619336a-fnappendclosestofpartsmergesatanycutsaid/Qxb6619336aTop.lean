namespace Go.Proofs.Qxb6619336a.Top
section
variable {α : Type} (key : α → Nat)

/-- c laid in ahead of the first that is not nearer -/
def ins (c : α) : List α → List α
  | [] => [c]
  | d :: L => if key d < key c then d :: ins c L else c :: d :: L
def srt (qs : List α) : List α := qs.foldl (fun L c => ins key c L) []
def top (m : Nat) (qs : List α) : List α := qs.foldl (fun L c => (ins key c L).take m) []

theorem ins_length (c : α) (L : List α) : (ins key c L).length = L.length + 1 := by
  induction L with
  | nil => rfl
  | cons d L ih =>
    unfold ins
    split
    · simp [ih]
    · simp
theorem ins_at (c : α) (L : List α) (i : Nat) (hi : i ≤ L.length) (h1 : ∀ q (hq : q < L.length), q < i → key L[q] < key c) (h2 : ∀ q (hq : q < L.length), i ≤ q → ¬ key L[q] < key c) :
    ins key c L = L.take i ++ c :: L.drop i := by
  induction L generalizing i with
  | nil => simp at hi; subst hi; rfl
  | cons d L ih =>
    unfold ins
    cases i with
    | zero =>
      have h20 : ¬ key d < key c := h2 0 (by simp) (Nat.le_refl _)
      rw [if_neg h20]
      simp
    | succ i =>
      have h10 : key d < key c := h1 0 (by simp) (by omega)
      rw [if_pos h10]
      simp only [List.take_succ_cons, List.drop_succ_cons, List.cons_append]
      rw [ih i (by simpa using hi) (fun q hq hqi => h1 (q + 1) (by simpa using hq) (by omega)) (fun q hq hqi => h2 (q + 1) (by simpa using hq) (by omega))]
theorem take_ins (c : α) (L : List α) (m : Nat) : (ins key c (L.take m)).take m = (ins key c L).take m := by
  induction L generalizing m with
  | nil => simp
  | cons d L ih =>
    cases m with
    | zero => simp
    | succ m =>
      simp only [List.take_succ_cons, ins]
      split
      · simp only [List.take_succ_cons, ih]
      · simp only [List.take_succ_cons]
        congr 1
        cases m with
        | zero => simp
        | succ m => simp [List.take_take, Nat.min_eq_left (Nat.le_succ m)]
theorem top_from (m : Nat) (qs A : List α) : qs.foldl (fun L c => (ins key c L).take m) (A.take m) = (qs.foldl (fun L c => ins key c L) A).take m := by
  induction qs generalizing A with
  | nil => rfl
  | cons c qs ih =>
    simp only [List.foldl_cons]
    rw [take_ins, ih]
theorem top_eq (m : Nat) (qs : List α) : top key m qs = (srt key qs).take m := by
  have := top_from key m qs []
  simpa [top, srt] using this
theorem srt_append (xs ys : List α) : srt key (xs ++ ys) = ys.foldl (fun L c => ins key c L) (srt key xs) := by simp [srt]
theorem top_append (m : Nat) (xs ys : List α) : top key m (xs ++ ys) = ys.foldl (fun L c => (ins key c L).take m) (top key m xs) := by simp [top]
theorem top_snoc (m : Nat) (xs : List α) (c : α) : top key m (xs ++ [c]) = (ins key c (top key m xs)).take m := by simp [top]
theorem srt_snoc (xs : List α) (c : α) : srt key (xs ++ [c]) = ins key c (srt key xs) := by simp [srt]

theorem ins_perm (c : α) (L : List α) : (ins key c L).Perm (c :: L) := by
  induction L with
  | nil => exact List.Perm.refl _
  | cons d L ih =>
    unfold ins
    split
    · exact (List.Perm.cons d ih).trans (List.Perm.swap c d L)
    · exact List.Perm.refl _
theorem foldl_perm (qs A : List α) : (qs.foldl (fun L c => ins key c L) A).Perm (A ++ qs) := by
  induction qs generalizing A with
  | nil => simp
  | cons c qs ih =>
    simp only [List.foldl_cons]
    refine (ih _).trans ?_
    refine ((ins_perm key c A).append_right qs).trans ?_
    simpa using (List.perm_middle (a := c) (l₁ := A) (l₂ := qs)).symm
theorem srt_perm (qs : List α) : (srt key qs).Perm qs := by simpa [srt] using foldl_perm key qs []
theorem srt_length (qs : List α) : (srt key qs).length = qs.length := (srt_perm key qs).length_eq

/-- near first -/
def Up (L : List α) : Prop := ∀ i j (hi : i < j) (hj : j < L.length), key (L[i]'(by omega)) ≤ key L[j]
theorem up_cons {d : α} {L : List α} (h : Up key L) (hd : ∀ x ∈ L, key d ≤ key x) : Up key (d :: L) := by
  intro i j hi hj
  cases j with
  | zero => omega
  | succ j =>
    cases i with
    | zero => simpa using hd _ (List.getElem_mem (by simpa using hj))
    | succ i => simpa using h i j (by omega) (by simpa using hj)
theorem up_tail {d : α} {L : List α} (h : Up key (d :: L)) : Up key L ∧ ∀ x ∈ L, key d ≤ key x := by
  refine ⟨fun i j hi hj => h (i + 1) (j + 1) (by omega) (by simpa using hj), fun x hx => ?_⟩
  obtain ⟨i, hi, rfl⟩ := List.mem_iff_getElem.1 hx
  exact h 0 (i + 1) (by omega) (by simpa using hi)
theorem ins_mem {c x : α} {L : List α} (h : x ∈ ins key c L) : x = c ∨ x ∈ L := by
  have := (ins_perm key c L).mem_iff.1 h
  simpa using this
theorem ins_up (c : α) {L : List α} (h : Up key L) : Up key (ins key c L) := by
  induction L with
  | nil => intro i j hi hj; simp [ins] at hj; omega
  | cons d L ih =>
    obtain ⟨hu, hd⟩ := up_tail key h
    unfold ins
    split
    · rename_i hlt
      refine up_cons key (ih hu) (fun x hx => ?_)
      rcases ins_mem key hx with rfl | hx
      · omega
      · exact hd x hx
    · rename_i hge
      refine up_cons key h (fun x hx => ?_)
      simp at hx
      rcases hx with rfl | hx
      · omega
      · have := hd x hx; omega
theorem take_up {L : List α} (h : Up key L) (m : Nat) : Up key (L.take m) := by
  intro i j hi hj
  simp only [List.getElem_take]
  exact h i j hi (by simp at hj; omega)
theorem foldl_up (qs : List α) {A : List α} (h : Up key A) : Up key (qs.foldl (fun L c => ins key c L) A) := by
  induction qs generalizing A with
  | nil => exact h
  | cons c qs ih => exact ih (ins_up key c h)
theorem srt_up (qs : List α) : Up key (srt key qs) := foldl_up key qs (fun i j hi hj => by simp at hj)
theorem top_up (m : Nat) (qs : List α) : Up key (top key m qs) := by rw [top_eq]; exact take_up key (srt_up key qs) m

/-- the keys are all different -/
def Apart (L : List α) : Prop := ∀ i j (hi : i < j) (hj : j < L.length), key (L[i]'(by omega)) ≠ key L[j]
theorem apart_iff (L : List α) : Apart key L ↔ (L.map key).Nodup := by
  unfold List.Nodup
  rw [List.pairwise_iff_getElem]
  constructor
  · intro h i j hi hj hij
    simp at hi hj
    simpa using h i j hij hj
  · intro h i j hi hj
    have := h i j (by simp; omega) (by simpa using hj) hi
    simpa using this
theorem apart_perm {L M : List α} (p : L.Perm M) (h : Apart key L) : Apart key M := by
  rw [apart_iff] at h ⊢
  exact ((p.map key).nodup_iff).1 h

/-- how many are nearer than q -/
def rank (q : α) (L : List α) : Nat := L.countP fun p => decide (key p < key q)
theorem rank_at {L : List α} (hu : Up key L) (ha : Apart key L) (p : Nat) (hp : p < L.length) : rank key L[p] L = p := by
  unfold rank
  have e : L = L.take p ++ L.drop p := (List.take_append_drop p L).symm
  have h1 : (L.take p).countP (fun x => decide (key x < key L[p])) = p := by
    rw [List.countP_eq_length.2]
    · simp; omega
    · intro x hx
      obtain ⟨i, hi, rfl⟩ := List.mem_iff_getElem.1 hx
      simp at hi
      have a := hu i p (by omega) hp
      have b := ha i p (by omega) hp
      simp only [List.getElem_take, decide_eq_true_eq]
      omega
  have h2 : (L.drop p).countP (fun x => decide (key x < key L[p])) = 0 := by
    rw [List.countP_eq_zero]
    intro x hx
    obtain ⟨i, hi, rfl⟩ := List.mem_iff_getElem.1 hx
    simp at hi
    simp only [List.getElem_drop, decide_eq_true_eq, Nat.not_lt]
    cases i with
    | zero => simp
    | succ i => exact hu p (p + (i + 1)) (by omega) (by omega)
  have h3 : (L.take p ++ L.drop p).countP (fun x => decide (key x < key L[p])) = p := by rw [List.countP_append, h1, h2]; omega
  rwa [← e] at h3
theorem rank_perm {L M : List α} (p : L.Perm M) (q : α) : rank key q L = rank key q M := p.countP_eq _
/-- each stands at the place that its rank says -/
theorem srt_rank {qs : List α} (ha : Apart key qs) {q : α} (hq : q ∈ qs) : (srt key qs)[rank key q qs]? = some q := by
  have hp := srt_perm key qs
  obtain ⟨p, hlt, rfl⟩ := List.mem_iff_getElem.1 (hp.mem_iff.2 hq)
  rw [← rank_perm key hp, rank_at key (srt_up key qs) (apart_perm key hp.symm ha) p hlt, List.getElem?_eq_getElem hlt]
theorem top_rank {qs : List α} (ha : Apart key qs) {q : α} (hq : q ∈ qs) (m : Nat) (hm : rank key q qs < m) : (top key m qs)[rank key q qs]? = some q := by
  rw [top_eq, List.getElem?_take, if_pos hm, srt_rank key ha hq]
theorem top_length (m : Nat) (qs : List α) : (top key m qs).length = min m qs.length := by
  rw [top_eq, List.length_take, srt_length]

theorem ins_last (c : α) (L : List α) (h : ∀ d ∈ L, key d < key c) : ins key c L = L ++ [c] := by
  induction L with
  | nil => rfl
  | cons d L ih =>
    unfold ins
    rw [if_pos (h d (by simp)), ih (fun x hx => h x (by simp [hx]))]
    rfl
theorem foldl_sorted (qs A : List α) (hu : Up key (A ++ qs)) (ha : Apart key (A ++ qs)) : qs.foldl (fun L c => ins key c L) A = A ++ qs := by
  induction qs generalizing A with
  | nil => simp
  | cons c qs ih =>
    simp only [List.foldl_cons]
    rw [ins_last key c A]
    · rw [ih (A ++ [c]) (by simpa using hu) (by simpa using ha)]; simp
    · intro d hd
      obtain ⟨i, hi, rfl⟩ := List.mem_iff_getElem.1 hd
      have a := hu i A.length hi (by simp)
      have b := ha i A.length hi (by simp)
      rw [List.getElem_append_left hi, List.getElem_append_right (Nat.le_refl _)] at a b
      simp at a b
      omega
theorem srt_sorted {L : List α} (hu : Up key L) (ha : Apart key L) : srt key L = L := by
  have := foldl_sorted key L [] (by simpa using hu) (by simpa using ha)
  simpa [srt] using this
theorem take_apart {L : List α} (h : Apart key L) (m : Nat) : Apart key (L.take m) := by
  intro i j hi hj
  simp only [List.getElem_take]
  exact h i j hi (by simp at hj; omega)
theorem left_apart {a b : List α} (h : Apart key (a ++ b)) : Apart key a := by
  have := take_apart key h a.length
  simpa using this
/-- picking the n nearest of a first turns nothing -/
theorem top_parts (m n : Nat) (hmn : m ≤ n) (a b : List α) (h : Apart key (a ++ b)) : top key m (top key n a ++ b) = top key m (a ++ b) := by
  have hs : Apart key (srt key a) := apart_perm key (srt_perm key a).symm (left_apart key h)
  have e : top key m (top key n a) = top key m a := by
    rw [top_eq key m (top key n a), top_eq key n a, srt_sorted key (take_up key (srt_up key a) n) (take_apart key hs n), List.take_take, Nat.min_eq_left hmn, top_eq]
  rw [top_append, top_append, e]
theorem top_mem {m : Nat} {qs : List α} {x : α} (h : x ∈ top key m qs) : x ∈ qs := by
  rw [top_eq] at h
  exact (srt_perm key qs).mem_iff.1 (List.mem_of_mem_take h)
theorem rank_zero {qs : List α} {q : α} (h : ∀ p ∈ qs, key q ≤ key p) : rank key q qs = 0 := by
  unfold rank
  rw [List.countP_eq_zero]
  intro x hx
  have := h x hx
  simp; omega
end
end Go.Proofs.Qxb6619336a.Top
