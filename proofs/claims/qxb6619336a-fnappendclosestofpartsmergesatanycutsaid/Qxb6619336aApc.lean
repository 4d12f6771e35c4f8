import Derived.Test.Qxb6619336aApl
import Derived.Outline
namespace Go.Proofs.Qxb6619336a
open Go.RowKit
attribute [local go_sem ↓] Go.wp_at_zero Go.wp_at_succ

theorem step_copy_zero {ops : Array Oper} {o : Oper} {a : Act} {w : World} {K : Act → World → Prop} {Q : Exit → Act → World → Prop} {E : Prop} (hgd : o.guard = none) (d s : Operand)
    (ho : o.op = .call { callee := .builtin .copy, args := #[d, s], argTypes := #[25, 25] }) (da sa : Option Addr) (dLen dCap sLen sCap : Nat)
    (hd : a.eval d = .slice da dLen dCap) (hs : a.eval s = .slice sa sLen sCap) (h0 : Nat.min sLen dLen = 0)
    (h : K (a.put o.dst (goInt 0)) w) :
    if Region.wanted o (yielded ops a.tmps) = true then Oper.wp Try.prog o a w K Q else E := by
  have hw : Region.wanted o (yielded ops a.tmps) = true := by simp [Region.wanted, hgd]
  rw [if_pos hw]
  have hrun := run_copy_zero w o.type da dLen dCap sa sLen sCap h0
  unfold Oper.wp
  simp [execOp, ho, resolve, invoke, builtin, hd, hs, hrun, Result.andThen]
  exact h
theorem insert_at (x : Int) (a : Option Addr) (n : Nat) (ds : List Pr) (i : Nat) (p : Pr) (vb : Nat) (w : World) (hx : x = (i : Int)) (hr : At w a n ds) (hi : i ≤ n) (hn : n ≤ 100000) (hv : Row w vb [p]) (hne : ∀ g, a = some ⟨g, 0, none⟩ → vb ≠ g) :
    Calls Try.prog 25 #[.slice a n ds.length, .int .i64 x, .slice (some ⟨vb, 0, none⟩) 1 1] w fun e w' =>
      ∃ g' ds', e = .returned (.slice (some ⟨g', 0, none⟩) (n + 1) ds'.length) ∧ Row w' g' ds' ∧ ds'.take (n + 1) = (ds.take n).take i ++ p :: (ds.take n).drop i ∧ n + 1 ≤ ds'.length ∧ Fr (ownOf a) w.heap.size w w' ∧ (a = some ⟨g', 0, none⟩ ∨ w.heap.size ≤ g') := by
  subst hx; exact insert_any a n ds i p vb w hr hi hn hv hne

set_option maxHeartbeats 8000000 in
set_option maxRecDepth 1000000 in
theorem apc_any (B : Nat) (a0 : Option Addr) (cl ds0 : List Pr) (a2 : Option Addr) (c2 : Nat) (qs : List Pr) (ta tb tc n : Int) (w : World) (hB : B ≤ w.heap.size)
    (hat : At w a0 cl.length ds0) (htk : ds0.take cl.length = cl) (hbase : ∀ g, a0 = some ⟨g, 0, none⟩ → B ≤ g) (hp : Ps w a2 qs) (hap : ∀ g b off, a0 = some ⟨g, 0, none⟩ → a2 = some ⟨b, off, none⟩ → qs ≠ [] → b ≠ g)
    (ht : Tok ta tb tc) (hok : ∀ q ∈ qs, q.ok) (hl1 : cl.length ≤ 50000) (hl2 : qs.length ≤ 50000) (hn1 : -9223372036854775808 ≤ n) (hn2 : n ≤ 9223372036854775807) :
    Calls Try.prog 20 #[.slice a0 cl.length ds0.length, .slice a2 qs.length c2, .agg #[.int .u64 ta, .int .u64 tb, .int .u64 tc], .int .i64 n] w fun e w' =>
      ∃ a ds, e = .returned (.slice a (cl.length + (Top.top (dist ta tb tc) (n - cl.length).toNat qs).length) ds.length) ∧ At w' a (cl.length + (Top.top (dist ta tb tc) (n - cl.length).toNat qs).length) ds ∧
        ds.take (cl.length + (Top.top (dist ta tb tc) (n - cl.length).toNat qs).length) = cl ++ Top.top (dist ta tb tc) (n - cl.length).toNat qs ∧ (∀ g, a = some ⟨g, 0, none⟩ → B ≤ g) ∧ Below B w w' := by
  obtain ⟨m, hm⟩ : ∃ m, m = (n - cl.length).toNat := ⟨_, rfl⟩
  have Hm : Hid (m = (n - cl.length).toNat) := hm
  rw [← hm]
  clear hm
  have Htk : Hid (ds0.take cl.length = cl) := htk
  clear htk
  have hmf : ∀ (fn : Fn) (first cap : Array Value) (w : World), (Instr.makeFunc fn first cap).run Try.prog w = .ok (.func fn first cap) w := fun _ _ _ _ => rfl
  go_enter Try.func20, Try.ntmps20
  go_wp2
  go_loopw [0, 19] (fun c i wr => ∃ (k : Nat) (a : Option Addr) (ds L : List Pr), i = .int .i64 k ∧ k ≤ qs.length ∧ c = .slice a (cl.length + L.length) ds.length ∧
      Ap (w.alloc (.cells #[.int .u64 ta, .int .u64 tb, .int .u64 tc] 32)) a0 cl m (dist ta tb tc) qs wr k a ds L) (fun _ i _ => qs.length - (intOf i).toNat)
  case atStart => exact ⟨0, a0, ds0, [], rfl, Nat.zero_le _, rfl, ⟨hat.of ((Below.refl _ _).alloc (Nat.le_refl _) _), by simpa using Htk.out, .inl rfl, Fr.refl _ _ _, rfl⟩⟩
  case round =>
    obtain ⟨k, a, ds, L, rfl, hk, rfl, hst⟩ := hrel
    obtain ⟨N, hN, hN1, hN2⟩ : ∃ N : Nat, N = cl.length + L.length ∧ N ≤ cl.length + L.length ∧ cl.length + L.length ≤ N := ⟨_, rfl, Nat.le_refl _, Nat.le_refl _⟩
    rw [← hN]
    have HN : Hid (N = cl.length + L.length) := hN
    clear hN
    by_cases hlt : k < qs.length
    · obtain ⟨b, off, ha, hrr⟩ := Ps.at hp (by omega)
      subst ha
      have hb : b < w.heap.size := World.block_lt_of_cell? w _ (five (hrr k hlt)).1
      have hbo : some b ≠ ownOf a0 := by
        intro e
        rcases hat with ⟨rfl, _⟩ | ⟨g, rfl, _⟩
        · cases e
        · injection e with e
          exact hap g b off rfl rfl (fun e => by rw [e] at hlt; simp at hlt) e
      have hTo : some w.heap.size ≠ ownOf a0 := by
        intro e
        rcases hat with ⟨rfl, _⟩ | ⟨g, rfl, hr, _⟩
        · cases e
        · injection e with e
          have := hr.lt
          simp at e; omega
      have hfrs : Fr (ownOf a0) (w.heap.size + 1) (w.alloc (.cells #[.int .u64 ta, .int .u64 tb, .int .u64 tc] 32)) wr := by have := hst.fr; simpa using this
      have hr1 : wr.rangeAt b (off + k * 5) qs[k].cells := fun j v hv => by
        rw [hfrs.cell (p := ⟨b, off + k * 5 + j, none⟩) (by show b < _; omega) hbo]
        exact World.rangeAt_alloc (hrr k hlt) _ j v hv
      obtain ⟨c0, c1, c2, c3, c4⟩ := five hr1
      have t0 : wr.cell? ⟨w.heap.size, 0, none⟩ = some (.int .u64 ta) := (hfrs.cell (p := ⟨w.heap.size, 0, none⟩) (by show w.heap.size < _; omega) hTo).trans (by go_simp)
      have t1 : wr.cell? ⟨w.heap.size, 1, none⟩ = some (.int .u64 tb) := (hfrs.cell (p := ⟨w.heap.size, 1, none⟩) (by show w.heap.size < _; omega) hTo).trans (by go_simp)
      have t2 : wr.cell? ⟨w.heap.size, 2, none⟩ = some (.int .u64 tc) := (hfrs.cell (p := ⟨w.heap.size, 2, none⟩) (by show w.heap.size < _; omega) hTo).trans (by go_simp)
      have hsz : w.heap.size + 1 ≤ wr.heap.size := by have := hfrs.size; simpa using this
      have hz1 : w.heap.size < wr.heap.size := by omega
      have hcok : qs[k].ok := hok _ (List.getElem_mem hlt)
      clear hfrs hr1 hrr
      go_wp2_with fail
      refine (xor_any _ _ _ _ _ _ _).mono ?_
      rintro e wx ⟨rfl, hbx⟩
      go_wp2_with fail
      -- the world here: W
      have hbW : Below wr.heap.size wr (wx.alloc (.cells #[.int .u64 (bits .xor .u64 qs[k].a ta), .int .u64 (bits .xor .u64 qs[k].b tb), .int .u64 (bits .xor .u64 qs[k].c tc)] 32)) := (((Below.refl _ _).alloc (Nat.le_refl _) _).trans (hbx.mono (by simp))).alloc (by have := hbx.size; simp at this; omega) _
      have hWc : (wx.alloc (.cells #[.int .u64 (bits .xor .u64 qs[k].a ta), .int .u64 (bits .xor .u64 qs[k].b tb), .int .u64 (bits .xor .u64 qs[k].c tc)] 32)).rangeAt wr.heap.size 0 qs[k].cells := by
        have h1 := (Row.made wr [qs[k]]).range 0 (by simp)
        exact World.rangeAt_alloc (rangeAt_below hbx (by simp) h1) _
      have hWd0 : (wx.alloc (.cells #[.int .u64 (bits .xor .u64 qs[k].a ta), .int .u64 (bits .xor .u64 qs[k].b tb), .int .u64 (bits .xor .u64 qs[k].c tc)] 32)).cell? ⟨wx.heap.size, 0, none⟩ = some (.int .u64 (bits .xor .u64 qs[k].a ta)) := by go_simp
      have hWd1 : (wx.alloc (.cells #[.int .u64 (bits .xor .u64 qs[k].a ta), .int .u64 (bits .xor .u64 qs[k].b tb), .int .u64 (bits .xor .u64 qs[k].c tc)] 32)).cell? ⟨wx.heap.size, 1, none⟩ = some (.int .u64 (bits .xor .u64 qs[k].b tb)) := by go_simp
      have hWd2 : (wx.alloc (.cells #[.int .u64 (bits .xor .u64 qs[k].a ta), .int .u64 (bits .xor .u64 qs[k].b tb), .int .u64 (bits .xor .u64 qs[k].c tc)] 32)).cell? ⟨wx.heap.size, 2, none⟩ = some (.int .u64 (bits .xor .u64 qs[k].c tc)) := by go_simp
      have hWs : (wx.alloc (.cells #[.int .u64 (bits .xor .u64 qs[k].a ta), .int .u64 (bits .xor .u64 qs[k].b tb), .int .u64 (bits .xor .u64 qs[k].c tc)] 32)).heap.size = wx.heap.size + 1 := by simp
      have hXY : wr.heap.size < wx.heap.size := by have := hbx.size; simp at this; omega
      generalize wx.alloc (.cells #[.int .u64 (bits .xor .u64 qs[k].a ta), .int .u64 (bits .xor .u64 qs[k].b tb), .int .u64 (bits .xor .u64 qs[k].c tc)] 32) = W at *
      have hW1 : (w.alloc (.cells #[.int .u64 ta, .int .u64 tb, .int .u64 tc] 32)).heap.size = w.heap.size + 1 := by simp
      have hfrW : Fr (ownOf a0) (w.alloc (.cells #[.int .u64 ta, .int .u64 tb, .int .u64 tc] 32)).heap.size (w.alloc (.cells #[.int .u64 ta, .int .u64 tb, .int .u64 tc] 32)) W := hst.fr.trans (Fr.of_below (hbW.mono (by rw [hW1]; exact hsz)))
      have hWat : At W a N ds := by rw [HN.out]; exact hst.at_.of hbW
      have htkN : ds.take (cl.length + L.length) = cl ++ L := hst.tk
      obtain ⟨d0, d1, d2, d3, d4⟩ := five hWc
      simp only [Nat.zero_add] at d0 d1 d2 d3 d4
      have u0 : W.cell? ⟨w.heap.size, 0, none⟩ = some (.int .u64 ta) := (hbW.cell (p := ⟨w.heap.size, 0, none⟩) hz1).trans t0
      have u1 : W.cell? ⟨w.heap.size, 1, none⟩ = some (.int .u64 tb) := (hbW.cell (p := ⟨w.heap.size, 1, none⟩) hz1).trans t1
      have u2 : W.cell? ⟨w.heap.size, 2, none⟩ = some (.int .u64 tc) := (hbW.cell (p := ⟨w.heap.size, 2, none⟩) hz1).trans t2
      have hLok : ∀ q ∈ L, q.ok := fun q hq => by
        rw [hst.top] at hq
        exact hok q (List.mem_of_mem_take (Top.top_mem _ hq))
      have hLl : L.length ≤ 50000 := by
        rw [hst.top, Top.top_length]; simp; omega
      have hup : Top.Up (dist ta tb tc) L := by rw [hst.top]; exact Top.top_up _ _ _
      have hmono : ∀ (i j : Nat) (hi : i < j) (hj : j < L.length), cm ta tb tc (bits .xor .u64 qs[k].a ta) (bits .xor .u64 qs[k].b tb) (bits .xor .u64 qs[k].c tc) L[j] < 0 → cm ta tb tc (bits .xor .u64 qs[k].a ta) (bits .xor .u64 qs[k].b tb) (bits .xor .u64 qs[k].c tc) (L[i]'(by omega)) < 0 := by
        intro i j hi hj h
        have h1 := (cm_lt ht (hLok _ (List.getElem_mem hj)) hcok).1 h
        have h2 := hup i j hi hj
        exact (cm_lt ht (hLok _ (List.getElem_mem (by omega))) hcok).2 (by omega)
      have Hmono : Hid _ := hmono
      have HLok : Hid _ := hLok
      have Htkn : Hid _ := htkN
      clear hmono hLok htkN hup t0 t1 t2 c0 c1 c2 c3 c4 hWc
      rcases hWat with ⟨rfl, hN0, rfl⟩ | ⟨g, rfl, hrow, hle⟩
      · subst hN0
        obtain rfl : cl = [] := List.eq_nil_of_length_eq_zero (by omega)
        obtain rfl : L = [] := List.eq_nil_of_length_eq_zero (by omega)
        clear Hmono hN1 hN2 HN Htkn
        go_region_held3 (fun w' => w'.cell? ⟨wx.heap.size, 0, none⟩ = some (.int .u64 (bits .xor .u64 qs[k].a ta)) ∧ w'.cell? ⟨wx.heap.size, 1, none⟩ = some (.int .u64 (bits .xor .u64 qs[k].b tb)) ∧ w'.cell? ⟨wx.heap.size, 2, none⟩ = some (.int .u64 (bits .xor .u64 qs[k].c tc))) (go_keep)
          ((go_at_call 22; refine (bin_any none 0 [] _ _ _ w.heap.size ta tb tc W.drew (.inl rfl) (by simp) u0 u1 u2 (fun i j _ hj => by simp at hj)).mono ?_; rintro e wy ⟨⟨i, f, rfl, hi, _, _⟩, hby⟩; have hcx := bcell hby; simp only [World.size_drew] at hcx))
        rename_i hHeld
        clear hHeld
        have hi0 : i = 0 := by simpa using hi
        subst hi0
        have hszy : W.heap.size ≤ wy.heap.size := hby.size
        have e0 : wy.cell? ⟨wr.heap.size, 0, none⟩ = some (.int .u64 qs[k].a) := (hcx _ _ (by omega)).trans d0
        have e1 : wy.cell? ⟨wr.heap.size, 1, none⟩ = some (.int .u64 qs[k].b) := (hcx _ _ (by omega)).trans d1
        have e2 : wy.cell? ⟨wr.heap.size, 2, none⟩ = some (.int .u64 qs[k].c) := (hcx _ _ (by omega)).trans d2
        have e3 : wy.cell? ⟨wr.heap.size, 3, none⟩ = some (.string qs[k].nm) := (hcx _ _ (by omega)).trans d3
        have e4 : wy.cell? ⟨wr.heap.size, 4, none⟩ = some (.string qs[k].ad) := (hcx _ _ (by omega)).trans d4
        have hXy : wr.heap.size < wy.heap.size := by omega
        have hfry : Fr (ownOf a0) (w.alloc (.cells #[.int .u64 ta, .int .u64 tb, .int .u64 tc] 32)).heap.size (w.alloc (.cells #[.int .u64 ta, .int .u64 tb, .int .u64 tc] 32)) wy :=
          hfrW.trans (Fr.of_below (Below.trans (Below.refl _ _).drew (hby.mono (by rw [hW1]; simp only [World.size_drew]; omega))))
        clear hcx hWd0 hWd1 hWd2 d0 d1 d2 d3 d4 u0 u1 u2 hfrW
        by_cases hfull : (0 : Int) < n
        · go_wp2_with fail
          refine (insert_at _ none 0 [] 0 qs[k] _ _ rfl (.inl ⟨rfl, rfl, rfl⟩) (by omega) (by omega) (Row.made wy [qs[k]]) (fun g' hg' => by cases hg')).mono ?_
          rintro e wz ⟨g', ds', rfl, hz1, hz2, hz3, hz4, hz5⟩
          have Hz2 : Hid _ := hz2
          clear hz2
          go_wp2
          go_roundw
          case rel =>
            have hLm : 0 < m := by have := Hm.out; simp at this; omega
            have htop : Top.top (dist ta tb tc) m (qs.take (k + 1)) = [qs[k]] := by
              rw [top_next _ _ _ _ hlt, ← hst.top]
              exact List.take_of_length_le (by simp [Top.ins]; omega)
            have hnew : Ap (w.alloc (.cells #[.int .u64 ta, .int .u64 tb, .int .u64 tc] 32)) a0 [] m (dist ta tb tc) qs wz (k + 1) (some ⟨g', 0, none⟩) ds' [qs[k]] := by
              refine ⟨.inr ⟨g', rfl, hz1, by simpa using hz3⟩, by have := Hz2.out; simpa using this, ?_, ?_, htop.symm⟩
              · rcases hz5 with e | h
                · cases e
                · exact .inr ⟨g', rfl, by rw [hW1]; simp at h; omega⟩
              · exact (hfry.alloc (by rw [hW1]; omega) _).trans (Fr.from_own hz4 hst.own (by rw [hW1]; simp; omega))
            (repeat apply Exists.intro)
            exact ⟨⟨k + 1, some ⟨g', 0, none⟩, ds', [qs[k]], by go_num, by omega, rfl, hnew⟩, rfl⟩
          case measure => simp [intOf]; omega
        · go_wp2
          go_roundw
          case rel =>
            have hm0 : m = 0 := by have := Hm.out; simp at this; omega
            have htop : Top.top (dist ta tb tc) m (qs.take (k + 1)) = [] := by
              rw [top_next _ _ _ _ hlt, hm0]; simp
            have hnew : Ap (w.alloc (.cells #[.int .u64 ta, .int .u64 tb, .int .u64 tc] 32)) a0 [] m (dist ta tb tc) qs wy (k + 1) none [] [] := ⟨.inl ⟨rfl, rfl, rfl⟩, rfl, hst.own, hfry, htop.symm⟩
            exact ⟨_, _, _, _, _, _, ⟨k + 1, by go_num, by omega, none, [], [], rfl, hnew⟩, rfl, rfl, rfl, rfl, rfl, rfl⟩
          case measure => simp [intOf]; omega
      · have hNL : N - cl.length = L.length := by omega
        have hclN : cl.length ≤ N := by omega
        have hclN' : (cl.length : Int) ≤ (N : Int) := by omega
        obtain ⟨A, HPs, hA⟩ : ∃ A, Hid (Ps W A L) ∧ ((A = some ⟨g, 0, none⟩ ∧ (ds.length = cl.length) = True) ∨ (A = some ⟨g, cl.length * 5, none⟩ ∧ ¬ ds.length = cl.length)) := by
          by_cases hcap : ds.length = cl.length
          · exact ⟨_, .inl (List.eq_nil_of_length_eq_zero (by omega)), .inl ⟨rfl, by simp [hcap]⟩⟩
          · exact ⟨_, Ap.sub hrow Htkn.out, .inr ⟨rfl, hcap⟩⟩
        rcases hA with ⟨rfl, hcap⟩ | ⟨rfl, hcap⟩
        all_goals
          go_region_held3 (fun w' => w'.cell? ⟨wx.heap.size, 0, none⟩ = some (.int .u64 (bits .xor .u64 qs[k].a ta)) ∧ w'.cell? ⟨wx.heap.size, 1, none⟩ = some (.int .u64 (bits .xor .u64 qs[k].b tb)) ∧ w'.cell? ⟨wx.heap.size, 2, none⟩ = some (.int .u64 (bits .xor .u64 qs[k].c tc))) (go_keep)
            ((go_at_call 22; refine (bin_any _ _ L _ _ _ w.heap.size ta tb tc W.drew HPs.out (Nat.le_trans hLl (by decide)) u0 u1 u2 Hmono.out).mono ?_; rintro e wy ⟨⟨i, f, rfl, hi, hlo, hhi⟩, hby⟩; have hcx := bcell hby; have Hlo : Hid _ := hlo; have Hhi : Hid _ := hhi; clear hlo hhi; simp only [World.size_drew] at hcx))
          rename_i hHeld
          clear hHeld
          have hszy : W.heap.size ≤ wy.heap.size := hby.size
          have e0 : wy.cell? ⟨wr.heap.size, 0, none⟩ = some (.int .u64 qs[k].a) := (hcx _ _ (by omega)).trans d0
          have e1 : wy.cell? ⟨wr.heap.size, 1, none⟩ = some (.int .u64 qs[k].b) := (hcx _ _ (by omega)).trans d1
          have e2 : wy.cell? ⟨wr.heap.size, 2, none⟩ = some (.int .u64 qs[k].c) := (hcx _ _ (by omega)).trans d2
          have e3 : wy.cell? ⟨wr.heap.size, 3, none⟩ = some (.string qs[k].nm) := (hcx _ _ (by omega)).trans d3
          have e4 : wy.cell? ⟨wr.heap.size, 4, none⟩ = some (.string qs[k].ad) := (hcx _ _ (by omega)).trans d4
          have hrowy : Row wy g ds := hrow.of (hby.block g hrow.lt)
          have hXy : wr.heap.size < wy.heap.size := by omega
          have hgy : g < wy.heap.size := hrowy.lt
          have hfry : Fr (ownOf a0) (w.alloc (.cells #[.int .u64 ta, .int .u64 tb, .int .u64 tc] 32)).heap.size (w.alloc (.cells #[.int .u64 ta, .int .u64 tb, .int .u64 tc] 32)) wy :=
            hfrW.trans (Fr.of_below (Below.trans (Below.refl _ _).drew (hby.mono (by rw [hW1]; simp only [World.size_drew]; omega))))
          obtain ⟨P, hP, hPe, hP1, hP2⟩ : ∃ P : Nat, P = cl.length + i ∧ (i : Int) + (cl.length : Int) = (P : Int) ∧ P ≤ cl.length + i ∧ cl.length + i ≤ P := ⟨_, rfl, by omega, Nat.le_refl _, Nat.le_refl _⟩
          have HP : Hid (P = cl.length + i) := hP
          have hins := ins_by_search ht hcok HLok.out i hi Hlo.out Hhi.out
          have Hins : Hid _ := hins
          clear hcx hWd0 hWd1 hWd2 d0 d1 d2 d3 d4 u0 u1 u2 hcap HPs hrow Hmono hP hins Hlo Hhi hfrW
          by_cases hfull : (N : Int) < n
          · go_wp2_with fail
            refine (insert_at _ (some ⟨g, 0, none⟩) N ds P qs[k] _ _ (by omega) (.inr ⟨g, rfl, hrowy.alloc _, hle⟩) (by omega) (by omega) (Row.made wy [qs[k]]) (fun g' hg' => by injection hg' with hg'; injection hg' with hg'; omega)).mono ?_
            rintro e wz ⟨g', ds', rfl, hz1, hz2, hz3, hz4, hz5⟩
            have Hz2 : Hid _ := hz2
            clear hz2
            go_wp2
            go_roundw
            case rel =>
              have hLm : L.length < m := by have := Hm.out; omega
              have htop : Top.top (dist ta tb tc) m (qs.take (k + 1)) = Top.ins (dist ta tb tc) qs[k] L := by
                rw [top_next _ _ _ _ hlt, ← hst.top, List.take_of_length_le (by rw [Top.ins_length]; omega)]
              have hlen : cl.length + (Top.ins (dist ta tb tc) qs[k] L).length = N + 1 := by rw [Top.ins_length]; omega
              refine ⟨k + 1, some ⟨g', 0, none⟩, ds', Top.ins (dist ta tb tc) qs[k] L, by go_num, by omega, by rw [hlen], ⟨.inr ⟨g', rfl, hz1, by omega⟩, ?_, ?_, ?_, htop.symm⟩⟩
              · rw [hlen, ins_take (by rw [HN.out]; exact Htkn.out) HP.out Hz2.out, Hins.out]
              · rcases hz5 with e | h
                · rw [← e]; exact hst.own
                · exact .inr ⟨g', rfl, by rw [hW1]; simp at h; omega⟩
              · exact (hfry.alloc (by rw [hW1]; omega) _).trans (Fr.from_own hz4 hst.own (by rw [hW1]; simp; omega))
            case measure => simp [intOf]; omega
          · have hmL : m = L.length := by
              have h1 := Hm.out
              have h2 : L.length ≤ m := by rw [hst.top, Top.top_length]; omega
              omega
            have HmL : Hid _ := hmL
            clear hmL
            by_cases hiL : i < L.length
            · have hPN : P + 1 ≤ N := by omega
              have hp1 : (P : Int) + 1 ≤ (N : Int) := by omega
              have hp2 : (0 : Int) ≤ (P : Int) + 1 := by omega
              have hp3 : IntKind.i64.wrap ((P : Int) + 1) = (P : Int) + 1 := by rw [IntKind.wrap_i64]; omega
              have hp4 : ((P : Int) + 1).toNat = P + 1 := by omega
              have hp5 : ¬ ds.length = P := by omega
              have hp6 : P ≤ N := by omega
              have hp7 : (P : Int) ≤ (N : Int) := by omega
              have Hq : Hid (((ds.drop P).take (N - P - 1)).length = Nat.min (N - P) (N - (P + 1))) := by show _ = min _ _; simp; omega
              have Hf : Hid (P + 1 + ((ds.drop P).take (N - P - 1)).length ≤ ds.length) := by show _ ≤ _; simp; omega
              go_wp2
              by_cases hlast : ds.length = P + 1
              · have hlastT : (ds.length = P + 1) = True := by simp [hlast]
                have h0 : Hid (Nat.min (N - P) (N - (P + 1)) = 0) := by show min _ _ = _; omega
                have hX0 : Hid (lay ds (P + 1) ((ds.drop P).take (N - P - 1)) = ds) := by
                  show _ = _
                  rw [show N - P - 1 = 0 by omega]
                  simp [lay]
                have HlN : Hid (ds.length = P + 1) := hlast
                clear hlast
                obtain ⟨⟨x0, x1, x2, x3, x4⟩, f0, f1, f2, f3, f4⟩ := hrowy.five P (by omega)
                go_region_law ((refine step_copy_zero rfl (.tmp 57) (.tmp 60) rfl (some ⟨g, 0, none⟩) (some ⟨g, P * 5, none⟩) (N - (P + 1)) (ds.length - (P + 1)) (N - P) (ds.length - P) (by simp [Act.eval, Act.put]) (by simp [Act.eval, Act.put]) h0.out ?_))
                go_wp2
                go_roundw
                case rel =>
                  have hset := (hrowy.set P qs[k] (by omega)).drew
                  have htop : Top.top (dist ta tb tc) m (qs.take (k + 1)) = L.take i ++ qs[k] :: (L.drop i).take (L.length - i - 1) := by
                    rw [top_next _ _ _ _ hlt, ← hst.top, Hins.out, HmL.out, ins_cut L _ i hiL]
                  have hlen : cl.length + (L.take i ++ qs[k] :: (L.drop i).take (L.length - i - 1)).length = N := by simp; omega
                  have hsh := shift_take qs[k] (by rw [HN.out]; exact Htkn.out) HN.out HP.out hiL hle
                  rw [hX0.out] at hsh
                  have hfz := Fr.setCells (g := ownOf (some ⟨g, 0, none⟩)) (B := wy.heap.size) (a := wy) (b := g) (.inr rfl) qs[k].cells (P * 5) wy (Fr.refl _ _ _)
                  exact ⟨k + 1, some ⟨g, 0, none⟩, ds.set P qs[k], L.take i ++ qs[k] :: (L.drop i).take (L.length - i - 1), by go_num, by omega, by rw [hlen, List.length_set], ⟨.inr ⟨g, rfl, hset, by rw [List.length_set]; omega⟩, by rw [hlen, hsh], hst.own, (hfry.trans (Fr.from_own hfz hst.own (by rw [hW1]; omega))).drew, htop.symm⟩⟩
                case measure => simp [intOf]; omega
              · go_region_law ((refine step_copy5 rfl (.tmp 57) (.tmp 60) rfl g (P + 1) ((P + 1) * 5) (N - (P + 1)) (ds.length - (P + 1)) ds ⟨g, P * 5, none⟩ (N - P) (ds.length - P) ((ds.drop P).take (N - P - 1)) (by simp [Act.eval, Act.put]) (by simp [Act.eval, Act.put]) rfl hrowy.drew Hq.out Hf.out (hrowy.drew.cells P (N - P - 1)) ?_; intro wz hz1 hz2 hz3))
                have hgr : g < wr.heap.size := hst.at_.lt g rfl
                have hne : some wr.heap.size ≠ some g := by simp; omega
                have y0 : wz.cell? ⟨wr.heap.size, 0, none⟩ = some (.int .u64 qs[k].a) := (hz2.cell (p := ⟨wr.heap.size, 0, none⟩) hXy hne).trans e0
                have y1 : wz.cell? ⟨wr.heap.size, 1, none⟩ = some (.int .u64 qs[k].b) := (hz2.cell (p := ⟨wr.heap.size, 1, none⟩) hXy hne).trans e1
                have y2 : wz.cell? ⟨wr.heap.size, 2, none⟩ = some (.int .u64 qs[k].c) := (hz2.cell (p := ⟨wr.heap.size, 2, none⟩) hXy hne).trans e2
                have y3 : wz.cell? ⟨wr.heap.size, 3, none⟩ = some (.string qs[k].nm) := (hz2.cell (p := ⟨wr.heap.size, 3, none⟩) hXy hne).trans e3
                have y4 : wz.cell? ⟨wr.heap.size, 4, none⟩ = some (.string qs[k].ad) := (hz2.cell (p := ⟨wr.heap.size, 4, none⟩) hXy hne).trans e4
                have Hlz : Hid ((lay ds (P + 1) ((ds.drop P).take (N - P - 1))).length = ds.length) := lay_length _ _ _ Hf.out
                obtain ⟨⟨x0, x1, x2, x3, x4⟩, f0, f1, f2, f3, f4⟩ := hz1.five P (by rw [Hlz.out]; omega)
                clear e0 e1 e2 e3 e4 hlast
                go_wp2
                go_roundw
                case rel =>
                  have hset := hz1.set P qs[k] (by rw [Hlz.out]; omega)
                  have htop : Top.top (dist ta tb tc) m (qs.take (k + 1)) = L.take i ++ qs[k] :: (L.drop i).take (L.length - i - 1) := by
                    rw [top_next _ _ _ _ hlt, ← hst.top, Hins.out, HmL.out, ins_cut L _ i hiL]
                  have hlen : cl.length + (L.take i ++ qs[k] :: (L.drop i).take (L.length - i - 1)).length = N := by simp; omega
                  have hsh := shift_take qs[k] (by rw [HN.out]; exact Htkn.out) HN.out HP.out hiL hle
                  have hfz := Fr.setCells (g := ownOf (some ⟨g, 0, none⟩)) (B := wy.heap.size) (a := wy) (b := g) (.inr rfl) qs[k].cells (P * 5) wz ((Fr.refl _ _ _).drew.trans hz2)
                  exact ⟨k + 1, some ⟨g, 0, none⟩, (lay ds (P + 1) ((ds.drop P).take (N - P - 1))).set P qs[k], L.take i ++ qs[k] :: (L.drop i).take (L.length - i - 1), by go_num, by omega, by rw [hlen, List.length_set, Hlz.out], ⟨.inr ⟨g, rfl, hset, by rw [List.length_set, Hlz.out]; omega⟩, by rw [hlen, hsh], hst.own, hfry.trans (Fr.from_own hfz hst.own (by rw [hW1]; omega)), htop.symm⟩⟩
                case measure => simp [intOf]; omega
            · go_wp2
              go_roundw
              case rel =>
                have hiL' : i = L.length := by omega
                have htop : Top.top (dist ta tb tc) m (qs.take (k + 1)) = L := by
                  rw [top_next _ _ _ _ hlt, ← hst.top, Hins.out, hiL', HmL.out, ins_none]
                exact ⟨k + 1, some ⟨g, 0, none⟩, ds, L, by go_num, by omega, by rw [HN.out], ⟨.inr ⟨g, rfl, hrowy, by omega⟩, Htkn.out, hst.own, hfry, htop.symm⟩⟩
              case measure => simp [intOf]; omega
    · have hkq : k = qs.length := by omega
      have hL : L = Top.top (dist ta tb tc) m qs := by rw [hst.top, hkq, List.take_length]
      have hbel : Below B w wr := by
        have h1 : Below B w (w.alloc (.cells #[.int .u64 ta, .int .u64 tb, .int .u64 tc] 32)) := (Below.refl _ _).alloc hB _
        refine h1.trans ⟨hst.fr.os, hst.fr.tape, hst.fr.output, hst.fr.size, fun q hq => hst.fr.block q (by simp; omega) (fun e => ?_)⟩
        rcases hat with ⟨rfl, _⟩ | ⟨g, rfl, _⟩
        · cases e
        · injection e with e
          have := hbase g rfl
          simp at e; omega
      have hbs : ∀ g, a = some ⟨g, 0, none⟩ → B ≤ g := fun g hg => by
        rcases hst.own with e | ⟨g', e, h⟩
        · exact hbase g (e ▸ hg)
        · rw [hg] at e
          injection e with e; injection e with e
          simp at h; omega
      have hat2 := hst.at_
      have htk2 := hst.tk
      rw [hL] at hat2 htk2
      have hNe : N = cl.length + (Top.top (dist ta tb tc) m qs).length := by rw [HN.out, hL]
      have HNe : Hid _ := hNe
      have Htk2 : Hid _ := htk2
      have Hat2 : Hid _ := hat2
      clear hL hkq hat2 htk2 hNe
      go_wp2
      go_ret
      exact ⟨a, ds, ret_slice HNe.out rfl, Hat2.out, Htk2.out, hbs, hbel⟩
end Go.Proofs.Qxb6619336a
