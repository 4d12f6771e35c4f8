import Derived.Test.Qxb6619336aBase
namespace Go.Proofs.Qxb6619336a
open Go.RowKit

set_option maxRecDepth 1000000 in
set_option maxHeartbeats 2000000 in
theorem bytes12 (a1 : Option Addr) (c1 : Nat) (ps : List Pr) (a2 : Option Addr) (c2 : Nat) (qs : List Pr) (room t0 t1 t2 n : Int) (w : World) (h0 : Ps w a1 ps) (l0 : ps.length ≤ maxLen) (h1 : Ps w a2 qs) (l1 : qs.length ≤ maxLen) :
    Calls Try.prog 12 #[.slice a1 ps.length c1, .int .i64 room, .slice a2 qs.length c2, .int .u64 t0, .int .u64 t1, .int .u64 t2, .int .i64 n] w fun e w' => AnyBool e ∧ w' = w := by
  unfold maxLen at l0 l1
  by_cases b0 : 1048576 < ps.length
  · go_enter Try.func12, Try.ntmps12; go_wp2
    go_ret
    exact ⟨⟨_, rfl⟩, rfl⟩
  go_enter Try.func12, Try.ntmps12
  go_wp2
  go_loop [15, 16] (fun s i => ∃ (k : Nat) (r : Int), k ≤ ps.length ∧ i = .int .i64 k ∧ s = .int .i64 r ∧ 0 ≤ r ∧ r ≤ 1048576) (fun _ i => ps.length - (intOf i).toNat)
  case atStart => exact ⟨0, ps.length, Nat.zero_le _, rfl, rfl, by omega, by omega⟩
  case round =>
    obtain ⟨k, r0, hk, rfl, rfl, p0, q0⟩ := hrel
    by_cases hlt : k < ps.length
    · obtain ⟨b, off, ha, hr⟩ := Ps.at h0 (by omega)
      obtain ⟨c0, c1, c2, c3, c4⟩ := five (hr k hlt)
      subst ha
      go_wp2
      · go_ret
        exact ⟨⟨_, rfl⟩, rfl⟩
      · go_ret
        exact ⟨⟨_, rfl⟩, rfl⟩
      · go_ret
        exact ⟨⟨_, rfl⟩, rfl⟩
      · go_ret
        exact ⟨⟨_, rfl⟩, rfl⟩
      · go_round
        case rel => exact ⟨k + 1, r0 + ps[k].nm.size + ps[k].ad.size, by omega, by go_num, rfl, by omega, by omega⟩
        case measure => simp [intOf]; omega
    · by_cases b1 : 1048576 < qs.length
      · go_wp2
        go_ret
        exact ⟨⟨_, rfl⟩, rfl⟩
      by_cases d1 : 1048576 < r0 + qs.length
      · go_wp2
        go_ret
        exact ⟨⟨_, rfl⟩, rfl⟩
      go_wp2
      go_loop [15, 17] (fun s i => ∃ (k : Nat) (r : Int), k ≤ qs.length ∧ i = .int .i64 k ∧ s = .int .i64 r ∧ 0 ≤ r ∧ r ≤ 1048576) (fun _ i => qs.length - (intOf i).toNat)
      case atStart => exact ⟨0, r0 + qs.length, Nat.zero_le _, rfl, rfl, by omega, by omega⟩
      case round =>
        obtain ⟨k, r1, hk, rfl, rfl, p1, q1⟩ := hrel
        by_cases hlt : k < qs.length
        · obtain ⟨b, off, ha, hr⟩ := Ps.at h1 (by omega)
          obtain ⟨c0, c1, c2, c3, c4⟩ := five (hr k hlt)
          subst ha
          go_wp2
          · go_ret
            exact ⟨⟨_, rfl⟩, rfl⟩
          · go_ret
            exact ⟨⟨_, rfl⟩, rfl⟩
          · go_ret
            exact ⟨⟨_, rfl⟩, rfl⟩
          · go_ret
            exact ⟨⟨_, rfl⟩, rfl⟩
          · go_round
            case rel => exact ⟨k + 1, r1 + qs[k].nm.size + qs[k].ad.size, by omega, by go_num, rfl, by omega, by omega⟩
            case measure => simp [intOf]; omega
        · go_wp2
          go_ret
          exact ⟨⟨_, rfl⟩, rfl⟩
end Go.Proofs.Qxb6619336a
