/-
  The walks of zzBytes_.. : they return; they change nothing.
-/
import Derived.Test.Qxb6603228aMem
namespace Go.Proofs.Qxb6603228a
open Go.RowKit

set_option maxRecDepth 20000 in
set_option maxHeartbeats 1000000 in
theorem bytes29_any (a0 a2 a3 a7 : Option Addr) (n0 cap0 n2 cap2 n3 cap3 n7 cap7 : Nat) (v1 : Value) (key : ByteArray) (c1 : Int) (ws : List (List (List Int × List Int))) (S : Nat → Prop) (w : World)
    (h0 : n0 ≤ 9223372036854775807) (h2 : n2 ≤ 9223372036854775807) (h3 : n3 ≤ 9223372036854775807) (hk : key.size ≤ 9223372036854775807) (h7 : n7 ≤ 9223372036854775807) (hW : Ws w S v1 ws) :
    Calls Try.prog 29 #[.slice a0 n0 cap0, v1, .slice a2 n2 cap2, .slice a3 n3 cap3, .string key, .int .u64 c1, .slice a7 n7 cap7] w fun e w' => IsBool e ∧ w' = w := by
  obtain ⟨h1, a1, cap1, rfl, hW⟩ := hW
  obtain ⟨n1, hn1⟩ : ∃ n1, n1 = ws.length := ⟨_, rfl⟩
  rw [← hn1] at h1 ⊢
  have HW : Hid (∀ i, i < n1 → ∃ g off u, a1 = some ⟨g, off, none⟩ ∧ w.cell? ⟨g, off + i, none⟩ = some u ∧ Ps w S u (ws.getD i [])) := by
    intro i hi
    rcases hW with h | ⟨g, off, rfl, _, hc⟩
    · rw [h] at hn1; simp at hn1; omega
    · obtain ⟨u, h, p⟩ := hc i (by omega)
      exact ⟨g, off, u, rfl, h, p⟩
  clear hW hn1
  by_cases b0 : 1048576 < n0
  · go_enter Try.func29, Try.ntmps29
    go_wp2
    go_ret
    exact ⟨isBool _, rfl⟩
  by_cases b1 : 1048576 < n1
  · go_enter Try.func29, Try.ntmps29
    go_wp2
    go_ret
    exact ⟨isBool _, rfl⟩
  by_cases b01 : 1048576 < n0 + n1
  · go_enter Try.func29, Try.ntmps29
    go_wp2
    go_ret
    exact ⟨isBool _, rfl⟩
  go_enter Try.func29, Try.ntmps29
  go_wp2
  go_loop [15, 16] (fun z i => ∃ zz ii : Nat, z = .int .i64 zz ∧ zz ≤ 1048576 ∧ i = .int .i64 ii ∧ ii ≤ n1) (fun _ i => n1 - (intOf i).toNat)
  case atStart => exact ⟨n0 + n1, 0, by go_num, by omega, rfl, Nat.zero_le _⟩
  case round =>
    obtain ⟨zz, ii, rfl, hzz, rfl, hii⟩ := hrel
    by_cases hlt : ii < n1
    · obtain ⟨g, off, u, rfl, hcell, hm, a', cap', rfl, hP⟩ := HW.out ii hlt
      obtain ⟨m, hm1⟩ : ∃ m, m = (ws.getD ii []).length := ⟨_, rfl⟩
      rw [← hm1] at hm hcell
      have HP : Hid (∀ k, k < m → ∃ g1 off1 x0 y0 z0 x1 y1 z1, a' = some ⟨g1, off1, none⟩ ∧ w.cell? ⟨g1, off1 + k * 2, none⟩ = some (.slice x0 y0 z0) ∧ y0 ≤ 9223372036854775807 ∧ w.cell? ⟨g1, off1 + k * 2 + 1, none⟩ = some (.slice x1 y1 z1) ∧ y1 ≤ 9223372036854775807) := by
        intro k hk
        rcases hP with h | ⟨g1, off1, rfl, _, hc⟩
        · rw [h] at hm1; simp at hm1; omega
        · obtain ⟨u0, u1, e0, e1, ⟨⟨hl0, x0, z0, rfl, _⟩, _⟩, ⟨⟨hl1, x1, z1, rfl, _⟩, _⟩⟩ := hc k (by omega)
          exact ⟨g1, off1, x0, _, z0, x1, _, z1, rfl, e0, hl0, e1, hl1⟩
      clear hP hm1
      by_cases bm : 1048576 < m
      · go_wp2
        go_ret
        exact ⟨isBool _, rfl⟩
      by_cases bz : 1048576 < zz + m
      · go_wp2
        go_ret
        exact ⟨isBool _, rfl⟩
      go_wp2
      go_loop [15, 17] (fun z i => ∃ z1 kk : Nat, z = .int .i64 z1 ∧ z1 ≤ 1048576 ∧ i = .int .i64 kk ∧ kk ≤ m) (fun _ i => m - (intOf i).toNat)
      case atStart => exact ⟨zz + m, 0, by go_num, by omega, rfl, Nat.zero_le _⟩
      case round =>
        obtain ⟨z1, kk, rfl, hz1, rfl, hkk⟩ := hrel
        by_cases hlt2 : kk < m
        · obtain ⟨g1, off1, x0, y0, t0, x1, y1, t1, rfl, e0, hy0, e1, hy1⟩ := HP.out kk hlt2
          go_wp2
          go_loop [15, 18] (fun z i => ∃ z2 jj : Nat, z = .int .i64 z2 ∧ z2 ≤ 1048576 ∧ i = .int .i64 jj ∧ jj ≤ 2) (fun _ i => 2 - (intOf i).toNat)
          case atStart => exact ⟨z1, 0, rfl, hz1, rfl, by omega⟩
          case round =>
            obtain ⟨z2, jj, rfl, hz2, rfl, hjj⟩ := hrel
            by_cases hj0 : jj = 0
            · subst hj0
              by_cases by0 : 1048576 < y0
              · go_wp2
                go_ret
                exact ⟨isBool _, rfl⟩
              by_cases bz0 : 1048576 < z2 + y0
              · go_wp2
                go_ret
                exact ⟨isBool _, rfl⟩
              go_wp2
              go_round
              case rel => exact ⟨z2 + y0, 1, by go_num, by omega, rfl, by omega⟩
              case measure => simp [intOf]
            by_cases hj1 : jj = 1
            · subst hj1
              clear hj0
              by_cases by0 : 1048576 < y1
              · go_wp2
                go_ret
                exact ⟨isBool _, rfl⟩
              by_cases bz0 : 1048576 < z2 + y1
              · go_wp2
                go_ret
                exact ⟨isBool _, rfl⟩
              go_wp2
              go_round
              case rel => exact ⟨z2 + y1, 2, by go_num, by omega, rfl, by omega⟩
              case measure => simp [intOf]
            · have hj2 : jj = 2 := by omega
              subst hj2
              clear hj0 hj1
              go_wp2
              go_round
              case rel => exact ⟨z2, kk + 1, rfl, hz2, by go_num, by omega⟩
              case measure => simp [intOf]; omega
        · have hkm : kk = m := by omega
          subst hkm
          go_wp2
          go_round
          case rel => exact ⟨z1, ii + 1, rfl, hz1, by go_num, by omega⟩
          case measure => simp [intOf]; omega
    · have hin : ii = n1 := by omega
      subst hin
      by_cases b2 : 1048576 < n2
      · go_wp2
        go_ret
        exact ⟨isBool _, rfl⟩
      by_cases b2' : 1048576 < zz + n2
      · go_wp2
        go_ret
        exact ⟨isBool _, rfl⟩
      by_cases b3 : 1048576 < n3
      · go_wp2
        go_ret
        exact ⟨isBool _, rfl⟩
      by_cases b3' : 1048576 < zz + n2 + n3
      · go_wp2
        go_ret
        exact ⟨isBool _, rfl⟩
      by_cases b4 : 1048576 < key.size
      · go_wp2
        go_ret
        exact ⟨isBool _, rfl⟩
      by_cases b4' : 1048576 < zz + n2 + n3 + key.size
      · go_wp2
        go_ret
        exact ⟨isBool _, rfl⟩
      by_cases b5 : 1048576 < n7
      · go_wp2
        go_ret
        exact ⟨isBool _, rfl⟩
      by_cases b5' : 1048576 < zz + n2 + n3 + key.size + n7
      · go_wp2
        go_ret
        exact ⟨isBool _, rfl⟩
      go_wp2
      go_ret
      exact ⟨isBool _, rfl⟩

end Go.Proofs.Qxb6603228a
