/-
  The walk of wrDomain.
-/
import Derived.Test.Qxb6603228aSmall
namespace Go.Proofs.Qxb6603228a
open Go.RowKit

set_option maxHeartbeats 1000000 in
theorem wrDomain_any (a0 a1 a2 : Option Addr) (n0 cap0 n1 cap1 n2 cap2 : Nat) (v3 : Value) (ls : List Int) (S : Nat → Prop) (w : World)
    (h0 : n0 ≤ 9223372036854775807) (h1 : n1 ≤ 9223372036854775807) (_h2 : n2 ≤ 9223372036854775807) (h3 : Row w S v3 (ls.map (Value.int .i64))) :
    Calls Try.prog 20 #[.slice a0 n0 cap0, .slice a1 n1 cap1, .slice a2 n2 cap2, v3] w fun e w' =>
      BoolIf e (n1 = n0 ∧ n2 = n0 ∧ ∀ x ∈ ls, 0 ≤ x ∧ x < n0) ∧ w' = w := by
  obtain ⟨hl, a3, cap3, rfl, hrow⟩ := h3
  rw [List.length_map] at hl
  rw [List.length_map]
  have HR : Hid (∀ k, k < ls.length → ∃ g off, a3 = some ⟨g, off, none⟩ ∧ w.cell? ⟨g, off + k, none⟩ = some (.int .i64 (ls.getD k 0))) := by
    intro k hk
    rcases hrow with h | ⟨g, off, rfl, _, hc⟩
    · simp at h; rw [h] at hk; simp at hk
    · exact ⟨g, off, rfl, by rw [hc k (by simpa using hk), map_getD _ _ 0 _ hk]⟩
  clear hrow
  by_cases b1 : n1 = n0
  case neg =>
    have q1 : ((n1 : Int) != (n0 : Int)) = true := by simp; omega
    go_enter Try.func20, Try.ntmps20
    go_wp2
    go_ret
    exact ⟨boolIf_false _, rfl⟩
  subst b1
  by_cases b2 : n2 = n1
  case neg =>
    have q1 : ((n2 : Int) != (n1 : Int)) = true := by simp; omega
    go_enter Try.func20, Try.ntmps20
    go_wp2
    go_ret
    exact ⟨boolIf_false _, rfl⟩
  subst b2
  go_enter Try.func20, Try.ntmps20
  go_wp2
  go_loop [10, 25] (fun _ i => ∃ k : Nat, i = .int .i64 k ∧ k ≤ ls.length ∧ Hid (∀ j, j < k → 0 ≤ ls.getD j 0 ∧ ls.getD j 0 < n2)) (fun _ i => ls.length - (intOf i).toNat)
  case atStart => exact ⟨0, rfl, Nat.zero_le _, fun j hj => by omega⟩
  case round =>
    obtain ⟨k, rfl, hk, hok⟩ := hrel
    by_cases hlt : k < ls.length
    · obtain ⟨g, off, rfl, hcell⟩ := HR.out k hlt
      obtain ⟨x, hx⟩ : ∃ x, x = ls.getD k 0 := ⟨_, rfl⟩
      rw [← hx] at hcell
      have HX := hide hx
      clear hx
      by_cases c0 : x < 0
      · go_wp2
        go_ret
        exact ⟨boolIf_false _, rfl⟩
      by_cases c1 : (n2 : Int) ≤ x
      · go_wp2
        go_ret
        exact ⟨boolIf_false _, rfl⟩
      go_wp2
      go_round
      case rel =>
        refine ⟨k + 1, by go_num, by omega, fun j hj => ?_⟩
        by_cases hjk : j < k
        · exact hok.out j hjk
        · obtain rfl : j = k := by omega
          rw [← HX.out]; omega
      case measure => simp [intOf]; omega
    · have hkl : k = ls.length := by omega
      subst hkl
      go_wp2
      go_ret
      have fin : ∀ x ∈ ls, 0 ≤ x ∧ x < (n2 : Int) := by
        intro x hx
        obtain ⟨j, hj, rfl⟩ := List.getElem_of_mem hx
        have := hok.out j hj
        rw [List.getD_eq_getElem?_getD, List.getElem?_eq_getElem hj] at this
        exact this
      first | exact ⟨boolIf_true fin, rfl⟩ | exact ⟨boolIf_true ⟨rfl, rfl, fin⟩, rfl⟩

end Go.Proofs.Qxb6603228a
