/-
  The walks of wrSmall and wrDomain.
-/
import Derived.Test.Qxb6603228aMem
namespace Go.Proofs.Qxb6603228a
open Go.RowKit

/-- It returns a Boolean; where that is true, P holds. -/
def BoolIf (e : Ending) (P : Prop) : Prop := ∃ b, e = .returned (.bool b) ∧ (b = true → P)
theorem boolIf_false (P : Prop) : BoolIf (.returned (.bool false)) P := ⟨false, rfl, fun h => by cases h⟩
theorem boolIf_true {P : Prop} (h : P) : BoolIf (.returned (.bool true)) P := ⟨true, rfl, fun _ => h⟩

def smallPs (ps : List (List Int × List Int)) : Prop := ps.length ≤ 1048576 ∧ ∀ k, k < ps.length → (ps.getD k ([], [])).1.length ≤ 1048576 ∧ (ps.getD k ([], [])).2.length ≤ 1048576
def smallWs (ws : List (List (List Int × List Int))) : Prop := ws.length ≤ 1048576 ∧ ∀ i, i < ws.length → smallPs (ws.getD i [])

set_option maxRecDepth 20000 in
set_option maxHeartbeats 1000000 in
theorem wrSmall_any (a0 a2 a3 a7 : Option Addr) (n0 cap0 n2 cap2 n3 cap3 n7 cap7 : Nat) (v1 : Value) (key : ByteArray) (ws : List (List (List Int × List Int))) (w : World)
    (h0 : n0 ≤ 9223372036854775807) (h2 : n2 ≤ 9223372036854775807) (h3 : n3 ≤ 9223372036854775807) (hk : key.size ≤ 9223372036854775807) (h7 : n7 ≤ 9223372036854775807) (hW : Ws w (fun g => g < w.heap.size) v1 ws) :
    Calls Try.prog 19 #[.slice a0 n0 cap0, v1, .slice a2 n2 cap2, .slice a3 n3 cap3, .string key, .slice a7 n7 cap7] w fun e w' =>
      BoolIf e (n0 ≤ 1048576 ∧ n2 ≤ 1048576 ∧ n3 ≤ 1048576 ∧ n7 ≤ 1048576 ∧ smallWs ws) ∧ Below w.heap.size w w' := by
  obtain ⟨h1, a1, cap1, rfl, hW⟩ := hW
  obtain ⟨n1, hn1⟩ : ∃ n1, n1 = ws.length := ⟨_, rfl⟩
  rw [← hn1] at h1 ⊢
  have HW : Hid (∀ i, i < n1 → ∃ g off u, a1 = some ⟨g, off, none⟩ ∧ g < w.heap.size ∧ w.cell? ⟨g, off + i, none⟩ = some u ∧ Ps w (fun g => g < w.heap.size) u (ws.getD i [])) := by
    intro i hi
    rcases hW with h | ⟨g, off, rfl, hg, hc⟩
    · rw [h] at hn1; simp at hn1; omega
    · obtain ⟨u, h, p⟩ := hc i (by omega)
      exact ⟨g, off, u, rfl, hg, h, p⟩
  have HN := hide hn1
  clear hW hn1
  by_cases b0 : 1048576 < n0
  · go_enter Try.func19, Try.ntmps19
    go_wp2
    go_ret
    exact ⟨boolIf_false _, Below.refl _ _⟩
  by_cases b1 : 1048576 < n1
  · go_enter Try.func19, Try.ntmps19
    go_wp2
    go_ret
    exact ⟨boolIf_false _, Below.refl _ _⟩
  by_cases b2 : 1048576 < n2
  · go_enter Try.func19, Try.ntmps19
    go_wp2
    go_ret
    exact ⟨boolIf_false _, Below.refl _ _⟩
  by_cases b3 : 1048576 < n3
  · go_enter Try.func19, Try.ntmps19
    go_wp2
    go_ret
    exact ⟨boolIf_false _, Below.refl _ _⟩
  by_cases b4 : 1048576 < key.size
  · go_enter Try.func19, Try.ntmps19
    go_wp2
    go_ret
    exact ⟨boolIf_false _, Below.refl _ _⟩
  by_cases b5 : 1048576 < n7
  · go_enter Try.func19, Try.ntmps19
    go_wp2
    go_ret
    exact ⟨boolIf_false _, Below.refl _ _⟩
  by_cases b6 : 1048576 < 8 * n0 + 24 * n1 + n2 + 8 * n3 + key.size + n7
  · go_enter Try.func19, Try.ntmps19
    go_wp2
    go_ret
    exact ⟨boolIf_false _, Below.refl _ _⟩
  go_enter Try.func19, Try.ntmps19
  go_wp2
  go_loopw [13, 70] (fun t i wr => ∃ tt ii : Nat, t = .int .i64 tt ∧ tt ≤ 1048576 ∧ i = .int .i64 ii ∧ ii ≤ n1 ∧ Hid (∀ i', i' < ii → smallPs (ws.getD i' [])) ∧ Below w.heap.size w wr) (fun _ i _ => n1 - (intOf i).toNat)
  case atStart => exact ⟨8 * n0 + 24 * n1 + n2 + 8 * n3 + key.size + n7, 0, by go_num, by omega, rfl, Nat.zero_le _, fun i' hi' => by omega, Below.refl _ _⟩
  case round =>
    obtain ⟨tt, ii, rfl, htt, rfl, hii, hok, hnx⟩ := hrel
    by_cases hlt : ii < n1
    · obtain ⟨g, off, u, rfl, hg, hcell, hm, a', cap', rfl, hP⟩ := HW.out ii hlt
      obtain ⟨m, hm1⟩ : ∃ m, m = (ws.getD ii []).length := ⟨_, rfl⟩
      rw [← hm1] at hm hcell
      have hcellr : wr.cell? ⟨g, off + ii, none⟩ = some (.slice a' m cap') := (hnx.cell (p := ⟨g, off + ii, none⟩) hg).trans hcell
      have HP : Hid (∀ k, k < m → ∃ g1 off1 x0 z0 x1 z1, a' = some ⟨g1, off1, none⟩ ∧ g1 < w.heap.size ∧ w.cell? ⟨g1, off1 + k * 2, none⟩ = some (.slice x0 ((ws.getD ii []).getD k ([], [])).1.length z0) ∧ ((ws.getD ii []).getD k ([], [])).1.length ≤ 9223372036854775807 ∧
          w.cell? ⟨g1, off1 + k * 2 + 1, none⟩ = some (.slice x1 ((ws.getD ii []).getD k ([], [])).2.length z1) ∧ ((ws.getD ii []).getD k ([], [])).2.length ≤ 9223372036854775807) := by
        intro k hk
        rcases hP with h | ⟨g1, off1, rfl, hg1, hc⟩
        · rw [h] at hm1; simp at hm1; omega
        · obtain ⟨u0, u1, e0, e1, ⟨⟨hl0, x0, z0, rfl, _⟩, _⟩, ⟨⟨hl1, x1, z1, rfl, _⟩, _⟩⟩ := hc k (by omega)
          rw [List.length_map] at hl0 hl1 e0 e1
          exact ⟨g1, off1, x0, z0, x1, z1, rfl, hg1, e0, hl0, e1, hl1⟩
      have HM := hide hm1
      clear hP hm1 hcell
      by_cases bm : 1048576 < m
      · go_wp2
        go_ret
        exact ⟨boolIf_false _, hnx⟩
      obtain ⟨wo, rfl⟩ : ∃ wo : World, wo = wr := ⟨_, rfl⟩
      go_wp2
      go_loopw [13, 79] (fun t i wr => ∃ t1 kk : Nat, t = .int .i64 t1 ∧ t1 ≤ 1048576 ∧ i = .int .i64 kk ∧ kk ≤ m ∧ Hid (∀ k', k' < kk → ((ws.getD ii []).getD k' ([], [])).1.length ≤ 1048576 ∧ ((ws.getD ii []).getD k' ([], [])).2.length ≤ 1048576) ∧ Below w.heap.size w wr) (fun _ i _ => m - (intOf i).toNat)
      case atStart => exact ⟨tt, 0, rfl, htt, rfl, Nat.zero_le _, fun k' hk' => by omega, hnx⟩
      case round =>
        obtain ⟨t1, kk, rfl, ht1, rfl, hkk, hok1, hnx1⟩ := hrel
        clear hcellr hnx
        by_cases hlt2 : kk < m
        · obtain ⟨g1, off1, x0, z0, x1, z1, rfl, hg1, e0, hy0, e1, hy1⟩ := HP.out kk hlt2
          obtain ⟨y0, q0⟩ : ∃ y0, y0 = ((ws.getD ii []).getD kk ([], [])).1.length := ⟨_, rfl⟩
          obtain ⟨y1, q1⟩ : ∃ y1, y1 = ((ws.getD ii []).getD kk ([], [])).2.length := ⟨_, rfl⟩
          rw [← q0] at e0 hy0
          rw [← q1] at e1 hy1
          have f0 : wr.cell? ⟨g1, off1 + kk * 2, none⟩ = some (.slice x0 y0 z0) := (hnx1.cell (p := ⟨g1, off1 + kk * 2, none⟩) hg1).trans e0
          have f1 : wr.cell? ⟨g1, off1 + kk * 2 + 1, none⟩ = some (.slice x1 y1 z1) := (hnx1.cell (p := ⟨g1, off1 + kk * 2 + 1, none⟩) hg1).trans e1
          have Q0 := hide q0
          have Q1 := hide q1
          clear q0 q1 e0 e1
          have hB := hnx1.alloc hnx1.size (.cells #[.slice x0 y0 z0, .slice x1 y1 z1] 52)
          have HB := hide hB
          clear hB
          by_cases by0 : 1048576 < y0
          · go_wp2
            go_ret
            exact ⟨boolIf_false _, HB.out⟩
          by_cases by1 : 1048576 < y1
          · go_wp2
            go_ret
            exact ⟨boolIf_false _, HB.out⟩
          by_cases bt : 1048576 < t1 + (48 + y0 + y1)
          · go_wp2
            go_ret
            exact ⟨boolIf_false _, HB.out⟩
          go_wp2
          go_roundw
          case rel =>
            refine ⟨t1 + (48 + y0 + y1), kk + 1, by go_num, by omega, by go_num, by omega, fun k' hk' => ?_, HB.out⟩
            by_cases hk : k' < kk
            · exact hok1.out k' hk
            · obtain rfl : k' = kk := by omega
              rw [← Q0.out, ← Q1.out]; omega
          case measure => simp [intOf]; omega
        · have hkm : kk = m := by omega
          subst hkm
          go_wp2
          go_roundw
          case rel =>
            refine ⟨t1, ii + 1, rfl, ht1, by go_num, by omega, fun i' hi' => ?_, hnx1⟩
            by_cases hi : i' < ii
            · exact hok.out i' hi
            · obtain rfl : i' = ii := by omega
              exact ⟨by rw [← HM.out]; omega, fun k hk => hok1.out k (by rw [HM.out]; exact hk)⟩
          case measure => simp [intOf]; omega
    · have hin : ii = n1 := by omega
      subst hin
      go_wp2
      go_ret
      exact ⟨boolIf_true ⟨by omega, by omega, by omega, by omega, by rw [← HN.out]; omega, fun i hi => hok.out i (by rw [HN.out]; exact hi)⟩, hnx⟩

end Go.Proofs.Qxb6603228a
