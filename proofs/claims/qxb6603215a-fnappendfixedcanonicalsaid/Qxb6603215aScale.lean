/-
  The walk of FnAppendFixedScaleByTen.
-/
import Derived.Test.Qxb6603215aFixed
import Derived.Deep.QuietTactic
import Derived.BigQuiet
import Derived.WalkSmall
namespace Go.Proofs.Qxb6603215a
open Go.RowKit

theorem zzAppend_any (base m : Nat) (xs : List Value) (v : Value) (c pi : Int) (p : Nat) (w : World) (hpi : pi = (p : Int)) (h1 : -9223372036854775808 ≤ c) (h2 : c ≤ 9223372036854775807) (hp : p ≤ 18)
    (hown : w.ownsRow base 5 1 v m xs) (hm : m ≤ 1048576) (hb : base ≤ w.heap.size) :
    Calls Try.prog 17 #[v, .int .i64 c, .int .i32 pi] w fun e w' => ∃ v' N, e = .returned v' ∧ isLast c.natAbs p N ∧ N ≤ 19 ∧
      w'.ownsRow base 5 1 v' (m + (fx (decide (c < 0)) c.natAbs p N).length) (xs ++ (fx (decide (c < 0)) c.natAbs p N).map (Value.int .u8)) ∧ Below base w w' := by
  subst hpi
  have hcon := hide (appendFixed_any base m xs v c p w h1 h2 hp hown hm hb)
  clear hown
  go_enter Try.func17, Try.ntmps17
  go_wp2_with fail
  refine hcon.out.mono ?_
  rintro e w' ⟨v', N, rfl, r1, r2, r3, r4⟩
  have R := hide (And.intro r1 (And.intro r2 (And.intro r3 r4)))
  clear r1 r2 r3 r4
  go_wp2
  go_ret
  exact ⟨v', N, rfl, R.out⟩

theorem owns_bytes {w : World} {base n : Nat} {v : Value} {l : List Int} (h : w.ownsRow base 5 1 v n (l.map (Value.int .u8))) (hn : 0 < n) :
    ∃ g cap, v = .slice (some ⟨g, 0, none⟩) n cap ∧ base ≤ g ∧ g < w.heap.size ∧ n ≤ cap ∧ l.length = n ∧ ∀ j, j < n → w.cell? ⟨g, j, none⟩ = some (.int .u8 (l.getD j 0)) := by
  have hl := h.1
  rw [List.length_map, Nat.mul_one] at hl
  have hc := @World.ownsRow.cells _ _ _ _ _ _ _ h
  rcases h.2 with ⟨_, h0⟩ | ⟨g, cap, cur, rfl, hb, hg, hcap, _⟩
  · omega
  · refine ⟨g, cap, rfl, hb, (Array.getElem?_eq_some_iff.1 hg).1, hcap, hl, fun j hj => ?_⟩
    have := hc (g := g) rfl j (.int .u8 (l.getD j 0)) (by simp [hl, hj])
    rw [Addr.add_lit, Nat.zero_add] at this
    exact this

theorem getD_app {L M : List Int} {k : Nat} (h : k < L.length) : (L ++ M).getD k 0 = L.getD k 0 := by
  simp only [List.getD_eq_getElem?_getD, List.getElem?_append_left h]

theorem scale_small (c p : Int) (w : World) (h : p < 0 ∨ 17 < p ∨ 922337203685477580 < c ∨ c < -922337203685477580) :
    Calls Try.prog 7 #[.int .i64 c, .int .i32 p] w fun e w' => e = .returned (.bool true) ∧ Below w.heap.size w w' := by
  by_cases h1 : p < 0
  · go_enter Try.func7, Try.ntmps7
    go_wp2
    go_ret
    exact ⟨rfl, Below.refl _ _⟩
  by_cases h2 : 17 < p
  · go_enter Try.func7, Try.ntmps7
    go_wp2
    go_ret
    exact ⟨rfl, Below.refl _ _⟩
  by_cases h3 : 922337203685477580 < c
  · go_enter Try.func7, Try.ntmps7
    go_wp2
    go_ret
    exact ⟨rfl, Below.refl _ _⟩
  have h4 : c < -922337203685477580 := by omega
  clear h
  go_enter Try.func7, Try.ntmps7
  go_wp2
  go_ret
  exact ⟨rfl, Below.refl _ _⟩

set_option maxHeartbeats 400000 in
theorem scale_main (c : Int) (p : Nat) (w : World) (hp : p ≤ 17) (h1 : c ≤ 922337203685477580) (h2 : -922337203685477580 ≤ c) :
    Calls Try.prog 7 #[.int .i64 c, .int .i32 p] w fun e w' => e = .returned (.bool true) ∧ Below w.heap.size w w' := by
  go_enter Try.func7, Try.ntmps7
  go_wp2_with fail
  refine (zzAppend_any w.heap.size 0 [] (.slice none 0 0) c p p _ rfl (by omega) (by omega) (by omega) (World.ownsRow_nil _ _ _ _) (by omega) (Nat.le_refl _)).mono ?_
  rintro e wa ⟨va, Na, rfl, la, na, oa, ba⟩
  have Ra := hide (And.intro la (And.intro na (And.intro oa ba)))
  clear la na oa ba
  go_wp2_with fail
  have e1 : (c * 10).natAbs = c.natAbs * 10 := by omega
  have e2 : decide (c * 10 < 0) = decide (c < 0) := by congr 1; simp; omega
  refine (zzAppend_any wa.heap.size 0 [] (.slice none 0 0) (c * 10) (p + 1) (p + 1) _ (by omega) (by omega) (by omega) (by omega) (World.ownsRow_nil _ _ _ _) (by omega) (Nat.le_refl _)).mono ?_
  rintro e wb ⟨vb, Nb, rfl, lb, nb, ob, bb⟩
  rw [e1] at lb ob
  rw [e2] at ob
  clear e1 e2
  obtain ⟨la, na, oa, ba⟩ := Ra.out
  clear Ra
  have hten := fx_ten (decide (c < 0)) c.natAbs p Na Nb la lb
  rw [hten] at ob
  have hla := fx_length_le (decide (c < 0)) c.natAbs p Na na
  have hla0 : 0 < (fx (decide (c < 0)) c.natAbs p Na).length := by
    have := la.1
    rw [fx_length]; split <;> split <;> omega
  obtain ⟨L, hL⟩ : ∃ L, L = fx (decide (c < 0)) c.natAbs p Na := ⟨_, rfl⟩
  rw [← hL] at hla hla0 oa ob
  simp only [Nat.zero_add, List.nil_append] at oa ob
  obtain ⟨ga, capa, hva, hga1, hga2, hca, _, hcella⟩ := owns_bytes oa hla0
  obtain ⟨gb, capb, hvb, hgb1, hgb2, hcb, _, hcellb⟩ := owns_bytes ob (by rw [List.length_append]; omega)
  rw [hva, hvb]
  clear hva hvb oa ob la lb hten
  have hB : Below w.heap.size w wb := ba.trans (bb.mono ba.size)
  have hcella' : ∀ j, j < L.length → wb.cell? ⟨ga, j, none⟩ = some (.int .u8 (L.getD j 0)) := fun j hj => (bb.cell (p := ⟨ga, j, none⟩) hga2).trans (hcella j hj)
  clear hcella
  by_cases hp0 : p = 0
  · subst hp0
    rw [if_pos rfl] at hcellb ⊢
    rw [List.length_append, List.length_cons, List.length_singleton] at hcellb ⊢
    have HA := hide hcella'
    have HB := hide hcellb
    clear hcella' hcellb hL
    go_wp2_with fail
    go_loopw [8] (fun i wr => ∃ k d : Nat, k ≤ L.length ∧ i = .int .i64 k ∧ wr = wb.drewN d) (fun i _ => L.length - (intOf i).toNat)
    case atStart => exact ⟨0, 0, Nat.zero_le _, rfl, rfl⟩
    case round =>
      obtain ⟨k, d, hk, rfl, rfl⟩ := hrel
      by_cases hlt : k < L.length
      · obtain ⟨x, hx⟩ : ∃ x, x = L.getD k 0 := ⟨_, rfl⟩
        have ca := HA.out k hlt
        have cb := HB.out k (by omega)
        rw [getD_app hlt, ← hx] at cb
        rw [← hx] at ca
        clear hx
        go_wp2
        go_quiet (fail)
        go_wp2
        go_roundw
        case rel => exact ⟨k + 1, _, by omega, by go_num, rfl⟩
        case measure => simp [intOf]; omega
      · have cb := HB.out L.length (by omega)
        have cb1 := HB.out (L.length + 1) (by omega)
        have e46 : (L ++ [46, 48]).getD L.length 0 = (46 : Int) := by simp
        have e48 : (L ++ [46, 48]).getD (L.length + 1) 0 = (48 : Int) := by simp
        rw [e46] at cb
        rw [e48] at cb1
        clear e48 e46
        go_wp2
        go_ret
        exact ⟨rfl, below_drewN hB _⟩
  · rw [if_neg hp0] at hcellb ⊢
    rw [List.length_append, List.length_singleton] at hcellb ⊢
    have ipos : (0 : Int) < p := by omega
    have HA := hide hcella'
    have HB := hide hcellb
    clear hcella' hcellb hL
    go_wp2_with fail
    go_loopw [8] (fun i wr => ∃ k d : Nat, k ≤ L.length ∧ i = .int .i64 k ∧ wr = wb.drewN d) (fun i _ => L.length - (intOf i).toNat)
    case atStart => exact ⟨0, 0, Nat.zero_le _, rfl, rfl⟩
    case round =>
      obtain ⟨k, d, hk, rfl, rfl⟩ := hrel
      by_cases hlt : k < L.length
      · obtain ⟨x, hx⟩ : ∃ x, x = L.getD k 0 := ⟨_, rfl⟩
        have ca := HA.out k hlt
        have cb := HB.out k (by omega)
        rw [getD_app hlt, ← hx] at cb
        rw [← hx] at ca
        clear hx
        go_wp2
        go_quiet (fail)
        go_wp2
        go_roundw
        case rel => exact ⟨k + 1, _, by omega, by go_num, rfl⟩
        case measure => simp [intOf]; omega
      · have cb := HB.out L.length (by omega)
        have e48 : (L ++ [48]).getD L.length 0 = (48 : Int) := by simp
        rw [e48] at cb
        clear e48
        go_wp2
        go_ret
        exact ⟨rfl, below_drewN hB _⟩

end Go.Proofs.Qxb6603215a
