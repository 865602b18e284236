/-
  The walk of FnIsDigitsExact.
-/
import Derived.Test.Qxb6603215aDigits
import Derived.WalkSmall
namespace Go.Proofs.Qxb6603215a
open Go.RowKit

set_option maxHeartbeats 400000 in
theorem exact_any (a : Option Addr) (n cap : Nat) (l : List Int) (w : World) (h : Src w a n cap l) (hn : n ≤ 9223372036854775807) :
    Calls Try.prog 3 #[.slice a n cap] w fun e w' => e = .returned (.bool true) ∧ Below w.heap.size w w' := by
  have hbytes := hide (bytes9_any a n cap w hn)
  by_cases hbig : 1048576 < n
  · have e0 : decide (n ≤ 1048576) = false := decide_eq_false (by omega)
    rw [e0] at hbytes
    clear h e0
    go_enter Try.func3, Try.ntmps3
    go_wp2_with fail
    refine hbytes.out.mono ?_
    rintro e w' ⟨rfl, rfl⟩
    go_wp2
    go_ret
    exact ⟨rfl, Below.refl _ _⟩
  · have e0 : decide (n ≤ 1048576) = true := decide_eq_true (by omega)
    rw [e0] at hbytes
    have hclone := hide (clone_any a n cap l w h (by omega))
    have hln : l.length = n := h.1
    clear h e0
    go_enter Try.func3, Try.ntmps3
    go_wp2_with fail
    refine hbytes.out.mono ?_
    rintro e w' ⟨rfl, rfl⟩
    go_wp2_with fail
    refine hclone.out.mono ?_
    rintro e w1 ⟨v, rfl, hown, hbel⟩
    obtain ⟨_, a1, cap1, hv, hbs⟩ := owns_bs hown
    rw [hv]
    clear hown hv hbytes hclone
    have HB := hide hbel
    have HS := hide hbs
    clear hbel hbs
    subst hln
    have hdig := hide (zzIsDigits_any a1 cap1 l w1 HS.out hn)
    go_wp2_with fail
    go_loop [3, 4] (fun c i => ∃ k : Nat, k ≤ l.length ∧ i = .int .i64 k ∧ c = .int .i64 (cntD (l.take k))) (fun _ i => l.length - (intOf i).toNat)
    case atStart => exact ⟨0, Nat.zero_le _, rfl, rfl⟩
    case round =>
      obtain ⟨k, hk, rfl, rfl⟩ := hrel
      have hcl := cntD_le (l.take k)
      rw [List.length_take] at hcl
      by_cases hlt : k < l.length
      · obtain ⟨g, off, ha1, hcell⟩ : ∃ g off, a1 = some ⟨g, off, none⟩ ∧ ∀ j, j < l.length → w1.cell? ⟨g, off + j, none⟩ = some (.int .u8 (l.getD j 0)) := by
          rcases HS.out with h0 | h0
          · rw [h0] at hlt; simp at hlt
          · exact h0
        subst ha1
        obtain ⟨x, hx⟩ : ∃ x, x = l.getD k 0 := ⟨_, rfl⟩
        have cb := hcell k hlt
        rw [← hx] at cb
        clear hcell
        cases hd : isD x with
        | true =>
          have HN := hide (cntD_yes l k hlt (by rw [← hx]; exact hd))
          clear hx
          have hcon := hide (isDigitByte_any x w1)
          rw [hd] at hcon
          clear hd
          go_wp2_with fail
          refine hcon.out.mono ?_
          rintro e w' ⟨rfl, rfl⟩
          go_wp2
          go_round
          case rel => exact ⟨k + 1, by omega, by go_num, by rw [HN.out]; go_num⟩
          case measure => simp [intOf]; omega
        | false =>
          have HN := hide (cntD_no l k hlt (by rw [← hx]; exact hd))
          clear hx
          have hcon := hide (isDigitByte_any x w1)
          rw [hd] at hcon
          clear hd
          go_wp2_with fail
          refine hcon.out.mono ?_
          rintro e w' ⟨rfl, rfl⟩
          go_wp2
          go_round
          case rel => exact ⟨k + 1, by omega, by go_num, by rw [HN.out]⟩
          case measure => simp [intOf]; omega
      · have hk' : k = l.length := by omega
        subst hk'
        have ha := allD_eq l
        clear hcl
        by_cases h0 : 0 < l.length
        · rw [decide_eq_true h0, Bool.true_and] at ha
          have hq : ((cntD l : Int) == (l.length : Int)) = allD l := by rw [ha, Bool.eq_iff_iff]; simp; omega
          have HQ := hide hq
          clear hq ha
          go_wp2_with fail
          refine hdig.out.mono ?_
          rintro e w' ⟨rfl, rfl⟩
          go_wp2
          go_ret
          exact ⟨ret_bool (by rw [HQ.out]; simp), HB.out⟩
        · rw [decide_eq_false h0, Bool.false_and] at ha
          rw [ha] at hdig
          clear ha
          have hl0 : (l.length : Int) ≤ 0 := by omega
          go_wp2_with fail
          refine hdig.out.mono ?_
          rintro e w' ⟨rfl, rfl⟩
          go_wp2
          go_ret
          exact ⟨rfl, HB.out⟩

end Go.Proofs.Qxb6603215a
