/-
  The walk of FnAppendFixedDigitsAgree.
-/
import Derived.Test.Qxb6603215aScale
import Derived.Test.Qxb6603215aDigits
namespace Go.Proofs.Qxb6603215a
open Go.RowKit

/-- Neither a sign nor a point. -/
def notSP (x : Int) : Bool := (x != 45) && (x != 46)
def strip (l : List Int) : List Int := l.filter notSP

theorem strip_yes (l : List Int) (k : Nat) (hk : k < l.length) (h : notSP (l.getD k 0) = true) : strip (l.take (k + 1)) = strip (l.take k) ++ [l.getD k 0] := by
  unfold strip
  rw [take_succ' l k hk, List.filter_append]
  simp only [List.filter_cons, h, if_true, List.filter_nil]

theorem strip_no (l : List Int) (k : Nat) (hk : k < l.length) (h : notSP (l.getD k 0) = false) : strip (l.take (k + 1)) = strip (l.take k) := by
  unfold strip
  rw [take_succ' l k hk, List.filter_append]
  simp only [List.filter_cons, h, List.filter_nil]; exact List.append_nil _

theorem strip_le (l : List Int) : (strip l).length ≤ l.length := List.length_filter_le _ _

theorem isD_dg {x : Int} (h : 48 ≤ x ∧ x ≤ 57) : isD x = true := by unfold isD; simp; omega

theorem fx_cases (neg : Bool) (a p n : Nat) : ∀ x ∈ fx neg a p n, isD x = true ∨ notSP x = false := by
  intro x hx
  rw [fx, List.mem_append] at hx
  rcases hx with hx | hx
  · cases neg <;> simp at hx
    subst hx; exact .inr rfl
  · unfold tx at hx
    split at hx
    · exact .inl (isD_dg (dg_digit _ _ x hx))
    · rw [List.mem_append] at hx
      rcases hx with hx | hx
      · exact .inl (isD_dg (dg_digit _ _ x hx))
      · rcases List.mem_cons.1 hx with hx | hx
        · subst hx; exact .inr rfl
        · exact .inl (isD_dg (dg_digit _ _ x hx))

theorem dg_pos_mem (a n : Nat) (h : 0 < n) : ∃ x ∈ dg a n, 48 ≤ x ∧ x ≤ 57 := by
  obtain ⟨k, rfl⟩ : ∃ k, n = k + 1 := ⟨n - 1, by omega⟩
  rw [dg]
  exact ⟨_, List.mem_append_right _ (List.mem_singleton.2 rfl), by omega, by omega⟩

theorem fx_has_digit (neg : Bool) (a p n : Nat) (h : p < n) : ∃ x ∈ fx neg a p n, 48 ≤ x ∧ x ≤ 57 := by
  have ht : ∃ x ∈ tx a p n, 48 ≤ x ∧ x ≤ 57 := by
    unfold tx
    split
    · exact dg_pos_mem a n (by omega)
    · obtain ⟨x, hx, hd⟩ := dg_pos_mem (a / 10 ^ p) (n - p) (by omega)
      exact ⟨x, List.mem_append_left _ hx, hd⟩
  obtain ⟨x, hx, hd⟩ := ht
  exact ⟨x, List.mem_append_right _ hx, hd⟩

theorem strip_allD (neg : Bool) (a p n : Nat) (h : p < n) : allD (strip (fx neg a p n)) = true := by
  unfold allD
  have h1 : (strip (fx neg a p n)).all isD = true := by
    rw [List.all_eq_true]
    intro x hx
    unfold strip at hx
    rw [List.mem_filter] at hx
    rcases fx_cases neg a p n x hx.1 with h | h
    · exact h
    · rw [h] at hx; exact absurd hx.2 (by simp)
  obtain ⟨x, hx, hd⟩ := fx_has_digit neg a p n h
  have h2 : x ∈ strip (fx neg a p n) := by
    unfold strip
    rw [List.mem_filter]
    exact ⟨hx, by unfold notSP; simp; omega⟩
  rw [h1, Bool.true_and, decide_eq_true (List.length_pos_of_mem h2)]

theorem allD_false_of {l : List Int} {x : Int} (hx : x ∈ l) (h : isD x = false) : allD l = false := by
  unfold allD
  have : l.all isD = false := by
    rw [List.all_eq_false]
    exact ⟨x, hx, by rw [h]; simp⟩
  rw [this]; rfl

theorem fx_allD (neg : Bool) (a p n : Nat) (h : p < n) : allD (fx neg a p n) = (!neg && decide (p = 0)) := by
  cases neg with
  | true => exact allD_false_of (x := 45) (by rw [fx, if_pos rfl]; exact List.mem_append_left _ (List.mem_singleton.2 rfl)) rfl
  | false =>
    by_cases hp : p = 0
    · subst hp
      have e : fx false a 0 n = dg a n := by simp [fx, tx]
      rw [e]
      unfold allD
      have h1 : (dg a n).all isD = true := by
        rw [List.all_eq_true]
        exact fun x hx => isD_dg (dg_digit _ _ x hx)
      rw [h1, dg_length, decide_eq_true h]; rfl
    · rw [decide_eq_false hp]
      refine allD_false_of (x := 46) ?_ rfl
      rw [fx, tx, if_neg (show ¬ (p = 0 ∨ n ≤ p) by omega)]
      exact List.mem_append_right _ (List.mem_append_right _ (List.mem_cons_self))

theorem agree_small (c p : Int) (w : World) (h : p < 0 ∨ 18 < p) :
    Calls Try.prog 8 #[.int .i64 c, .int .i32 p] w fun e w' => e = .returned (.bool true) ∧ Below w.heap.size w w' := by
  rcases h with h | h
  · go_enter Try.func8, Try.ntmps8
    go_wp2
    go_ret
    exact ⟨rfl, Below.refl _ _⟩
  · have h' : ¬ p < 0 := by omega
    go_enter Try.func8, Try.ntmps8
    go_wp2
    go_ret
    exact ⟨rfl, Below.refl _ _⟩

set_option maxHeartbeats 400000 in
theorem agree_main (c : Int) (p : Nat) (w : World) (hp : p ≤ 18) (h1 : c ≤ 9223372036854775807) (h2 : -9223372036854775808 ≤ c) :
    Calls Try.prog 8 #[.int .i64 c, .int .i32 p] w fun e w' => e = .returned (.bool true) ∧ Below w.heap.size w w' := by
  obtain ⟨i0, hi, hz0, hz1, hz2⟩ := info_parts Try.info5
  go_enter Try.func8, Try.ntmps8
  go_wp2_with fail
  refine (zzAppend_any w.heap.size 0 [] (.slice none 0 0) c p p _ rfl (by omega) (by omega) (by omega) (World.ownsRow_nil _ _ _ _) (by omega) (Nat.le_refl _)).mono ?_
  rintro e w1 ⟨v, N, rfl, hl, hn, ho, hb⟩
  have hla := fx_length_le (decide (c < 0)) c.natAbs p N hn
  have hla0 : 0 < (fx (decide (c < 0)) c.natAbs p N).length := by
    obtain ⟨x, hx, _⟩ := fx_has_digit (decide (c < 0)) c.natAbs p N hl.1
    exact List.length_pos_of_mem hx
  have hst := strip_allD (decide (c < 0)) c.natAbs p N hl.1
  have hall := fx_allD (decide (c < 0)) c.natAbs p N hl.1
  obtain ⟨L, hL⟩ : ∃ L, L = fx (decide (c < 0)) c.natAbs p N := ⟨_, rfl⟩
  rw [← hL] at hla hla0 ho hst hall
  simp only [Nat.zero_add, List.nil_append] at ho
  obtain ⟨g, cap, hv, hg1, hg2, hc, _, hcell⟩ := owns_bytes ho hla0
  rw [hv]
  clear hv ho hL hl
  have HC := hide hcell
  have HB := hide hb
  have HST := hide hst
  have HALL := hide hall
  clear hcell hb hst hall
  go_wp2_with (at_make; refine wpList_make_own _ rfl _ _ 22 rfl w1.heap.size 5 i0 (.int .u8 0) 1 Try.underlying22 hi hz0 hz1 .i64 .i64 _ L.length rfl rfl rfl ?b1 ?b2 ?b3 ?_)
  case b1 => rw [hz2]; omega
  case b2 => unfold maxLen; omega
  case b3 => exact Nat.le_refl _
  intro w2 hown hgrow
  have hbel : Below w1.heap.size w1 w2 := (Below.refl _ _).grown hgrow (Nat.le_refl _) (by intro k hk; cases hk)
  have HO := hide hown
  clear hown hgrow
  go_wp2_with fail
  go_loopw [6, 7] (fun v i wr => ∃ k : Nat, k ≤ L.length ∧ i = .int .i64 k ∧ Hid (wr.ownsRow w1.heap.size 5 1 v (strip (L.take k)).length ((strip (L.take k)).map (Value.int .u8))) ∧ Below w1.heap.size w1 wr) (fun _ i _ => L.length - (intOf i).toNat)
  case atStart => exact ⟨0, Nat.zero_le _, rfl, HO.out, hbel⟩
  case round =>
    obtain ⟨k, hk, rfl, hown, hnx⟩ := hrel
    clear hbel
    by_cases hlt : k < L.length
    · obtain ⟨x, hx⟩ : ∃ x, x = L.getD k 0 := ⟨_, rfl⟩
      have cb : wr.cell? ⟨g, k, none⟩ = some (.int .u8 x) := by rw [hx]; exact (hnx.cell (p := ⟨g, k, none⟩) hg2).trans (HC.out k hlt)
      have HX := hide hx
      clear hx
      by_cases h45 : x = 45
      · subst h45
        have HN := hide (strip_no L k hlt (by rw [← HX.out]; rfl))
        go_wp2
        go_roundw
        case rel => exact ⟨k + 1, by omega, by go_num, by rw [HN.out]; exact hown.out, hnx⟩
        case measure => simp [intOf]; omega
      by_cases h46 : x = 46
      · subst h46
        have HN := hide (strip_no L k hlt (by rw [← HX.out]; rfl))
        clear h45
        go_wp2
        go_roundw
        case rel => exact ⟨k + 1, by omega, by go_num, by rw [HN.out]; exact hown.out, hnx⟩
        case measure => simp [intOf]; omega
      have q45 : (x != 45) = true := by simp [h45]
      have q46 : (x != 46) = true := by simp [h46]
      have HN := hide (strip_yes L k hlt (by rw [← HX.out]; unfold notSP; rw [q45, q46]; rfl))
      have hsl := strip_le (L.take k)
      rw [List.length_take] at hsl
      clear h45 h46
      obtain ⟨S, hS⟩ : ∃ S, S = strip (L.take k) := ⟨_, rfl⟩
      rw [← hS] at HN hsl hown
      clear hS
      have hsz := hnx.size
      go_wp2_with (at_builtin; refine wpList_append_own _ rfl _ _ 22 rfl w1.heap.size 5 i0 (.int .u8 0) 1 1 Try.underlying22 hi hz0 hz1 hz2 rfl (by decide) _ _ _ rfl (hown.out.alloc _) ⟨wr.heap.size, 0, none⟩ 1 1 [.int .u8 x] rfl rfl ?c1 ?c2 ?c3 ?c4 ?c5 ?_)
      case c1 => exact cell_one_new _ _ _
      case c2 => intro u hu; simp at hu; subst hu; rfl
      case c3 => unfold maxLen; omega
      case c4 => omega
      case c5 => simp; omega
      intro v' w3 hown' hgrow _
      have hbel3 := (hnx.alloc hsz (.cells #[.int .u8 x] 5)).grown hgrow (by simp; omega) (fun j hj => (hown.out.lt j hj).1)
      have HO3 := hide hown'
      have HB3 := hide hbel3
      clear hown' hgrow hbel3 hown
      go_wp2
      go_roundw
      case rel => exact ⟨k + 1, by omega, by go_num, by rw [HN.out, ← HX.out]; simpa [Hid] using HO3.out, HB3.out⟩
      case measure => simp [intOf]; omega
    · have hk' : k = L.length := by omega
      subst hk'
      rw [List.take_length] at hown
      obtain ⟨hle, a1, cap1, hv1, hbs1⟩ := owns_bs hown.out
      subst hv1
      have hbs0 : Bs wr (some ⟨g, 0, none⟩) L := .inr ⟨g, 0, rfl, fun j hj => by rw [Nat.zero_add]; exact (hnx.cell (p := ⟨g, j, none⟩) hg2).trans (HC.out j hj)⟩
      have hsl := strip_le L
      have con1 := hide (zzIsDigits_any a1 cap1 (strip L) wr hbs1 (by omega))
      have con2 := hide (zzIsDigits_any (some ⟨g, 0, none⟩) cap L wr hbs0 (by omega))
      rw [HST.out] at con1
      clear hbs0 hbs1 hown
      go_wp2_with fail
      refine con1.out.mono ?_
      rintro e w' ⟨rfl, rfl⟩
      by_cases hc0 : c < 0
      · have ha : allD L = false := by rw [HALL.out]; simp [hc0]
        rw [ha] at con2
        clear ha
        go_wp2_with fail
        refine con2.out.mono ?_
        rintro e w' ⟨rfl, rfl⟩
        go_wp2
        go_ret
        exact ⟨rfl, HB.out.trans (hnx.mono HB.out.size)⟩
      · by_cases hp0 : p = 0
        · subst hp0
          have ha : allD L = true := by rw [HALL.out]; simp; omega
          rw [ha] at con2
          clear ha
          go_wp2_with fail
          refine con2.out.mono ?_
          rintro e w' ⟨rfl, rfl⟩
          go_wp2
          go_ret
          exact ⟨rfl, HB.out.trans (hnx.mono HB.out.size)⟩
        · have ha : allD L = false := by rw [HALL.out]; simp [hp0]
          have ip : (0 : Int) < p := by omega
          rw [ha] at con2
          clear ha
          go_wp2_with fail
          refine con2.out.mono ?_
          rintro e w' ⟨rfl, rfl⟩
          go_wp2
          go_ret
          exact ⟨ret_bool (by simp [hp0]), HB.out.trans (hnx.mono HB.out.size)⟩

end Go.Proofs.Qxb6603215a
