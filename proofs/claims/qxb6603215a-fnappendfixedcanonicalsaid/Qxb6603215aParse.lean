/-
  The walk of zzParseFixed over a text that appendFixed writes.
-/
import Derived.Test.Qxb6603215aDigits
import Derived.Test.Qxb6603215aPlainB
import Derived.Deep.DeepCutAuto
namespace Go.Proofs.Qxb6603215a
open Go.RowKit

theorem isD_digit {x : Int} (h1 : 48 ≤ x) (h2 : x ≤ 57) : isD x = true := by unfold isD; simp; omega

set_option maxRecDepth 20000 in
set_option maxHeartbeats 1000000 in
theorem parse_core (g off cap n s m1 : Nat) (X : Nat → Int) (neg : Bool) (a p N : Nat) (w : World)
    (hs1 : Hid (neg = true → s = 1)) (hs0 : Hid (neg = false → s = 0)) (hs : s ≤ 1) (hm : 1 ≤ m1) (hNp : Hid (N = m1 + p)) (hN : m1 + p ≤ 19) (hn : Hid (n = s + m1 + if p = 0 then 0 else p + 1))
    (HC : Hid (∀ j, j < n → w.cell? ⟨g, off + j, none⟩ = some (.int .u8 (X j))))
    (HI : Hid (∀ j, j < m1 → X (s + j) = 48 + ((a / 10 ^ (N - 1 - j) % 10 : Nat) : Int))) (HP : Hid (0 < p → X (s + m1) = 46)) (HF : Hid (∀ j, j < p → X (s + m1 + 1 + j) = 48 + ((a / 10 ^ (p - 1 - j) % 10 : Nat) : Int)))
    (HS : Hid (neg = true → X 0 = 45)) (HL : Hid (1 < m1 → 0 < a / 10 ^ (N - 1 - 0) % 10)) (HZ : Hid (a / 10 ^ N = 0)) (ha : a < 10000000000000000000) :
    Calls Try.prog 18 #[.slice (some ⟨g, off, none⟩) n cap] w fun e w' => e = .returned (.tuple #[.bool neg, .int .u64 a, .bool (decide (0 < p)), .int .i64 p, .bool true]) ∧ w' = w := by
  have hn1 : s + m1 ≤ n := by rw [hn.out]; omega
  have hn2 : n ≤ 30 := by rw [hn.out]; split <;> omega
  have hx0 : neg = decide (X 0 = 45) := by
    cases hneg : neg with
    | true => rw [HS.out hneg]; rfl
    | false =>
      have h := HI.out 0 (by omega)
      rw [hs0.out hneg] at h
      exact (decide_eq_false (by rw [h]; omega)).symm
  have c0 := HC.out 0 (by omega)
  rw [Nat.add_zero] at c0
  obtain ⟨x0, hx⟩ : ∃ x0, x0 = X 0 := ⟨_, rfl⟩
  rw [← hx] at hx0 c0
  have HX0 := hide hx0
  clear hx hx0
  go_enter Try.func18, Try.ntmps18
  go_upto_if 22 with fail
  go_cut [2, 7] from 12 to 24 (fun b i wx => b = .bool neg ∧ i = .int .i64 s ∧ wx = w)
  case first =>
    by_cases h45 : x0 = 45
    · have hneg : neg = true := by rw [HX0.out, h45]; rfl
      have hs1' := hs1.out hneg
      subst hs1' h45
      clear hs1 hs0
      have HNG := hide hneg
      clear hneg
      go_wp2
      go_meet
      case rel => exact ⟨by rw [HNG.out], rfl, rfl⟩
    · have hneg : neg = false := by rw [HX0.out]; exact decide_eq_false h45
      have hs0' := hs0.out hneg
      subst hs0'
      clear hs1 hs0
      have HNG := hide hneg
      clear hneg
      go_wp2
      go_meet
      case rel => exact ⟨by rw [HNG.out], rfl, rfl⟩
  case rest =>
    obtain ⟨rfl, rfl, rfl⟩ := hcut
    clear c0 HX0 HS hs0 hs1
    obtain ⟨xs, hxs⟩ : ∃ xs, xs = X s := ⟨_, rfl⟩
    have cs := HC.out s (by omega)
    rw [← hxs] at cs
    have hlead : 1 < m1 → 48 < xs := by
      intro h
      have h1 := HI.out 0 (by omega)
      have h2 := HL.out h
      rw [Nat.add_zero, ← hxs] at h1
      rw [h1]; omega
    have HLD := hide hlead
    clear hxs hlead HL
    go_wp2_with fail
    go_loop [7] (fun i => ∃ j : Nat, j ≤ m1 ∧ i = .int .i64 ((s + j : Nat) : Int)) (fun i => s + m1 - (intOf i).toNat)
    case atStart => exact ⟨0, Nat.zero_le _, rfl⟩
    case round =>
      obtain ⟨j, hj, rfl⟩ := hrel
      by_cases hlt : j < m1
      · obtain ⟨x, hx⟩ : ∃ x, x = X (s + j) := ⟨_, rfl⟩
        have cb := HC.out (s + j) (by omega)
        have hd := HI.out j hlt
        rw [← hx] at cb hd
        have hD : isD x = true := isD_digit (by omega) (by omega)
        have hcon := hide (isDigitByte_any x wc)
        rw [hD] at hcon
        clear hx hd hD
        go_wp2_with fail
        refine hcon.out.mono ?_
        rintro e w' ⟨rfl, rfl⟩
        go_wp2
        go_round
        case rel => exact ⟨j + 1, by omega, by go_num⟩
        case measure => simp [intOf]; omega
      · have hj' : j = m1 := by omega
        subst hj'
        by_cases hp0 : p = 0
        · subst hp0
          have hnn : n ≤ s + j := by rw [hn.out]; simp
          clear hlt
          go_upto_region 11 with fail
          go_cut [52] from 26 to 52 (fun t wx => t = .bool false ∧ wx = wc)
          case first =>
            by_cases h1 : 1 < j
            · have hld := HLD.out h1
              have e48 : (xs == 48) = false := by simp; omega
              go_wp2
              go_meet
              case rel => exact ⟨rfl, rfl⟩
            · go_wp2
              go_meet
              case rel => exact ⟨rfl, rfl⟩
          case rest =>
            obtain ⟨rfl, rfl⟩ := hcut
            go_wp2_with fail
            go_loop [3, 11] (fun m k => ∃ i q : Nat, i ≤ j ∧ k = .int .i64 ((s + i : Nat) : Int) ∧ m = .int .u64 (q : Int) ∧ Hid (q = a / 10 ^ (j - i))) (fun _ k => s + j - (intOf k).toNat)
            case atStart => exact ⟨0, 0, Nat.zero_le _, rfl, rfl, by have := HZ.out; rw [hNp.out] at this; exact this.symm⟩
            case round =>
              obtain ⟨i, q, hi, rfl, rfl, hq⟩ := hrel
              by_cases hlt : i < j
              · obtain ⟨x, hx⟩ : ∃ x, x = X (s + i) := ⟨_, rfl⟩
                have cb := HC.out (s + i) (by omega)
                have hd := HI.out i hlt
                rw [← hx] at cb hd
                have hst := read_step a (j - (i + 1))
                have e1 : j - (i + 1) + 1 = j - i := by omega
                have e2 : N - 1 - i = j - (i + 1) := by rw [hNp.out]; omega
                rw [e1, ← hq.out] at hst
                rw [e2] at hd
                have hx1 : 48 ≤ x := by omega
                have hx2 : x ≤ 57 := by omega
                have hle : a / 10 ^ (j - (i + 1)) ≤ a := Nat.div_le_self _ _
                have hmb : (q : Int) * 10 + (x - 48) < 10000000000000000000 := by omega
                have hq2 : (q : Int) * 10 + (x - 48) = ((a / 10 ^ (j - (i + 1)) : Nat) : Int) := by omega
                have HQ := hide hq2
                clear hx hd hst e1 e2 hq2 hle
                go_wp2
                go_round
                case rel => exact ⟨i + 1, a / 10 ^ (j - (i + 1)), by omega, by go_num, by rw [← HQ.out], rfl⟩
                case measure => simp [intOf]; omega
              · have hij : i = j := by omega
                subst hij
                have hqa : q = a := by rw [hq.out]; simp
                subst hqa
                go_wp2
                exact bodyPost_ret (v := .tuple #[.bool neg, .int .u64 q, .bool (decide (0 < 0)), .int .i64 (0 : Nat), .bool true]) (by simp [results, Try.results18, go_sem]) rfl ⟨rfl, rfl⟩
        · have hp1 : 0 < p := by omega
          have hn3 : n ≤ s + j + 1 + p := by rw [hn.out, if_neg hp0]; omega
          have hn4 : s + j + 1 + p ≤ n := by rw [hn.out, if_neg hp0]; omega
          have cdot := HC.out (s + j) (by omega)
          rw [HP.out hp1] at cdot
          have hcon := hide (isDigitByte_any 46 wc)
          clear hlt hp0 HP
          go_wp2_with fail
          refine hcon.out.mono ?_
          rintro e w' ⟨rfl, rfl⟩
          have e46 : isD 46 = false := rfl
          rw [e46]
          clear e46 hcon
          go_upto_region 11 with fail
          go_cut [52] from 26 to 52 (fun t wx => t = .bool false ∧ wx = w')
          case first =>
            by_cases h1 : 1 < j
            · have hld := HLD.out h1
              have e48 : (xs == 48) = false := by simp; omega
              go_wp2
              go_meet
              case rel => exact ⟨rfl, rfl⟩
            · go_wp2
              go_meet
              case rel => exact ⟨rfl, rfl⟩
          case rest =>
            obtain ⟨rfl, rfl⟩ := hcut
            go_wp2_with fail
            go_loop [7] (fun i => ∃ r : Nat, r ≤ p ∧ i = .int .i64 ((s + j + 1 + r : Nat) : Int)) (fun i => s + j + 1 + p - (intOf i).toNat)
            case atStart => exact ⟨0, Nat.zero_le _, rfl⟩
            case round =>
              obtain ⟨r, hr, rfl⟩ := hrel
              by_cases hlt : r < p
              · obtain ⟨x, hx⟩ : ∃ x, x = X (s + j + 1 + r) := ⟨_, rfl⟩
                have cb := HC.out (s + j + 1 + r) (by omega)
                have hd := HF.out r hlt
                rw [← hx] at cb hd
                have hD : isD x = true := isD_digit (by omega) (by omega)
                have hcon := hide (isDigitByte_any x wc)
                rw [hD] at hcon
                clear hx hd hD
                go_wp2_with fail
                refine hcon.out.mono ?_
                rintro e w' ⟨rfl, rfl⟩
                go_wp2
                go_round
                case rel => exact ⟨r + 1, by omega, by go_num⟩
                case measure => simp [intOf]; omega
              · have hrp : r = p := by omega
                subst hrp
                clear hlt
                go_wp2_with fail
                go_loop [3, 11] (fun m k => ∃ kk q : Nat, k = .int .i64 (kk : Int) ∧ m = .int .u64 (q : Int) ∧ ((∃ i, i ≤ j ∧ kk = s + i ∧ Hid (q = a / 10 ^ (j + r - i))) ∨ (∃ t, t ≤ r ∧ kk = s + j + 1 + t ∧ Hid (q = a / 10 ^ (r - t))))) (fun _ k => n - (intOf k).toNat)
                case atStart => exact ⟨s, 0, rfl, rfl, .inl ⟨0, Nat.zero_le _, rfl, by have := HZ.out; rw [hNp.out] at this; exact this.symm⟩⟩
                case round =>
                  obtain ⟨kk, q, rfl, rfl, hrel⟩ := hrel
                  rcases hrel with ⟨i, hi, rfl, hq⟩ | ⟨t, ht, rfl, hq⟩
                  · by_cases hlt : i < j
                    · obtain ⟨x, hx⟩ : ∃ x, x = X (s + i) := ⟨_, rfl⟩
                      have cb := HC.out (s + i) (by omega)
                      have hd := HI.out i hlt
                      rw [← hx] at cb hd
                      have hst := read_step a (j + r - (i + 1))
                      have e1 : j + r - (i + 1) + 1 = j + r - i := by omega
                      have e2 : N - 1 - i = j + r - (i + 1) := by rw [hNp.out]; omega
                      rw [e1, ← hq.out] at hst
                      rw [e2] at hd
                      have hx1 : 48 ≤ x := by omega
                      have hx2 : x ≤ 57 := by omega
                      have hle : a / 10 ^ (j + r - (i + 1)) ≤ a := Nat.div_le_self _ _
                      have hmb : (q : Int) * 10 + (x - 48) < 10000000000000000000 := by omega
                      have hq2 : (q : Int) * 10 + (x - 48) = ((a / 10 ^ (j + r - (i + 1)) : Nat) : Int) := by omega
                      have HQ := hide hq2
                      clear hx hd hst e1 e2 hq2 hle cdot
                      go_wp2
                      go_round
                      case rel => exact ⟨s + (i + 1), a / 10 ^ (j + r - (i + 1)), by go_num, by rw [← HQ.out], .inl ⟨i + 1, by omega, rfl, rfl⟩⟩
                      case measure => simp [intOf]; omega
                    · have hij : i = j := by omega
                      subst hij
                      have HQ : Hid (q = a / 10 ^ (r - 0)) := by show _ = _; rw [hq.out]; congr 2; omega
                      go_wp2
                      go_round
                      case rel => exact ⟨s + i + 1 + 0, q, by go_num, rfl, .inr ⟨0, by omega, rfl, HQ⟩⟩
                      case measure => simp [intOf]; omega
                  · by_cases hlt : t < r
                    · obtain ⟨x, hx⟩ : ∃ x, x = X (s + j + 1 + t) := ⟨_, rfl⟩
                      have cb := HC.out (s + j + 1 + t) (by omega)
                      have hd := HF.out t hlt
                      rw [← hx] at cb hd
                      have hst := read_step a (r - (t + 1))
                      have e1 : r - (t + 1) + 1 = r - t := by omega
                      have e2 : r - 1 - t = r - (t + 1) := by omega
                      rw [e1, ← hq.out] at hst
                      rw [e2] at hd
                      have hx1 : 48 ≤ x := by omega
                      have hx2 : x ≤ 57 := by omega
                      have hle : a / 10 ^ (r - (t + 1)) ≤ a := Nat.div_le_self _ _
                      have hmb : (q : Int) * 10 + (x - 48) < 10000000000000000000 := by omega
                      have hq2 : (q : Int) * 10 + (x - 48) = ((a / 10 ^ (r - (t + 1)) : Nat) : Int) := by omega
                      have HQ := hide hq2
                      clear hx hd hst e1 e2 hq2 hle cdot
                      go_wp2
                      go_round
                      case rel => exact ⟨s + j + 1 + (t + 1), a / 10 ^ (r - (t + 1)), by go_num, by rw [← HQ.out], .inr ⟨t + 1, by omega, rfl, rfl⟩⟩
                      case measure => simp [intOf]; omega
                    · have htr : t = r := by omega
                      subst htr
                      have hqa : q = a := by rw [hq.out]; simp
                      subst hqa
                      have HR : Hid ((s : Int) + j + 1 + t - (s + j + 1) = t) := by show _ = _; omega
                      go_wp2
                      refine bodyPost_ret (v := .tuple #[.bool neg, .int .u64 q, .bool true, .int .i64 ((s : Int) + j + 1 + t - (s + j + 1)), .bool true]) (by simp [results, Try.results18, go_sem]) rfl ⟨?_, rfl⟩
                      rw [HR.out]

theorem parse_any (g off cap : Nat) (neg : Bool) (a p N : Nat) (w : World) (hl : isLast a p N) (hN : N ≤ 19) (ha : a < 10000000000000000000)
    (hcell : ∀ j, j < (fx neg a p N).length → w.cell? ⟨g, off + j, none⟩ = some (.int .u8 ((fx neg a p N).getD j 0))) :
    Calls Try.prog 18 #[.slice (some ⟨g, off, none⟩) (fx neg a p N).length cap] w fun e w' => e = .returned (.tuple #[.bool neg, .int .u64 a, .bool (decide (0 < p)), .int .i64 p, .bool true]) ∧ w' = w := by
  have hpN := hl.1
  exact parse_core g off cap (fx neg a p N).length (sg neg) (N - p) (fun j => (fx neg a p N).getD j 0) neg a p N w
    (fun h => by subst h; rfl) (fun h => by subst h; rfl) (by cases neg <;> decide) (by omega) (show N = N - p + p by omega) (by omega) (fx_len neg a p N hpN) hcell
    (fun j hj => fx_int neg a p N j hpN hj) (fun hp => fx_dot neg a p N hpN hp) (fun j hj => fx_frac neg a p N j hpN hj) (fun h => by subst h; exact fx_sign a p N) (fun h => lead a p N hl h) hl.2.1 ha

theorem magnitude_any (c : Int) (w : World) (h1 : -9223372036854775808 ≤ c) (h2 : c ≤ 9223372036854775807) :
    Calls Try.prog 19 #[.int .i64 c] w fun e w' => e = .returned (.int .u64 (c.natAbs : Int)) ∧ w' = w := by
  by_cases hc : c < 0
  · go_enter Try.func19, Try.ntmps19
    go_wp2
    go_ret
    exact ⟨ret_int (by omega), rfl⟩
  · go_enter Try.func19, Try.ntmps19
    go_wp2
    go_ret
    exact ⟨ret_int (by omega), rfl⟩

theorem bytes16_any (a : Option Addr) (n cap : Nat) (c p : Int) (w : World) (hn : n ≤ 9223372036854775807) :
    Calls Try.prog 16 #[.slice a n cap, .int .i64 c, .int .i32 p] w fun e w' => e = .returned (.bool (decide (n ≤ 1048576))) ∧ w' = w := by
  by_cases h : 1048576 < n
  · have H : Hid (decide (n ≤ 1048576) = false) := decide_eq_false (by omega)
    go_enter Try.func16, Try.ntmps16
    go_wp2
    go_ret
    exact ⟨ret_bool H.out.symm, rfl⟩
  · have H : Hid (decide (n ≤ 1048576) = true) := decide_eq_true (by omega)
    go_enter Try.func16, Try.ntmps16
    go_wp2
    go_ret
    exact ⟨ret_bool H.out.symm, rfl⟩

end Go.Proofs.Qxb6603215a
