/-
  The walks of sameBytes and bytesAreString.
-/
import Derived.Test.Qxb6603228aEq
import Derived.Deep.QuietTactic
import Derived.BigQuiet
namespace Go.Proofs.Qxb6603228a
open Go.RowKit

theorem ne_at {l k : List Int} {j : Nat} (h : l.getD j 0 ≠ k.getD j 0) : l ≠ k := fun e => h (by rw [e])

theorem eq_all {l k : List Int} (hl : l.length = k.length) (h : ∀ j, j < l.length → l.getD j 0 = k.getD j 0) : l = k := by
  apply List.ext_getElem hl
  intro j h1 h2
  have := h j h1
  simpa [List.getD_eq_getElem?_getD, h1, h2] using this

theorem cells_of {w : World} {S : Nat → Prop} {a : Option Addr} {n cap : Nat} {l : List Int} (h : Bs w S (.slice a n cap) l) : l.length = n ∧ n ≤ 9223372036854775807 ∧ ∀ k, k < l.length → ∃ g off, a = some ⟨g, off, none⟩ ∧ S g ∧ w.cell? ⟨g, off + k, none⟩ = some (.int .u8 (l.getD k 0)) := by
  obtain ⟨⟨hl, a', c', he, hrow⟩, _⟩ := h
  injection he with h1 h2 h3
  subst h1
  rw [List.length_map] at h2 hl hrow
  refine ⟨h2.symm, by omega, fun k hk => ?_⟩
  rcases hrow with h | ⟨g, off, rfl, hg, hc⟩
  · simp at h; rw [h] at hk; simp at hk
  · exact ⟨g, off, rfl, hg, by rw [hc k hk, map_getD _ _ 0 _ hk]⟩

set_option maxHeartbeats 1000000 in
theorem sameBytes_any (a b : Option Addr) (n m ca cb : Nat) (l k : List Int) (S T : Nat → Prop) (w : World) (hu : Bs w S (.slice a n ca) l) (hv : Bs w T (.slice b m cb) k) :
    Calls Try.prog 40 #[.slice a n ca, .slice b m cb] w fun e w' => e = .returned (.bool (decide (l = k))) ∧ ∃ d, w' = w.drewN d := by
  obtain ⟨e1, hn, hl⟩ := cells_of hu
  obtain ⟨e2, hm, hk⟩ := cells_of hv
  have HL := hide hl
  have HK := hide hk
  clear hl hk hu hv
  by_cases hnm : n = m
  case neg =>
    have q : ((n : Int) != (m : Int)) = true := by simp; omega
    have HF : Hid (decide (l = k) = false) := decide_eq_false (fun e => hnm (by rw [← e1, ← e2, e]))
    clear e1 e2
    go_enter Try.func40, Try.ntmps40
    go_wp2
    go_ret
    exact ⟨ret_bool HF.out.symm, 0, rfl⟩
  subst hnm
  have E1 := hide e1
  have E2 := hide e2
  clear e1 e2
  go_enter Try.func40, Try.ntmps40
  go_wp2
  go_loopw [5, 13] (fun _ i wr => ∃ j d : Nat, i = .int .i64 j ∧ j ≤ n ∧ Hid (∀ p, p < j → l.getD p 0 = k.getD p 0) ∧ wr = w.drewN d) (fun _ i _ => n - (intOf i).toNat)
  case atStart => exact ⟨0, 0, rfl, Nat.zero_le _, fun p hp => by omega, rfl⟩
  case round =>
    obtain ⟨j, d, rfl, hj, hsame, rfl⟩ := hrel
    by_cases hlt : j < n
    · obtain ⟨g, off, rfl, _, c1⟩ := HL.out j (by rw [E1.out]; exact hlt)
      obtain ⟨g2, off2, rfl, _, c2⟩ := HK.out j (by rw [E2.out]; exact hlt)
      obtain ⟨x, hx⟩ : ∃ x, x = l.getD j 0 := ⟨_, rfl⟩
      obtain ⟨y, hy⟩ : ∃ y, y = k.getD j 0 := ⟨_, rfl⟩
      rw [← hx] at c1
      rw [← hy] at c2
      by_cases hxy : x = y
      · have HS : Hid (l.getD j 0 = k.getD j 0) := by rw [← hx, ← hy]; exact hxy
        subst hxy
        clear hx hy
        go_wp2
        go_quiet (fail)
        go_wp2
        go_roundw
        case rel =>
          refine ⟨j + 1, _, by go_num, by omega, fun p hp => ?_, rfl⟩
          by_cases hpj : p = j
          · subst hpj; exact HS.out
          · exact hsame.out p (by omega)
        case measure => simp [intOf]; omega
      · have HF : Hid (decide (l = k) = false) := decide_eq_false (ne_at (j := j) (by rw [← hx, ← hy]; exact hxy))
        have q : (x != y) = true := by simp [hxy]
        clear hx hy hxy
        go_wp2
        go_quiet (fail)
        go_wp2
        go_ret
        exact ⟨ret_bool HF.out.symm, _, World.drewN_drewN ..⟩
    · have hjn : j = n := by omega
      subst hjn
      have HT : Hid (decide (l = k) = true) := decide_eq_true (eq_all (by rw [E1.out, E2.out]) (fun p hp => hsame.out p (by rw [← E1.out]; exact hp)))
      go_wp2
      go_ret
      exact ⟨ret_bool HT.out.symm, _, rfl⟩

theorem keyL_length (s : ByteArray) : (keyL s).length = s.size := by simp [keyL]
theorem keyL_get (s : ByteArray) (j : Nat) (h : j < s.size) : (keyL s).getD j 0 = (s[j].toNat : Int) := by
  unfold keyL
  rw [List.getD_eq_getElem?_getD, List.getElem?_map, List.getElem?_eq_getElem (by simpa using h)]
  rfl

set_option maxHeartbeats 1000000 in
theorem bytesAreString_any (a : Option Addr) (n ca : Nat) (l : List Int) (key : ByteArray) (S : Nat → Prop) (w : World) (hu : Bs w S (.slice a n ca) l) (hk : key.size ≤ 9223372036854775807) :
    Calls Try.prog 39 #[.slice a n ca, .string key] w fun e w' => e = .returned (.bool (decide (l = keyL key))) ∧ ∃ d, w' = w.drewN d := by
  obtain ⟨e1, hn, hl⟩ := cells_of hu
  have HL := hide hl
  clear hl hu
  by_cases hnm : n = key.size
  case neg =>
    have q : ((n : Int) != (key.size : Int)) = true := by simp; omega
    have HF : Hid (decide (l = keyL key) = false) := decide_eq_false (fun e => hnm (by rw [← e1, ← keyL_length, e]))
    clear e1
    go_enter Try.func39, Try.ntmps39
    go_wp2
    go_ret
    exact ⟨ret_bool HF.out.symm, 0, rfl⟩
  have q : ((n : Int) != (key.size : Int)) = false := by simp; omega
  have E1 := hide e1
  have HNM := hide hnm
  clear e1 hnm
  go_enter Try.func39, Try.ntmps39
  go_wp2
  go_loopw [5] (fun i wr => ∃ j d : Nat, i = .int .i64 j ∧ j ≤ n ∧ Hid (∀ p, p < j → l.getD p 0 = (keyL key).getD p 0) ∧ wr = w.drewN d) (fun i _ => n - (intOf i).toNat)
  case atStart => exact ⟨0, 0, rfl, Nat.zero_le _, fun p hp => by omega, rfl⟩
  case round =>
    obtain ⟨j, d, rfl, hj, hsame, rfl⟩ := hrel
    by_cases hlt : j < n
    · obtain ⟨g, off, rfl, _, c1⟩ := HL.out j (by rw [E1.out]; exact hlt)
      have hjk : j < key.size := by rw [← HNM.out]; exact hlt
      have hg := keyL_get key j hjk
      obtain ⟨x, hx⟩ : ∃ x, x = l.getD j 0 := ⟨_, rfl⟩
      rw [← hx] at c1
      by_cases hxy : x = (key[j].toNat : Int)
      · have HS : Hid (l.getD j 0 = (keyL key).getD j 0) := by rw [← hx, hg]; exact hxy
        have q2 : (x != (key[j].toNat : Int)) = false := by rw [hxy]; simp
        clear hx hg hxy
        go_wp2
        go_quiet (fail)
        go_wp2
        go_roundw
        case rel =>
          refine ⟨j + 1, _, by go_num, by omega, fun p hp => ?_, rfl⟩
          by_cases hpj : p = j
          · subst hpj; exact HS.out
          · exact hsame.out p (by omega)
        case measure => simp [intOf]; omega
      · have HF : Hid (decide (l = keyL key) = false) := decide_eq_false (ne_at (j := j) (by rw [← hx, hg]; exact hxy))
        have q2 : (x != (key[j].toNat : Int)) = true := by simp [hxy]
        clear hx hg hxy
        go_wp2
        go_quiet (fail)
        go_wp2
        go_ret
        exact ⟨ret_bool HF.out.symm, _, World.drewN_drewN ..⟩
    · have hjn : j = n := by omega
      subst hjn
      have HT : Hid (decide (l = keyL key) = true) := decide_eq_true (eq_all (by rw [E1.out, keyL_length, HNM.out]) (fun p hp => hsame.out p (by rw [← E1.out]; exact hp)))
      go_wp2
      go_ret
      exact ⟨ret_bool HT.out.symm, _, rfl⟩

end Go.Proofs.Qxb6603228a
