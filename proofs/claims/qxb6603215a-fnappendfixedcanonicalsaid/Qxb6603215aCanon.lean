/-
  The walk of FnAppendFixedCanonical.
-/
import Derived.Test.Qxb6603215aScale
import Derived.Test.Qxb6603215aParse
namespace Go.Proofs.Qxb6603215a
open Go.RowKit

theorem slice_out (g n m cap : Nat) (hm : 0 < m) (hc : n + m ≤ cap) (W : World) :
    (Instr.slice 22 (.slice (some ⟨g, 0, none⟩) (n + m) cap) (some (.int .i64 (n : Int))) none none).run Try.prog W = .ok (.slice (some ⟨g, n, none⟩) m (cap - n)) W := by
  rw [run_slice_l W 22 (some ⟨g, 0, none⟩) (n + m) cap (by kernel_rfl) .i64 (n : Int) (by omega) (by omega)]
  have hne : ¬ (cap = n) := by omega
  have hl : n + m - n = m := by omega
  go_simp

theorem sliceAt_out (g n m cap : Nat) (hm : 0 < m) (hc : n + m ≤ cap) (W : World) :
    (Instr.sliceAt 22 (.slice (some ⟨g, 0, none⟩) (n + m) cap) (some (.int .i64 (n : Int))) none none).run Try.prog W = .ok (.slice (some ⟨g, n, none⟩) m (cap - n)) W := by
  rw [run_sliceAt_slice W 22 _ _ _ _ (by kernel_rfl)]
  exact slice_out g n m cap hm hc W

theorem canon_small (a : Option Addr) (n cap : Nat) (c p : Int) (w : World) (hn : n ≤ 9223372036854775807) (h : 1048576 < n ∨ p < 0 ∨ 18 < p) :
    Calls Try.prog 6 #[.slice a n cap, .int .i64 c, .int .i32 p] w fun e w' => e = .returned (.bool true) ∧ Below w.heap.size w w' := by
  have hbytes := hide (bytes16_any a n cap c p w hn)
  by_cases h0 : 1048576 < n
  · have e0 : decide (n ≤ 1048576) = false := decide_eq_false (by omega)
    rw [e0] at hbytes
    clear h e0
    go_enter Try.func6, Try.ntmps6
    go_wp2_with fail
    refine hbytes.out.mono ?_
    rintro e w' ⟨rfl, rfl⟩
    go_wp2
    go_ret
    exact ⟨rfl, Below.refl _ _⟩
  have e0 : decide (n ≤ 1048576) = true := decide_eq_true (by omega)
  rw [e0] at hbytes
  clear e0
  by_cases h1 : p < 0
  · clear h
    go_enter Try.func6, Try.ntmps6
    go_wp2_with fail
    refine hbytes.out.mono ?_
    rintro e w' ⟨rfl, rfl⟩
    go_wp2
    go_ret
    exact ⟨rfl, Below.refl _ _⟩
  · have h2 : 18 < p := by omega
    clear h
    go_enter Try.func6, Try.ntmps6
    go_wp2_with fail
    refine hbytes.out.mono ?_
    rintro e w' ⟨rfl, rfl⟩
    go_wp2
    go_ret
    exact ⟨rfl, Below.refl _ _⟩

set_option maxHeartbeats 1000000 in
theorem canon_main (a : Option Addr) (n cap : Nat) (l : List Int) (c : Int) (p : Nat) (w : World) (hsrc : Src w a n cap l) (hn : n ≤ 1048576) (hp : p ≤ 18) (h1 : c ≤ 9223372036854775807) (h2 : -9223372036854775808 ≤ c) :
    Calls Try.prog 6 #[.slice a n cap, .int .i64 c, .int .i32 p] w fun e w' => e = .returned (.bool true) ∧ Below w.heap.size w w' := by
  have hbytes := hide (bytes16_any a n cap c p w (by omega))
  have e0 : decide (n ≤ 1048576) = true := decide_eq_true hn
  rw [e0] at hbytes
  have hclone := hide (clone_any a n cap l w hsrc hn)
  have hln : l.length = n := hsrc.1
  clear e0 hsrc
  go_enter Try.func6, Try.ntmps6
  go_wp2_with fail
  refine hbytes.out.mono ?_
  rintro e w' ⟨rfl, rfl⟩
  go_wp2_with fail
  refine hclone.out.mono ?_
  rintro e w1 ⟨v1, rfl, hown1, hbel1⟩
  obtain ⟨_, a1, cap1, hv1, hbs1⟩ := owns_bs hown1
  have hsrc1 : Src w1 a1 n cap1 l := by
    refine ⟨hln, ?_⟩
    rcases hbs1 with h0 | ⟨g, off, rfl, hc⟩
    · rcases hown1.2 with ⟨hv, hz⟩ | ⟨g, cap', cur, hv, _⟩
      · rw [hv1] at hv; injection hv with ha hb hc
        exact .inl ⟨ha, by omega, hc⟩
      · rw [hv1] at hv; injection hv with ha hb hc
        exact .inr ⟨_, ha, fun j hj => by rw [h0] at hj; simp at hj⟩
    · exact .inr ⟨_, rfl, fun j hj => by rw [Addr.add_lit]; exact hc j hj⟩
  rw [hv1, hln]
  have hclone1 := hide (clone_any a1 n cap1 l w1 hsrc1 hn)
  have hlt1 : ∀ g off, a1 = some ⟨g, off, none⟩ → g < w1.heap.size := fun g off h => by
    have := hown1.lt g (by rw [hv1, h]; rfl)
    exact this.2
  have HL1 := hide hlt1
  have HS1 := hide hbs1
  have HB1 := hide hbel1
  clear hbs1 hbel1 hown1 hv1 hbytes hclone hsrc1 hlt1
  go_wp2_with fail
  refine hclone1.out.mono ?_
  rintro e w2 ⟨v2, rfl, hown2, hbel2⟩
  rw [hln] at hown2
  have HO2 := hide hown2
  have HB2 := hide hbel2
  clear hown2 hbel2 hclone1
  go_wp2_with fail
  refine (zzAppend_any w1.heap.size n (l.map (Value.int .u8)) v2 c p p w2 rfl (by omega) (by omega) (by omega) HO2.out hn HB2.out.size).mono ?_
  rintro e w3 ⟨v3, N, rfl, hlast, hN, hown3, hbel3⟩
  have hF0 : 0 < (fx (decide (c < 0)) c.natAbs p N).length := by
    have := hlast.1
    rw [fx_length]; split <;> split <;> omega
  have hF1 := fx_length_le (decide (c < 0)) c.natAbs p N hN
  rw [← List.map_append] at hown3
  obtain ⟨g, cap3, hv3, hg1, hg2, hcap3, hlen3, hcell3⟩ := owns_bytes hown3 (by omega)
  rw [hv3]
  have hbel13 : Below w1.heap.size w1 w3 := HB2.out.trans hbel3
  have hcellB : ∀ k, k < n → ∃ g1 off1, a1 = some ⟨g1, off1, none⟩ ∧ w3.cell? ⟨g1, off1 + k, none⟩ = some (.int .u8 (l.getD k 0)) := by
    intro k hk
    rcases HS1.out with h0 | ⟨g1, off1, ha1, hc⟩
    · rw [h0] at hln; simp at hln; omega
    · exact ⟨g1, off1, ha1, (hbel13.cell (p := ⟨g1, off1 + k, none⟩) (HL1.out g1 off1 ha1)).trans (hc k (by omega))⟩
  have hcellO : ∀ k, k < n → w3.cell? ⟨g, k, none⟩ = some (.int .u8 (l.getD k 0)) := by
    intro k hk
    rw [hcell3 k (by omega), getD_left (by omega)]
  have hcellF : ∀ j, j < (fx (decide (c < 0)) c.natAbs p N).length → w3.cell? ⟨g, n + j, none⟩ = some (.int .u8 ((fx (decide (c < 0)) c.natAbs p N).getD j 0)) := by
    intro j hj
    rw [hcell3 (n + j) (by omega), getD_right hln]
  have hparse : ∀ d, Calls Try.prog 18 #[.slice (some ⟨g, n, none⟩) (fx (decide (c < 0)) c.natAbs p N).length (cap3 - n)] (w3.drewN d) fun e w' => e = .returned (.tuple #[.bool (decide (c < 0)), .int .u64 c.natAbs, .bool (decide (0 < p)), .int .i64 p, .bool true]) ∧ w' = w3.drewN d :=
    fun d => parse_any g n (cap3 - n) (decide (c < 0)) c.natAbs p N (w3.drewN d) hlast hN (by omega) hcellF
  have hB : Below w'.heap.size w' w3 := HB1.out.trans (hbel13.mono HB1.out.size)
  obtain ⟨M, hM⟩ : ∃ M, M = (fx (decide (c < 0)) c.natAbs p N).length := ⟨_, rfl⟩
  rw [← hM] at hF0 hF1 hparse hcap3 ⊢
  have HCB := hide hcellB
  have HCO := hide hcellO
  have HPA := hide hparse
  have HBB := hide hB
  have hsl1 := slice_out g n M cap3 hF0 hcap3
  have hsl2 := sliceAt_out g n M cap3 hF0 hcap3
  clear hcellB hcellO hcellF hparse hB hcell3 hlen3 hv3 hown3 hbel3 hbel13 hlast hM HL1 HS1 HO2 HB1 HB2
  go_wp2_with fail
  go_loopw [8] (fun i wr => ∃ k d : Nat, k ≤ n ∧ i = .int .i64 k ∧ wr = w3.drewN d) (fun i _ => n - (intOf i).toNat)
  case atStart => exact ⟨0, 0, Nat.zero_le _, rfl, rfl⟩
  case round =>
    obtain ⟨k, d, hk, rfl, rfl⟩ := hrel
    by_cases hlt : k < n
    · obtain ⟨x, hx⟩ : ∃ x, x = l.getD k 0 := ⟨_, rfl⟩
      obtain ⟨g1, off1, ha1, cb⟩ := HCB.out k hlt
      have ca := HCO.out k hlt
      rw [← hx] at ca cb
      subst ha1
      clear hx
      go_wp2
      go_quiet (fail)
      go_wp2
      go_roundw
      case rel => exact ⟨k + 1, _, by omega, by go_num, rfl⟩
      case measure => simp [intOf]; omega
    · have hkn : k = n := by omega
      subst hkn
      clear hlt
      have hmag := hide (magnitude_any c (w3.drewN d) (by omega) (by omega))
      have hpar := hide (HPA.out d)
      go_wp2_with fail
      refine hpar.out.mono ?_
      rintro e w4 ⟨rfl, rfl⟩
      clear hpar HPA HCB HCO hsl1 hsl2
      by_cases hc : c < 0
      · rw [decide_eq_true hc]
        by_cases hp0 : 0 < p
        · rw [decide_eq_true hp0]
          go_wp2_with fail
          refine hmag.out.mono ?_
          rintro e w5 ⟨rfl, rfl⟩
          go_wp2
          go_ret
          exact ⟨rfl, below_drewN HBB.out _⟩
        · rw [decide_eq_false hp0]
          go_wp2_with fail
          refine hmag.out.mono ?_
          rintro e w5 ⟨rfl, rfl⟩
          go_wp2
          go_ret
          exact ⟨rfl, below_drewN HBB.out _⟩
      · rw [decide_eq_false hc]
        by_cases hp0 : 0 < p
        · rw [decide_eq_true hp0]
          go_wp2_with fail
          refine hmag.out.mono ?_
          rintro e w5 ⟨rfl, rfl⟩
          go_wp2
          go_ret
          exact ⟨rfl, below_drewN HBB.out _⟩
        · rw [decide_eq_false hp0]
          go_wp2_with fail
          refine hmag.out.mono ?_
          rintro e w5 ⟨rfl, rfl⟩
          go_wp2
          go_ret
          exact ⟨rfl, below_drewN HBB.out _⟩

end Go.Proofs.Qxb6603215a
