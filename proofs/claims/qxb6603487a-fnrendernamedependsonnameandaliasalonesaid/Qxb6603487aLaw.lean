/-
  The walk of the law.
-/
import Derived.Test.Qxb6603487aWalk
namespace Go.Proofs.Qxb6603487a
open Go.RowKit

set_option maxRecDepth 20000 in
set_option maxHeartbeats 1000000 in
theorem law3_any (s0 s1 s2 s3 s6 : ByteArray) (a : Option Addr) (n cap : Nat) (b : Bool) (ts : List ByteArray) (w : World) (h0 : s0.size ≤ 9223372036854775807) (h1 : s1.size ≤ 9223372036854775807) (h2 : s2.size ≤ 9223372036854775807) (h3 : s3.size ≤ 9223372036854775807) (h6 : s6.size ≤ 9223372036854775807) (hs : Ss w a n ts) :
    Calls Try.prog 3 #[.string s0, .string s1, .string s2, .string s3, .slice a n cap, .bool b, .string s6] w fun e w' => e = .returned (.bool true) ∧ Below w.heap.size w w' := by
  have q22 : ∀ (w : World) (a : Option Addr) (n c n' c' : Nat), (binOp .neq 22 (.slice a n c) (.slice none n' c')).run Try.prog w = .ok (.bool (!a.isNone)) w := fun w a n c n' c' => run_neq_slice_nil_any w _ _ a n c n' c' Try.underlying22
  obtain ⟨i0, hi0, hy0, hy1, hy2⟩ := info_parts Try.info9
  have hb4 := hide (bytes4_any s0 s1 s2 s3 s6 a n cap b ts w h0 h1 h2 h3 h6 hs)
  obtain ⟨_, hn, hs⟩ := hs
  have HS := hide hs
  clear hs
  go_enter Try.func3, Try.ntmps3
  go_wp2_with fail
  refine hb4.out.mono ?_
  rintro e w' ⟨⟨bb, rfl, hsm⟩, hw⟩
  subst hw
  have HSM := hide hsm
  clear hsm
  clear hb4
  cases bb with
  | false =>
    go_wp2
    go_ret
    exact ⟨rfl, Below.refl _ _⟩
  | true =>
  have HS2 := hide (HSM.out rfl)
  clear HSM
  by_cases b0 : 1048576 < s0.size
  · go_wp2
    go_ret
    exact ⟨rfl, Below.refl _ _⟩
  by_cases b1 : 1048576 < s1.size
  · go_wp2
    go_ret
    exact ⟨rfl, Below.refl _ _⟩
  by_cases b2 : 1048576 < s2.size
  · go_wp2
    go_ret
    exact ⟨rfl, Below.refl _ _⟩
  by_cases b3 : 1048576 < s3.size
  · go_wp2
    go_ret
    exact ⟨rfl, Below.refl _ _⟩
  by_cases b4 : 1048576 < s6.size
  · go_wp2
    go_ret
    exact ⟨rfl, Below.refl _ _⟩
  by_cases b5 : 65536 < n
  · go_wp2
    go_ret
    exact ⟨rfl, Below.refl _ _⟩
  go_wp2_with fail
  go_loop [15, 16] (fun z i => ∃ zz k : Nat, z = .int .i64 zz ∧ zz ≤ 8388608 ∧ i = .int .i64 k ∧ k ≤ n) (fun _ i => n - (intOf i).toNat)
  case atStart => exact ⟨s0.size + s1.size + s2.size + s3.size + s6.size + 16 * n, 0, by go_num, by omega, rfl, Nat.zero_le _⟩
  case round =>
    obtain ⟨zz, k, rfl, hzz, rfl, hk⟩ := hrel
    by_cases hlt : k < n
    · obtain ⟨g, off, rfl, hg, hcell, hsz⟩ := HS.out k hlt
      obtain ⟨t, ht⟩ : ∃ t, t = ts.getD k ByteArray.empty := ⟨_, rfl⟩
      have hts := HS2.out k hlt
      rw [← ht] at hcell hsz hts
      clear ht
      by_cases d1 : 1048576 < zz + t.size
      · go_wp2
        go_ret
        exact ⟨rfl, Below.refl _ _⟩
      go_wp2
      go_round
      case rel => exact ⟨zz + t.size, k + 1, by go_num, by omega, by go_num, by omega⟩
      case measure => simp [intOf]; omega
    · have hkn : k = n := by omega
      subst hkn
      by_cases d0 : 1048576 < zz
      · go_wp2
        go_ret
        exact ⟨rfl, Below.refl _ _⟩
      go_upto_if 94 with fail
      go_cut [4] from 95 to 111 (fun t wx => (∃ a' c', t = .slice a' k c') ∧ Below w'.heap.size w' wx)
      case first =>
        cases a with
        | none =>
          go_wp2
          go_meet
          case rel => exact ⟨⟨none, cap, rfl⟩, Below.refl _ _⟩
        | some x =>
          go_wp2_with (at_make; refine wpList_make_full _ rfl _ _ 22 rfl w'.heap.size 9 i0 (.string ByteArray.empty) 1 Try.underlying22 hi0 hy0 hy1 .i64 .i64 _ _ k rfl rfl rfl rfl (by rw [hy2]; omega) (by unfold maxLen; omega) (Nat.le_refl _) ?_)
          intro w1 hown hgrow
          have HF : Hid (Free w1 w'.heap.size k) := fun j hj => ⟨⟨_, by rw [hown.cellAt j (by omega), toList_madeCells_one]; exact List.getElem?_replicate_of_lt (by omega)⟩, hown.frozenAt j⟩
          have hbel : Below w'.heap.size w' w1 := (Below.refl _ _).grown hgrow (Nat.le_refl _) (by intro k hk; cases hk)
          have HB := hide hbel
          clear hown hgrow hbel
          go_wp2_with fail
          go_loopw [18] (fun i wr => ∃ j : Nat, i = .int .i64 j ∧ j ≤ k ∧ Hid (Free wr w'.heap.size k) ∧ Below w'.heap.size w' wr) (fun i _ => k - (intOf i).toNat)
          case atStart => exact ⟨0, rfl, Nat.zero_le _, HF.out, HB.out⟩
          case round =>
            obtain ⟨j, rfl, hj, hfr, hnx⟩ := hrel
            clear HF HB
            by_cases hlt2 : j < k
            · obtain ⟨g, off, hx, hg, hcell, hsz⟩ := HS.out j hlt2
              injection hx with hx
              subst hx
              have cb : wr.cell? ⟨g, off + j, none⟩ = some (.string (ts.getD j ByteArray.empty)) := (hnx.cell (p := ⟨g, off + j, none⟩) hg).trans hcell
              obtain ⟨t, ht⟩ : ∃ t, t = ts.getD j ByteArray.empty := ⟨_, rfl⟩
              rw [← ht] at cb
              obtain ⟨⟨z, hz⟩, hfz⟩ := hfr.out j hlt2
              clear ht hcell hsz
              go_wp2
              go_roundw
              case rel => exact ⟨j + 1, by go_num, by omega, hfr.out.set, hnx.setCell (Nat.le_refl _) _⟩
              case measure => simp [intOf]; omega
            · have hjk : j = k := by omega
              subst hjk
              go_wp2
              go_meet
              case rel => exact ⟨⟨some ⟨w'.heap.size, 0, none⟩, j, rfl⟩, hnx⟩
      case rest =>
        obtain ⟨⟨a', c', rfl⟩, hB⟩ := hcut
        have HB := hide hB
        have hsz := hB.size
        clear hB HS
        cases ha : s6.toList.isEmpty with
        | true =>
          go_wp2
          go_ret
          exact ⟨rfl, ((HB.out.alloc hsz _).alloc (by simp; omega) _).alloc (by simp; omega) _⟩
        | false =>
          go_wp2
          go_ret
          exact ⟨rfl, ((HB.out.alloc hsz _).alloc (by simp; omega) _).alloc (by simp; omega) _⟩

end Go.Proofs.Qxb6603487a
