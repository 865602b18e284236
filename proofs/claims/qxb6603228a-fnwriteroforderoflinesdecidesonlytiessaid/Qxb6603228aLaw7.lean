/-
  The walk of law 7.
-/
import Derived.Test.Qxb6603228aIn
import Derived.Test.Qxb6603228aBytes29
import Derived.Deep.DeepCutAuto
namespace Go.Proofs.Qxb6603228a
open Go.RowKit

set_option maxRecDepth 20000 in
set_option maxHeartbeats 1000000 in
theorem law7_any (v0 v1 v2 v3 v7 : Value) (key : ByteArray) (c1 : Int) (st : List Int) (ws : List (List (List Int × List Int))) (tk : List Bool) (ls vl : List Int) (w : World)
    (hin : In w (fun g => g < w.heap.size) v0 v1 v2 v3 v7 st ws tk ls vl) (hkey : key.size ≤ 9223372036854775807) :
    Calls Try.prog 7 #[v0, v1, v2, v3, .string key, .int .u64 c1, v7] w fun e w' => e = .returned (.bool true) ∧ Below w.heap.size w w' := by
  have hin' := hin
  obtain ⟨⟨l0, a0, cap0, e0, _⟩, ⟨l1, a1, cap1, e1, _⟩, ⟨l2, a2, cap2, e2, _⟩, ⟨l3, a3, cap3, e3, _⟩, ⟨⟨l7, a7, cap7, e7, _⟩, _⟩⟩ := hin'
  rw [List.length_map] at l0 l2 l3 l7 e0 e2 e3 e7
  subst e0 e1 e2 e3 e7
  have hbytes := hide (bytes29_any a0 a2 a3 a7 st.length cap0 tk.length cap2 ls.length cap3 vl.length cap7 _ key c1 ws _ w l0 l2 l3 hkey l7 hin.2.1)
  have hsmall := hide (wrSmall_any a0 a2 a3 a7 st.length cap0 tk.length cap2 ls.length cap3 vl.length cap7 _ key ws w l0 l2 l3 hkey l7 hin.2.1)
  have HIN := hide hin
  clear hin
  go_enter Try.func7, Try.ntmps7
  go_wp2_with fail
  refine hbytes.out.mono ?_
  rintro e w' ⟨⟨b, rfl⟩, hw⟩
  subst hw
  clear hbytes
  cases b with
  | false =>
    go_wp2
    go_ret
    exact ⟨rfl, Below.refl _ _⟩
  | true =>
  go_wp2_with fail
  refine hsmall.out.mono ?_
  rintro e w1 ⟨⟨b, rfl, hsm⟩, bel1⟩
  have HSM := hide hsm
  clear hsm hsmall
  cases b with
  | false =>
    clear HSM
    go_wp2
    go_ret
    exact ⟨rfl, bel1⟩
  | true =>
  obtain ⟨s0, s2, s3, s7, sws⟩ := HSM.out rfl
  have HSW := hide sws
  clear sws HSM
  have HIN1 := hide (HIN.out.on bel1)
  have hdom := hide (wrDomain_any a0 a1 a2 st.length cap0 ws.length cap1 tk.length cap2 _ ls _ w1 l0 l1 l2 HIN1.out.2.2.2.1)
  go_wp2_with fail
  refine hdom.out.mono ?_
  rintro e w1' ⟨⟨b, rfl, hd⟩, hw⟩
  subst hw
  have HD := hide hd
  clear hd hdom
  cases b with
  | false =>
    clear HD
    go_wp2
    go_ret
    exact ⟨rfl, bel1⟩
  | true =>
  obtain ⟨d1, d2, d3⟩ := HD.out rfl
  have HD1 := hide d1
  have HD2 := hide d2
  have HD3 := hide d3
  clear d1 d2 d3 HD
  go_wp2_with fail
  refine (copyU64_any _ st w1' HIN1.out.1 s0).mono ?_
  rintro e w2 ⟨u0, rfl, r0, bel2⟩
  have R0 := hide r0
  have HIN2 := hide (HIN1.out.on bel2)
  clear r0
  go_wp2_with fail
  refine (copyWrites_any _ ws w2 HIN2.out.2.1 HSW.out).mono ?_
  rintro e w3 ⟨u1, rfl, r1, bel3⟩
  have R1 := hide r1
  have HIN3 := hide (HIN2.out.on bel3)
  clear r1
  go_wp2_with fail
  refine (copyBools_any _ tk w3 HIN3.out.2.2.1 s2).mono ?_
  rintro e w4 ⟨u2, rfl, r2, bel4⟩
  have R2 := hide r2
  have HIN4 := hide (HIN3.out.on bel4)
  clear r2
  go_wp2_with fail
  refine (copyInts_any _ ls w4 HIN4.out.2.2.2.1 s3).mono ?_
  rintro e w5 ⟨u3, rfl, r3, bel5⟩
  have R3 := hide r3
  have HIN5 := hide (HIN4.out.on bel5)
  clear r3
  go_wp2_with fail
  refine (copyBytes_any _ vl w5 HIN5.out.2.2.2.2.1 s7).mono ?_
  rintro e w6 ⟨u7, rfl, r7, bel6⟩
  have z1 := bel1.size
  have z2 := bel2.size
  have z3 := bel3.size
  have z4 := bel4.size
  have z5 := bel5.size
  have z6 := bel6.size
  have b56 : Below w5.heap.size w5 w6 := bel6
  have b46 : Below w4.heap.size w4 w6 := bel5.trans (b56.mono z5)
  have b36 : Below w3.heap.size w3 w6 := bel4.trans (b46.mono z4)
  have b26 : Below w2.heap.size w2 w6 := bel3.trans (b36.mono z3)
  have b16 : Below w1'.heap.size w1' w6 := bel2.trans (b26.mono z2)
  have b06 : Below w'.heap.size w' w6 := bel1.trans (b16.mono z1)
  have hin6 : In w6 (fun g => g < w6.heap.size) u0 u1 u2 u3 u7 st ws tk ls vl := ⟨R0.out.on b26, R1.out.on b36, R2.out.on b46, R3.out.on b56, r7.on (Below.refl _ _), HIN.out.2.2.2.2.2⟩
  have HIN6 := hide hin6
  have HB6 := hide b06
  clear hin6 b06 b16 b26 b36 b46 b56 r7 R0 R1 R2 R3 HIN HIN1 HIN2 HIN3 HIN4 HIN5 bel1 bel2 bel3 bel4 bel5 bel6
  obtain ⟨i0, hi0, hy0, hy1, hy2⟩ := info_parts Try.info3
  have R3 := HIN6.out.2.2.2.1
  obtain ⟨_, x3, y3, hu3, hrow3⟩ := R3
  rw [List.length_map] at hu3 hrow3
  have HR3 : Hid (∀ k, k < ls.length → ∃ g off, x3 = some ⟨g, off, none⟩ ∧ g < w6.heap.size ∧ w6.cell? ⟨g, off + k, none⟩ = some (.int .i64 (ls.getD k 0))) := by
    intro k hk
    rcases hrow3 with h | ⟨g, off, h, hg, hc⟩
    · simp at h; rw [h] at hk; simp at hk
    · exact ⟨g, off, h, hg, by rw [hc k hk, map_getD _ _ 0 _ hk]⟩
  subst hu3
  clear hrow3
  go_wp2_with (at_make; refine wpList_make_full _ rfl _ _ 29 rfl w6.heap.size 3 i0 (.int .i64 0) 1 Try.underlying29 hi0 hy0 hy1 .i64 .i64 _ _ ls.length rfl rfl rfl rfl (by rw [hy2]; omega) (by unfold maxLen; omega) (Nat.le_refl _) ?_)
  intro wm hown hgrow
  have HF : Hid (Free wm w6.heap.size ls.length) := fun j hj => ⟨⟨_, by rw [hown.cellAt j (by omega), toList_madeCells_one]; exact List.getElem?_replicate_of_lt (by omega)⟩, hown.frozenAt j⟩
  have hbm : Below w6.heap.size w6 wm := (Below.refl _ _).grown hgrow (Nat.le_refl _) (by intro k hk; cases hk)
  have HBM := hide hbm
  have hszm : w6.heap.size < wm.heap.size := (hown.lt w6.heap.size rfl).2
  clear hown hgrow hbm
  go_wp2_with fail
  go_loopw [16, 57] (fun _ i wr => ∃ k : Nat, i = .int .i64 k ∧ k ≤ ls.length ∧ Hid (Free wr w6.heap.size ls.length) ∧ Hid (∀ j, j < k → wr.cell? ⟨w6.heap.size, ls.length - 1 - j, none⟩ = some (.int .i64 (ls.getD j 0))) ∧ Below w6.heap.size w6 wr ∧ w6.heap.size < wr.heap.size) (fun _ i _ => ls.length - (intOf i).toNat)
  case atStart => exact ⟨0, rfl, Nat.zero_le _, HF.out, fun j hj => by omega, HBM.out, hszm⟩
  case round =>
    obtain ⟨k, rfl, hk, hfr, hdone, hnx, hszr⟩ := hrel
    clear HF HBM hszm
    by_cases hlt : k < ls.length
    · obtain ⟨g, off, rfl, hg, hcell⟩ := HR3.out k hlt
      obtain ⟨y, hy⟩ : ∃ y, y = ls.getD k 0 := ⟨_, rfl⟩
      have cb : wr.cell? ⟨g, off + k, none⟩ = some (.int .i64 y) := by rw [hy]; exact (hnx.cell (p := ⟨g, off + k, none⟩) hg).trans hcell
      obtain ⟨⟨z, hz⟩, hfz⟩ := hfr.out (ls.length - 1 - k) (by omega)
      have HY := hide hy
      clear hy hcell
      go_wp2
      go_roundw
      case rel =>
        refine ⟨k + 1, by go_num, by omega, hfr.out.set, fun j hj => ?_, hnx.setCell (Nat.le_refl _) _, by simpa [World.setCell] using hszr⟩
        by_cases hjk : j = k
        · subst hjk; rw [← HY.out]; exact set_same hz
        · rw [set_other (by omega)]; exact hdone.out j (by omega)
      case measure => simp [intOf]; omega
    · have hkl : k = ls.length := by omega
      subst hkl
      have hin := HIN6.out.on hnx
      have HIN := hide hin
      have hrev : Row wr (fun g => g < wr.heap.size) (.slice (some ⟨w6.heap.size, 0, none⟩) ls.length ls.length) (ls.reverse.map (Value.int .i64)) := by
        refine ⟨by simp; omega, some ⟨w6.heap.size, 0, none⟩, ls.length, by simp, .inr ⟨w6.heap.size, 0, rfl, hszr, fun j hj => ?_⟩⟩
        rw [List.length_map, List.length_reverse] at hj
        rw [map_getD _ _ 0 _ (by rw [List.length_reverse]; exact hj)]
        have := hdone.out (ls.length - 1 - j) (by omega)
        have e : ls.length - 1 - (ls.length - 1 - j) = j := by omega
        rw [e] at this
        rw [Nat.zero_add, this]
        simp only [List.getD_eq_getElem?_getD, List.getElem?_reverse hj]
      have HREV := hide hrev
      have hBr : Below w'.heap.size w' wr := HB6.out.trans (hnx.mono HB6.out.size)
      have HBR := hide hBr
      clear hin hrev hdone hfr HIN6 HR3 HB6 hBr
      go_wp2_with fail
      refine (zzWriterOf_any u0 u1 u2 (.slice x3 ls.length y3) u7 st ws tk ls vl key c1 wr HIN.out.1 HIN.out.2.1 HIN.out.2.2.1 HIN.out.2.2.2.1 HIN.out.2.2.2.2 s0 HD1.out HD2.out HSW.out HD3.out).mono ?_
      rintro e w7 ⟨rfl, b7⟩
      have HIN7 := hide (HIN.out.on b7)
      have hrev7 : Row w7 (fun g => g < w7.heap.size) (.slice (some ⟨w6.heap.size, 0, none⟩) ls.length ls.length) (ls.reverse.map (Value.int .i64)) := (HREV.out.keep (keeps_below b7)).sub (fun g hg => by have := b7.size; omega)
      go_wp2_with fail
      refine (zzWriterOf_any u0 u1 u2 _ u7 st ws tk ls.reverse vl key c1 w7 HIN7.out.1 HIN7.out.2.1 HIN7.out.2.2.1 hrev7 HIN7.out.2.2.2.2 s0 HD1.out HD2.out HSW.out (fun x hx => HD3.out x (List.mem_reverse.1 hx))).mono ?_
      rintro e w8 ⟨rfl, b8⟩
      have HIN8 := hide (HIN7.out.on b8)
      have hB : Below w'.heap.size w' w8 := HBR.out.trans ((b7.trans (b8.mono b7.size)).mono HBR.out.size)
      have HB := hide hB
      have g1 := writer_range st ws tk key c1 vl st.length ls HD3.out
      have g2 := writer_range st ws tk key c1 vl st.length ls.reverse (fun x hx => HD3.out x (List.mem_reverse.1 hx))
      have g3 := order st ws tk key c1 vl ls ls.reverse (fun x hx => (HD3.out x hx).1) (fun x => List.mem_reverse)
      obtain ⟨x1, hx1⟩ : ∃ x1, x1 = writer st ws tk key c1 vl ls := ⟨_, rfl⟩
      obtain ⟨x2, hx2⟩ : ∃ x2, x2 = writer st ws tk key c1 vl ls.reverse := ⟨_, rfl⟩
      rw [← hx1] at g1 g3 ⊢
      rw [← hx2] at g2 g3 ⊢
      clear hx1 hx2 HIN HIN7 b7 b8 hB hrev7 HREV HBR hnx
      by_cases hm : x1 = -1
      · have hm2 := g3.1.1 hm
        subst hm
        subst hm2
        clear g1 g2 g3 HIN8
        go_wp2
        go_ret
        exact ⟨rfl, HB.out⟩
      · have hm2 : x2 ≠ -1 := fun h => hm (g3.1.2 h)
        have heq := g3.2 hm
        obtain ⟨i, rfl⟩ : ∃ i : Nat, x1 = i := ⟨x1.toNat, by omega⟩
        obtain ⟨j, rfl⟩ : ∃ j : Nat, x2 = j := ⟨x2.toNat, by omega⟩
        rw [Int.toNat_natCast, Int.toNat_natCast] at heq
        have hi : i < st.length := by omega
        have hj : j < st.length := by omega
        obtain ⟨_, a', cap', hu0, hrow⟩ := HIN8.out.1
        rw [List.length_map] at hu0 hrow
        have hcells : ∃ g off, a' = some ⟨g, off, none⟩ ∧ ∀ k, k < st.length → w8.cell? ⟨g, off + k, none⟩ = some (.int .u64 (st.getD k 0)) := by
          rcases hrow with h | ⟨g, off, h, _, hc⟩
          · simp at h; rw [h] at hi; simp at hi
          · exact ⟨g, off, h, fun k hk => by rw [hc k hk, map_getD _ _ 0 _ hk]⟩
        obtain ⟨g, off, ha', hc⟩ := hcells
        subst ha'
        have ci := hc i hi
        have cj := hc j hj
        rw [heq] at ci
        obtain ⟨y, hy⟩ : ∃ y, y = st.getD j 0 := ⟨_, rfl⟩
        rw [← hy] at ci cj
        rw [hu0]
        have hil : (i : Int) < st.length := by omega
        have hjl : (j : Int) < st.length := by omega
        have qi : ((i : Int) == -1) = false := beq_eq_false_iff_ne.2 (by omega)
        have qj : ((j : Int) == -1) = false := beq_eq_false_iff_ne.2 (by omega)
        clear hy heq hc hrow hu0 g1 g2 g3 hm hm2 HIN8
        go_wp2_with fail
        go_quiet (fail)
        go_wp2
        go_ret
        exact ⟨rfl, below_drewN HB.out _⟩

end Go.Proofs.Qxb6603228a
