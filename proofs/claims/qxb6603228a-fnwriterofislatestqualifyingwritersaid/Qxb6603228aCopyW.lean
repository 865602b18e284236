/-
  The walk of copyWrites.
-/
import Derived.Test.Qxb6603228aCopy
import Derived.Test.Qxb6603228aSmall
namespace Go.Proofs.Qxb6603228a
open Go.RowKit

theorem Try.info51 : (Try.prog.info? 51).map (fun i => (i.zero, i.size, i.bytes)) = some (some (.slice none 0 0), 1, 24) := by kernel_rfl
theorem Try.info52 : (Try.prog.info? 52).map (fun i => (i.zero, i.size, i.bytes)) = some (some (.agg #[.slice none 0 0, .slice none 0 0]), 2, 48) := by kernel_rfl

theorem made_cell (z : Array Value) (n j : Nat) (hj : j < n) : (madeCells z n).toList[j]? = some (z[j % z.size]!) := by
  rw [Array.getElem?_toList, madeCells, Array.getElem?_map, Array.getElem?_range, if_pos hj]; rfl

theorem keeps_set2 {S : Nat → Prop} {w : World} {P H i a b : Nat} {x y z : Value} (hP : ¬ S P) (hH : ¬ S H) :
    Keeps S w (((w.setCell ⟨P, i, none⟩ x).setCell ⟨H, a, none⟩ y).setCell ⟨H, b, none⟩ z) :=
  ((keeps_set hP).trans (keeps_set hH)).trans (keeps_set hH)

theorem pair_step {wr Wb Wf : World} {H kk m s1 s2 s3 : Nat} {A B : Value} {ps : List (List Int × List Int)} (hH : H < wr.heap.size) (krb : Below wr.heap.size wr Wb) (hk : kk < m) (fr : Free Wb H (m * 2))
    (hb0 : Bs Wb (fun g => s1 ≤ g ∧ g < s2) A (ps.getD kk ([], [])).1) (h1 : wr.heap.size < s1) (h2 : s2 ≤ Wb.heap.size) (h3 : wr.heap.size < s3) (hb1 : Bs Wb (fun g => s3 ≤ g ∧ g < Wb.heap.size) B (ps.getD kk ([], [])).2)
    (hd : ∀ j, j < kk → ∃ u0 u1, wr.cell? ⟨H, j * 2, none⟩ = some u0 ∧ wr.cell? ⟨H, j * 2 + 1, none⟩ = some u1 ∧ Bs wr (fun g => H < g ∧ g < wr.heap.size) u0 (ps.getD j ([], [])).1 ∧ Bs wr (fun g => H < g ∧ g < wr.heap.size) u1 (ps.getD j ([], [])).2)
    (hWf : Wf = ((Wb.setCell ⟨wr.heap.size, 1, none⟩ B).setCell ⟨H, kk * 2, none⟩ A).setCell ⟨H, kk * 2 + 1, none⟩ B) :
    Free Wf H (m * 2) ∧ (∀ j, j < kk + 1 → ∃ u0 u1, Wf.cell? ⟨H, j * 2, none⟩ = some u0 ∧ Wf.cell? ⟨H, j * 2 + 1, none⟩ = some u1 ∧ Bs Wf (fun g => H < g ∧ g < Wf.heap.size) u0 (ps.getD j ([], [])).1 ∧ Bs Wf (fun g => H < g ∧ g < Wf.heap.size) u1 (ps.getD j ([], [])).2) ∧
      Wf.heap.size = Wb.heap.size := by
  have hsz : Wf.heap.size = Wb.heap.size := by rw [hWf]; simp [World.setCell]
  have hblk : (Wb.setCell ⟨wr.heap.size, 1, none⟩ B).heap[H]? = Wb.heap[H]? := heap_setCell_other _ _ _ _ (by show H ≠ wr.heap.size; omega)
  have hsize := krb.size
  refine ⟨by rw [hWf]; exact (fr.keep hblk).set.set, fun j hj => ?_, hsz⟩
  by_cases hjk : j = kk
  · subst hjk
    obtain ⟨⟨z0, hz0⟩, _⟩ := (fr.keep hblk) (j * 2) (by omega)
    obtain ⟨⟨z1, hz1⟩, _⟩ := (fr.keep hblk) (j * 2 + 1) (by omega)
    refine ⟨A, B, ?_, ?_, ?_, ?_⟩
    · rw [hWf, set_other (by omega)]; exact set_same hz0
    · rw [hWf]; exact set_same ((set_other (by omega)).trans hz1)
    · rw [hsz, hWf]; exact (hb0.keep (keeps_set2 (by omega) (by omega))).sub (fun g hg => by omega)
    · rw [hsz, hWf]; exact (hb1.keep (keeps_set2 (by omega) (by omega))).sub (fun g hg => by omega)
  · obtain ⟨u0, u1, c0, c1, b0, b1⟩ := hd j (by omega)
    have kk1 : Keeps (fun g => H < g ∧ g < wr.heap.size) wr Wf := by
      rw [hWf]
      exact (keeps_sub (keeps_below krb) (fun g hg => hg.2)).trans (keeps_set2 (by omega) (by omega))
    refine ⟨u0, u1, ?_, ?_, (b0.keep kk1).sub (fun g hg => by omega), (b1.keep kk1).sub (fun g hg => by omega)⟩
    · rw [hWf, set_other (by omega), set_other (by omega), World.cell?_of_block (a := ⟨H, j * 2, none⟩) hblk]
      exact (krb.cell (p := ⟨H, j * 2, none⟩) hH).trans c0
    · rw [hWf, set_other (by omega), set_other (by omega), World.cell?_of_block (a := ⟨H, j * 2 + 1, none⟩) hblk]
      exact (krb.cell (p := ⟨H, j * 2 + 1, none⟩) hH).trans c1

theorem outer_step {wo wr Wf : World} {G k n : Nat} {ps : List (List Int × List Int)} {ws : List (List (List Int × List Int))} (hG : G < wo.heap.size) (hn : Below wo.heap.size wo wr) (hs : wo.heap.size < wr.heap.size) (hk : k < n) (fr : Free wr G n) (hps : ps = ws.getD k []) (hpl : ps.length ≤ 1048576)
    (hdone : ∀ j, j < k → ∃ u, wo.cell? ⟨G, j, none⟩ = some u ∧ Ps wo (fun g => G < g ∧ g < wo.heap.size) u (ws.getD j []))
    (hrest : ∀ j, k ≤ j → j < n → wo.cell? ⟨G, j, none⟩ = some (.slice none 0 0))
    (hd : ∀ j, j < ps.length → ∃ u0 u1, wr.cell? ⟨wo.heap.size, j * 2, none⟩ = some u0 ∧ wr.cell? ⟨wo.heap.size, j * 2 + 1, none⟩ = some u1 ∧ Bs wr (fun g => wo.heap.size < g ∧ g < wr.heap.size) u0 (ps.getD j ([], [])).1 ∧ Bs wr (fun g => wo.heap.size < g ∧ g < wr.heap.size) u1 (ps.getD j ([], [])).2)
    (hWf : Wf = wr.setCell ⟨G, k, none⟩ (.slice (some ⟨wo.heap.size, 0, none⟩) ps.length ps.length)) :
    Free Wf G n ∧ (∀ j, j < k + 1 → ∃ u, Wf.cell? ⟨G, j, none⟩ = some u ∧ Ps Wf (fun g => G < g ∧ g < Wf.heap.size) u (ws.getD j [])) ∧ (∀ j, k + 1 ≤ j → j < n → Wf.cell? ⟨G, j, none⟩ = some (.slice none 0 0)) ∧ Wf.heap.size = wr.heap.size := by
  have hsz : Wf.heap.size = wr.heap.size := by rw [hWf]; simp [World.setCell]
  refine ⟨by rw [hWf]; exact fr.set, fun j hj => ?_, fun j hj1 hj2 => ?_, hsz⟩
  · by_cases hjk : j = k
    · subst hjk
      obtain ⟨⟨z0, hz0⟩, _⟩ := fr j hk
      refine ⟨_, by rw [hWf]; exact set_same hz0, ?_⟩
      rw [← hps]
      refine Ps.sub (S := fun g => wo.heap.size ≤ g ∧ g < wr.heap.size) ?_ (fun g hg => by omega)
      rw [hWf]
      refine Ps.keep (w := wr) ?_ (keeps_set (by omega))
      refine ⟨by omega, some ⟨wo.heap.size, 0, none⟩, ps.length, rfl, .inr ⟨wo.heap.size, 0, rfl, ⟨Nat.le_refl _, hs⟩, fun k' hk' => ?_⟩⟩
      obtain ⟨u0, u1, c0, c1, b0, b1⟩ := hd k' hk'
      rw [Nat.zero_add]
      exact ⟨u0, u1, c0, c1, b0.sub (fun g hg => by omega), b1.sub (fun g hg => by omega)⟩
    · obtain ⟨u, hu, hp⟩ := hdone j (by omega)
      refine ⟨u, ?_, ?_⟩
      · rw [hWf, set_other hjk]; exact (hn.cell (p := ⟨G, j, none⟩) hG).trans hu
      · refine Ps.sub (S := fun g => G < g ∧ g < wo.heap.size) ?_ (fun g hg => by omega)
        rw [hWf]
        exact (hp.keep (keeps_sub (keeps_below hn) (fun g hg => hg.2))).keep (keeps_set (by omega))
  · rw [hWf, set_other (by omega)]; exact (hn.cell (p := ⟨G, j, none⟩) hG).trans (hrest j (by omega) hj2)

set_option maxRecDepth 20000 in
set_option maxHeartbeats 1000000 in
theorem copyWrites_any (v : Value) (ws : List (List (List Int × List Int))) (w : World) (h : Ws w (fun g => g < w.heap.size) v ws) (hsm : smallWs ws) :
    Calls Try.prog 22 #[v] w fun e w' => ∃ u, e = .returned u ∧ Ws w' (fun g => w.heap.size ≤ g ∧ g < w'.heap.size) u ws ∧ Below w.heap.size w w' := by
  have q33 : ∀ (w : World) (a : Option Addr) (n c n' c' : Nat), (binOp .eql 33 (.slice a n c) (.slice none n' c')).run Try.prog w = .ok (.bool a.isNone) w := fun w a n c n' c' => Lib.run_eql_slice_nil w _ _ a n c n' c' Try.underlying33
  have q51 : ∀ (w : World) (a : Option Addr) (n c n' c' : Nat), (binOp .eql 51 (.slice a n c) (.slice none n' c')).run Try.prog w = .ok (.bool a.isNone) w := fun w a n c n' c' => Lib.run_eql_slice_nil w _ _ a n c n' c' Try.underlying51
  obtain ⟨i1, hi1, hy0, hy1, hy2⟩ := info_parts Try.info51
  obtain ⟨i2, hi2, hx0, hx1, hx2⟩ := info_parts Try.info52
  have hlen := hsm.1
  obtain ⟨_, a, cap, rfl, hrow⟩ := h
  cases a with
  | none =>
    have hl : ws = [] := by
      rcases hrow with h | ⟨g, off, h, _⟩
      · exact h
      · cases h
    subst hl
    clear hrow
    go_enter Try.func22, Try.ntmps22
    go_wp2
    go_ret
    exact ⟨_, rfl, ⟨by simp, none, 0, rfl, .inl rfl⟩, Below.refl _ _⟩
  | some x =>
    have HR : Hid (∀ k, k < ws.length → ∃ g off u, x = ⟨g, off, none⟩ ∧ g < w.heap.size ∧ w.cell? ⟨g, off + k, none⟩ = some u ∧ Ps w (fun g => g < w.heap.size) u (ws.getD k [])) := by
      intro k hk
      rcases hrow with h | ⟨g, off, h, hg, hc⟩
      · rw [h] at hk; simp at hk
      · injection h with h
        obtain ⟨u, h1, h2⟩ := hc k hk
        exact ⟨g, off, u, h, hg, h1, h2⟩
    have HSM := hide hsm
    clear hrow hsm
    go_enter Try.func22, Try.ntmps22
    go_wp2_with (at_make; refine wpList_make_full _ rfl _ _ 33 rfl w.heap.size 51 i1 (.slice none 0 0) 1 Try.underlying33 hi1 hy0 hy1 .i64 .i64 _ _ ws.length rfl rfl rfl rfl ?b1 ?b2 ?b3 ?_)
    case b1 => rw [hy2]; omega
    case b2 => unfold maxLen; omega
    case b3 => omega
    intro w1 hown hgrow
    have hzero : ∀ j, j < ws.length → w1.cell? ⟨w.heap.size, j, none⟩ = some (.slice none 0 0) := fun j hj => by rw [hown.cellAt j (by omega), toList_madeCells_one]; exact List.getElem?_replicate_of_lt (by omega)
    have hfree : Free w1 w.heap.size ws.length := fun j hj => ⟨⟨_, hzero j hj⟩, hown.frozenAt j⟩
    have hbel : Below w.heap.size w w1 := (Below.refl _ _).grown hgrow (Nat.le_refl _) (by intro k hk; cases hk)
    have hsz : w.heap.size < w1.heap.size := (hown.lt w.heap.size rfl).2
    have HF := hide hfree
    have HB := hide hbel
    have HZ := hide hzero
    clear hown hgrow hfree hbel hzero
    go_wp2_with fail
    go_loopw [4, 15] (fun _ i wr => ∃ k : Nat, i = .int .i64 k ∧ k ≤ ws.length ∧ Hid (Free wr w.heap.size ws.length) ∧ Hid (∀ j, j < k → ∃ u, wr.cell? ⟨w.heap.size, j, none⟩ = some u ∧ Ps wr (fun g => w.heap.size < g ∧ g < wr.heap.size) u (ws.getD j [])) ∧
      Hid (∀ j, k ≤ j → j < ws.length → wr.cell? ⟨w.heap.size, j, none⟩ = some (.slice none 0 0)) ∧ Below w.heap.size w wr ∧ w.heap.size < wr.heap.size) (fun _ i _ => ws.length - (intOf i).toNat)
    case atStart => exact ⟨0, rfl, Nat.zero_le _, HF.out, fun j hj => by omega, fun j _ hj => HZ.out j hj, HB.out, hsz⟩
    case round =>
      obtain ⟨k, rfl, hk, hfr, hdone, hrest, hnx, hszr⟩ := hrel
      clear HF HB HZ hsz
      by_cases hlt : k < ws.length
      · obtain ⟨g, off, u, hx, hg, hcell, hul, a', cap', rfl, hP⟩ := HR.out k hlt
        subst hx
        have hsk := HSM.out.2 k hlt
        have cb : wr.cell? ⟨g, off + k, none⟩ = some (.slice a' (ws.getD k []).length cap') := (hnx.cell (p := ⟨g, off + k, none⟩) hg).trans hcell
        clear hcell
        obtain ⟨ps, hps⟩ : ∃ ps, ps = ws.getD k [] := ⟨_, rfl⟩
        rw [← hps] at cb hsk hP hul
        have HPS := hide hps
        clear hps
        cases a' with
        | none =>
          have hpl : ps = [] := by
            rcases hP with h | ⟨g, off, h, _⟩
            · exact h
            · cases h
          subst hpl
          clear hP hsk
          go_wp2
          go_roundw
          case rel =>
            refine ⟨k + 1, by go_num, by omega, hfr.out, fun j hj => ?_, fun j hj1 hj2 => hrest.out j (by omega) hj2, hnx, hszr⟩
            by_cases hjk : j = k
            · subst hjk; rw [← HPS.out]; exact ⟨_, hrest.out j (Nat.le_refl _) hlt, by simp, none, 0, rfl, .inl rfl⟩
            · exact hdone.out j (by omega)
          case measure => simp [intOf]; omega
        | some x' =>
          have HP : Hid (∀ k', k' < ps.length → ∃ g1 off1 u0 u1, x' = ⟨g1, off1, none⟩ ∧ g1 < w.heap.size ∧ w.cell? ⟨g1, off1 + k' * 2, none⟩ = some u0 ∧ w.cell? ⟨g1, off1 + k' * 2 + 1, none⟩ = some u1 ∧
              Bs w (fun g => g < w.heap.size) u0 (ps.getD k' ([], [])).1 ∧ Bs w (fun g => g < w.heap.size) u1 (ps.getD k' ([], [])).2) := by
            intro k' hk'
            rcases hP with h | ⟨g1, off1, h, hg1, hc⟩
            · rw [h] at hk'; simp at hk'
            · injection h with h
              obtain ⟨u0, u1, e0, e1, b0, b1⟩ := hc k' hk'
              exact ⟨g1, off1, u0, u1, h, hg1, e0, e1, b0, b1⟩
          have hpl := hsk.1
          have HSK := hide hsk
          clear hP hsk
          obtain ⟨wo, rfl⟩ : ∃ wo : World, wo = wr := ⟨_, rfl⟩
          go_wp2_with (at_make; refine wpList_make_full _ rfl _ _ 51 rfl wo.heap.size 52 i2 (.agg #[.slice none 0 0, .slice none 0 0]) 2 Try.underlying51 hi2 hx0 hx1 .i64 .i64 _ _ ps.length rfl rfl rfl rfl ?d1 ?d2 ?d3 ?_)
          case d1 => rw [hx2]; omega
          case d2 => unfold maxLen; omega
          case d3 => omega
          intro w2 hown hgrow
          have hfree2 : Free w2 wo.heap.size (ps.length * 2) := fun j hj => ⟨⟨_, by rw [hown.cellAt j hj]; exact made_cell _ _ _ hj⟩, hown.frozenAt j⟩
          have hbel2 : Below wo.heap.size wo w2 := (Below.refl _ _).grown hgrow (Nat.le_refl _) (by intro k hk; cases hk)
          have hsz2 : wo.heap.size < w2.heap.size := (hown.lt wo.heap.size rfl).2
          have cb2 : w2.cell? ⟨g, off + k, none⟩ = some (.slice (some x') ps.length cap') := (hbel2.cell (p := ⟨g, off + k, none⟩) (by show g < wo.heap.size; omega)).trans cb
          have HF2 := hide hfree2
          have HB2 := hide hbel2
          clear hown hgrow hfree2 hbel2
          go_wp2_with fail
          go_loopw [6, 34] (fun _ i wr => ∃ kk : Nat, i = .int .i64 kk ∧ kk ≤ ps.length ∧ Hid (Free wr wo.heap.size (ps.length * 2)) ∧
            Hid (∀ j, j < kk → ∃ u0 u1, wr.cell? ⟨wo.heap.size, j * 2, none⟩ = some u0 ∧ wr.cell? ⟨wo.heap.size, j * 2 + 1, none⟩ = some u1 ∧ Bs wr (fun g => wo.heap.size < g ∧ g < wr.heap.size) u0 (ps.getD j ([], [])).1 ∧ Bs wr (fun g => wo.heap.size < g ∧ g < wr.heap.size) u1 (ps.getD j ([], [])).2) ∧
            Below wo.heap.size wo wr ∧ wo.heap.size < wr.heap.size) (fun _ i _ => ps.length - (intOf i).toNat)
          case atStart => exact ⟨0, rfl, Nat.zero_le _, HF2.out, fun j hj => by omega, HB2.out, hsz2⟩
          case round =>
            obtain ⟨kk, rfl, hkk, hfr2, hdone2, hnx2, hszr2⟩ := hrel
            clear HF2 HB2 cb2 hsz2
            have hwb : Below w.heap.size w wr := hnx.trans (hnx2.mono (by omega))
            by_cases hlt2 : kk < ps.length
            · obtain ⟨g1, off1, u0, u1, hx', hg1, e0, e1, b0, b1⟩ := HP.out kk hlt2
              subst hx'
              have hsz := HSK.out.2 kk hlt2
              obtain ⟨l0, hl0⟩ : ∃ l0, l0 = (ps.getD kk ([], [])).1 := ⟨_, rfl⟩
              obtain ⟨l1, hl1⟩ : ∃ l1, l1 = (ps.getD kk ([], [])).2 := ⟨_, rfl⟩
              rw [← hl0] at b0 hsz
              rw [← hl1] at b1 hsz
              have HL0 := hide hl0
              have HL1 := hide hl1
              clear hl0 hl1
              have hgr : g < wr.heap.size := by omega
              have hg1r : g1 < wr.heap.size := by omega
              have c0 : wr.cell? ⟨g, off + k, none⟩ = some (.slice (some ⟨g1, off1, none⟩) ps.length cap') := (hnx2.cell (p := ⟨g, off + k, none⟩) (by show g < wo.heap.size; omega)).trans cb
              have c1 : wr.cell? ⟨g1, off1 + kk * 2, none⟩ = some u0 := (hwb.cell (p := ⟨g1, off1 + kk * 2, none⟩) hg1).trans e0
              have c2 : wr.cell? ⟨g1, off1 + kk * 2 + 1, none⟩ = some u1 := (hwb.cell (p := ⟨g1, off1 + kk * 2 + 1, none⟩) hg1).trans e1
              have HB0 := hide b0
              have HB1 := hide b1
              clear e0 e1 b0 b1 cb
              go_wp2_with fail
              obtain ⟨W1, hW1⟩ : ∃ W1, W1 = wr.alloc (.cells #[.slice none 0 0, .slice none 0 0] 52) := ⟨_, rfl⟩
              have k1 : Below wr.heap.size wr W1 := by rw [hW1]; exact (Below.refl _ _).alloc (Nat.le_refl _) _
              have s1 : W1.heap.size = wr.heap.size + 1 := by rw [hW1]; simp
              have p0 : W1.cell? ⟨wr.heap.size, 0, none⟩ = some (.slice none 0 0) := by rw [hW1, World.cell?_alloc_at _ _ _ _ rfl]; rfl
              have p1 : W1.cell? ⟨wr.heap.size, 1, none⟩ = some (.slice none 0 0) := by rw [hW1, World.cell?_alloc_at _ _ _ _ rfl]; rfl
              have f0 : W1.frozen? ⟨wr.heap.size, 0, none⟩ = false := by rw [hW1]; simp
              have f1 : W1.frozen? ⟨wr.heap.size, 1, none⟩ = false := by rw [hW1]; simp
              rw [← hW1]
              clear hW1
              have r0 : Row W1 (fun g => g < W1.heap.size) u0 (l0.map (Value.int .u8)) := ((HB0.out.1.keep (keeps_below hwb)).keep (keeps_sub (keeps_below k1) (fun g hg => by omega))).sub (fun g hg => by omega)
              refine (copyBytes_any u0 l0 W1 r0 hsz.1).mono ?_
              rintro e Wa ⟨t0, rfl, ⟨_, x0, y0, ht0, hrow0⟩, ka⟩
              rw [List.length_map] at ht0
              have RA : Hid (Bs Wa (fun g => W1.heap.size ≤ g ∧ g < Wa.heap.size) (.slice x0 l0.length y0) l0) := ⟨⟨by rw [List.length_map]; omega, x0, y0, by rw [List.length_map], hrow0⟩, HB0.out.2⟩
              rw [ht0]
              clear ht0 hrow0 r0
              have sa := ka.size
              have p0a : Wa.cell? ⟨wr.heap.size, 0, none⟩ = some (.slice none 0 0) := (ka.cell (p := ⟨wr.heap.size, 0, none⟩) (by show wr.heap.size < _; omega)).trans p0
              have p1a : Wa.cell? ⟨wr.heap.size, 1, none⟩ = some (.slice none 0 0) := (ka.cell (p := ⟨wr.heap.size, 1, none⟩) (by show wr.heap.size < _; omega)).trans p1
              have f0a : Wa.frozen? ⟨wr.heap.size, 0, none⟩ = false := (ka.frozen (p := ⟨wr.heap.size, 0, none⟩) (by show wr.heap.size < _; omega)).trans f0
              have f1a : Wa.frozen? ⟨wr.heap.size, 1, none⟩ = false := (ka.frozen (p := ⟨wr.heap.size, 1, none⟩) (by show wr.heap.size < _; omega)).trans f1
              have kra : Below wr.heap.size wr Wa := k1.trans (ka.mono (by omega))
              have c0a : Wa.cell? ⟨g, off + k, none⟩ = some (.slice (some ⟨g1, off1, none⟩) ps.length cap') := (kra.cell (p := ⟨g, off + k, none⟩) hgr).trans c0
              have c2a : Wa.cell? ⟨g1, off1 + kk * 2 + 1, none⟩ = some u1 := (kra.cell (p := ⟨g1, off1 + kk * 2 + 1, none⟩) hg1r).trans c2
              clear p0 p1 f0 f1 c0 c1 c2
              go_wp2_with fail
              obtain ⟨Wc, hWc⟩ : ∃ Wc, Wc = Wa.setCell ⟨wr.heap.size, 0, none⟩ (.slice x0 l0.length y0) := ⟨_, rfl⟩
              have kc : Below wr.heap.size wr Wc := by rw [hWc]; exact kra.setCell (Nat.le_refl _) _
              have sc : Wc.heap.size = Wa.heap.size := by rw [hWc]; simp [World.setCell]
              have p0c : Wc.cell? ⟨wr.heap.size, 0, none⟩ = some (.slice x0 l0.length y0) := by rw [hWc]; exact set_same p0a
              have p1c : Wc.cell? ⟨wr.heap.size, 1, none⟩ = some (.slice none 0 0) := by rw [hWc, set_other (by omega)]; exact p1a
              have f0c : Wc.frozen? ⟨wr.heap.size, 0, none⟩ = false := by rw [hWc, World.frozen?_setCell]; exact f0a
              have f1c : Wc.frozen? ⟨wr.heap.size, 1, none⟩ = false := by rw [hWc, World.frozen?_setCell]; exact f1a
              have RC : Hid (Bs Wc (fun g => W1.heap.size ≤ g ∧ g < Wa.heap.size) (.slice x0 l0.length y0) l0) := by rw [hWc]; exact RA.out.keep (keeps_set (by omega))
              rw [← hWc]
              clear hWc p0a p1a f0a f1a c0a c2a RA
              have r1 : Row Wc (fun g => g < Wc.heap.size) u1 (l1.map (Value.int .u8)) := ((HB1.out.1.keep (keeps_below hwb)).keep (keeps_sub (keeps_below kc) (fun g hg => by omega))).sub (fun g hg => by omega)
              refine (copyBytes_any u1 l1 Wc r1 hsz.2).mono ?_
              rintro e Wb ⟨t1, rfl, ⟨_, x1, y1, ht1, hrow1⟩, kb⟩
              rw [List.length_map] at ht1
              have RB1 : Hid (Bs Wb (fun g => Wc.heap.size ≤ g ∧ g < Wb.heap.size) (.slice x1 l1.length y1) l1) := ⟨⟨by rw [List.length_map]; omega, x1, y1, by rw [List.length_map], hrow1⟩, HB1.out.2⟩
              have RB0 : Hid (Bs Wb (fun g => W1.heap.size ≤ g ∧ g < Wa.heap.size) (.slice x0 l0.length y0) l0) := RC.out.keep (keeps_sub (keeps_below kb) (fun g hg => by omega))
              rw [ht1]
              clear ht1 hrow1 r1 RC
              have sb := kb.size
              have krb : Below wr.heap.size wr Wb := kc.trans (kb.mono (by omega))
              have p0b : Wb.cell? ⟨wr.heap.size, 0, none⟩ = some (.slice x0 l0.length y0) := (kb.cell (p := ⟨wr.heap.size, 0, none⟩) (by show wr.heap.size < _; omega)).trans p0c
              have p1b : Wb.cell? ⟨wr.heap.size, 1, none⟩ = some (.slice none 0 0) := (kb.cell (p := ⟨wr.heap.size, 1, none⟩) (by show wr.heap.size < _; omega)).trans p1c
              have f0b : Wb.frozen? ⟨wr.heap.size, 0, none⟩ = false := (kb.frozen (p := ⟨wr.heap.size, 0, none⟩) (by show wr.heap.size < _; omega)).trans f0c
              have f1b : Wb.frozen? ⟨wr.heap.size, 1, none⟩ = false := (kb.frozen (p := ⟨wr.heap.size, 1, none⟩) (by show wr.heap.size < _; omega)).trans f1c
              have frb : Free Wb wo.heap.size (ps.length * 2) := hfr2.out.keep (krb.block _ hszr2)
              obtain ⟨⟨z0, hz0⟩, hzf0⟩ := frb (kk * 2) (by omega)
              obtain ⟨⟨z1, hz1⟩, hzf1⟩ := frb (kk * 2 + 1) (by omega)
              have FRB := hide frb
              clear p0c p1c f0c f1c frb ka kra kc k1
              have R := fun Wf => pair_step (Wf := Wf) (s1 := W1.heap.size) (s2 := Wa.heap.size) (s3 := Wc.heap.size) (ps := ps) hszr2 krb hlt2 FRB.out (by rw [← HL0.out]; exact RB0.out) (by omega) (by omega) (by omega) (by rw [← HL1.out]; exact RB1.out) hdone2.out
              have HR3 := hide R
              clear R
              go_wp2
              go_roundw
              case rel =>
                have R := HR3.out _ rfl
                exact ⟨kk + 1, by go_num, by omega, R.1, R.2.1, (((hnx2.trans (krb.mono (by omega))).setCell (by show wo.heap.size ≤ wr.heap.size; omega) _).setCell (Nat.le_refl _) _).setCell (Nat.le_refl _) _, by rw [R.2.2]; omega⟩
              case measure => simp [intOf]; omega
            · have hkl : kk = ps.length := by omega
              subst hkl
              have hgr : g < wr.heap.size := by omega
              have c0 : wr.cell? ⟨g, off + k, none⟩ = some (.slice (some x') ps.length cap') := (hnx2.cell (p := ⟨g, off + k, none⟩) (by show g < wo.heap.size; omega)).trans cb
              have frb : Free wr w.heap.size ws.length := hfr.out.keep (hnx2.block _ hszr)
              obtain ⟨⟨z0, hz0⟩, hzf0⟩ := frb k hlt
              have FRB := hide frb
              clear frb
              have R := fun Wf => outer_step (Wf := Wf) hszr hnx2 hszr2 hlt FRB.out HPS.out hpl hdone.out hrest.out hdone2.out
              have HR3 := hide R
              clear R
              go_wp2
              go_roundw
              case rel =>
                have R := HR3.out _ rfl
                exact ⟨k + 1, by go_num, by omega, R.1, R.2.1, R.2.2.1, hwb.setCell (Nat.le_refl _) _, by rw [R.2.2.2]; omega⟩
              case measure => simp [intOf]; omega
      · have hkl : k = ws.length := by omega
        subst hkl
        go_wp2
        go_ret
        refine ⟨_, rfl, ⟨by omega, some ⟨w.heap.size, 0, none⟩, ws.length, rfl, .inr ⟨w.heap.size, 0, rfl, ⟨Nat.le_refl _, hszr⟩, fun i hi => ?_⟩⟩, hnx⟩
        rw [Nat.zero_add]
        obtain ⟨u, hu, hp⟩ := hdone.out i hi
        exact ⟨u, hu, hp.sub fun g hg => ⟨by omega, hg.2⟩⟩

end Go.Proofs.Qxb6603228a
