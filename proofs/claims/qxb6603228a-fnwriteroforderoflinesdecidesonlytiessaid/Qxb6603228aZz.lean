/-
  The walk of ZZWriterOf.
-/
import Derived.Test.Qxb6603228aWr
import Derived.Test.Qxb6603228aCopyW
import Derived.BigRegion
namespace Go.Proofs.Qxb6603228a
open Go.RowKit

theorem Try.info58 : (Try.prog.info? 58).map (fun i => (i.zero, i.size, i.bytes)) = some (some (.agg #[.int .i64 0, .int .u64 0, .slice none 0 0, .slice none 0 0, .string ByteArray.empty, .int .u64 0, .int .i64 0, .int .i64 0]), 8, 104) := by kernel_rfl
theorem Try.info61 : (Try.prog.info? 61).map (fun i => (i.zero, i.size, i.bytes)) = some (some (.agg #[.slice none 0 0, .slice none 0 0]), 2, 48) := by kernel_rfl

/-- The lines' block: n lines of eight cells, of which the second and the fourth are A i, B i. -/
def LP (w : World) (G n : Nat) (A B : Nat → Value) : Prop := ∀ i, i < n →
  w.cell? ⟨G, i * 8, none⟩ = some (.int .i64 0) ∧ w.cell? ⟨G, i * 8 + 1, none⟩ = some (A i) ∧ w.cell? ⟨G, i * 8 + 2, none⟩ = some (.slice none 0 0) ∧ w.cell? ⟨G, i * 8 + 3, none⟩ = some (B i) ∧
  w.cell? ⟨G, i * 8 + 4, none⟩ = some (.string ByteArray.empty) ∧ w.cell? ⟨G, i * 8 + 5, none⟩ = some (.int .u64 0) ∧ w.cell? ⟨G, i * 8 + 6, none⟩ = some (.int .i64 0) ∧ w.cell? ⟨G, i * 8 + 7, none⟩ = some (.int .i64 0)

theorem LP.keep {w w' : World} {G n : Nat} {A B : Nat → Value} (h : LP w G n A B) (hg : w'.heap[G]? = w.heap[G]?) : LP w' G n A B := by
  intro i hi
  have e : ∀ o, w'.cell? ⟨G, o, none⟩ = w.cell? ⟨G, o, none⟩ := fun o => World.cell?_of_block (a := ⟨G, o, none⟩) hg
  simp only [e]
  exact h i hi

theorem LP.set1 {w : World} {G n k : Nat} {A B : Nat → Value} {x : Value} (h : LP w G n A B) (hk : k < n) : LP (w.setCell ⟨G, k * 8 + 1, none⟩ x) G n (fun j => if j = k then x else A j) B := by
  intro i hi
  obtain ⟨h0, h1, h2, h3, h4, h5, h6, h7⟩ := h i hi
  refine ⟨(set_other (by omega)).trans h0, ?_, (set_other (by omega)).trans h2, (set_other (by omega)).trans h3, (set_other (by omega)).trans h4, (set_other (by omega)).trans h5, (set_other (by omega)).trans h6, (set_other (by omega)).trans h7⟩
  show _ = some (if i = k then x else A i)
  by_cases e : i = k
  · subst e; rw [if_pos rfl]; exact set_same h1
  · rw [if_neg e]; exact (set_other (by omega)).trans h1

theorem LP.set3 {w : World} {G n k : Nat} {A B : Nat → Value} {x : Value} (h : LP w G n A B) (hk : k < n) : LP (w.setCell ⟨G, k * 8 + 3, none⟩ x) G n A (fun j => if j = k then x else B j) := by
  intro i hi
  obtain ⟨h0, h1, h2, h3, h4, h5, h6, h7⟩ := h i hi
  refine ⟨(set_other (by omega)).trans h0, (set_other (by omega)).trans h1, (set_other (by omega)).trans h2, ?_, (set_other (by omega)).trans h4, (set_other (by omega)).trans h5, (set_other (by omega)).trans h6, (set_other (by omega)).trans h7⟩
  show _ = some (if i = k then x else B i)
  by_cases e : i = k
  · subst e; rw [if_pos rfl]; exact set_same h3
  · rw [if_neg e]; exact (set_other (by omega)).trans h3

theorem made8 {w : World} {G n base cap : Nat} {e : TypeId} (h : w.ownsRow base e 8 (.slice (some ⟨G, 0, none⟩) n cap) n (madeCells (Value.agg #[.int .i64 0, .int .u64 0, .slice none 0 0, .slice none 0 0, .string ByteArray.empty, .int .u64 0, .int .i64 0, .int .i64 0]).cells (n * 8)).toList) :
    LP w G n (fun _ => .int .u64 0) (fun _ => .slice none 0 0) := by
  have key : ∀ i c, i < n → c < 8 → w.cell? ⟨G, i * 8 + c, none⟩ = some ((Value.agg #[.int .i64 0, .int .u64 0, .slice none 0 0, .slice none 0 0, .string ByteArray.empty, .int .u64 0, .int .i64 0, .int .i64 0]).cells[c]!) := by
    intro i c hi hc
    rw [h.cellAt (i * 8 + c) (by omega), made_cell _ _ _ (by omega)]
    have : (Value.agg #[.int .i64 0, .int .u64 0, .slice none 0 0, .slice none 0 0, .string ByteArray.empty, .int .u64 0, .int .i64 0, .int .i64 0]).cells.size = 8 := rfl
    rw [this]
    have e : (i * 8 + c) % 8 = c := by omega
    rw [e]
  intro i hi
  exact ⟨key i 0 hi (by omega), key i 1 hi (by omega), key i 2 hi (by omega), key i 3 hi (by omega), key i 4 hi (by omega), key i 5 hi (by omega), key i 6 hi (by omega), key i 7 hi (by omega)⟩

theorem wpair_step {w wr Wf : World} {H kk m : Nat} {U V : Value} {ps : List (List Int × List Int)} (hk : kk < m) (fr : Free wr H (m * 2))
    (hb0 : Bs w (fun g => g < w.heap.size) U (ps.getD kk ([], [])).1) (hb1 : Bs w (fun g => g < w.heap.size) V (ps.getD kk ([], [])).2)
    (hd : ∀ j, j < kk → ∃ u0 u1, wr.cell? ⟨H, j * 2, none⟩ = some u0 ∧ wr.cell? ⟨H, j * 2 + 1, none⟩ = some u1 ∧ Bs w (fun g => g < w.heap.size) u0 (ps.getD j ([], [])).1 ∧ Bs w (fun g => g < w.heap.size) u1 (ps.getD j ([], [])).2)
    (hWf : Wf = ((wr.setCell ⟨H, kk * 2, none⟩ U).setCell ⟨H, kk * 2 + 1, none⟩ V).drew) :
    Free Wf H (m * 2) ∧ (∀ j, j < kk + 1 → ∃ u0 u1, Wf.cell? ⟨H, j * 2, none⟩ = some u0 ∧ Wf.cell? ⟨H, j * 2 + 1, none⟩ = some u1 ∧ Bs w (fun g => g < w.heap.size) u0 (ps.getD j ([], [])).1 ∧ Bs w (fun g => g < w.heap.size) u1 (ps.getD j ([], [])).2) ∧ Wf.heap.size = wr.heap.size := by
  have hc : ∀ o, Wf.cell? ⟨H, o, none⟩ = ((wr.setCell ⟨H, kk * 2, none⟩ U).setCell ⟨H, kk * 2 + 1, none⟩ V).cell? ⟨H, o, none⟩ := fun o => by rw [hWf]; rfl
  refine ⟨by rw [hWf]; exact (fr.set.set : Free ((wr.setCell ⟨H, kk * 2, none⟩ U).setCell ⟨H, kk * 2 + 1, none⟩ V) H (m * 2)), fun j hj => ?_, by rw [hWf]; simp [World.setCell, World.drew]⟩
  rw [hc, hc]
  by_cases hjk : j = kk
  · subst hjk
    obtain ⟨⟨z0, hz0⟩, _⟩ := fr (j * 2) (by omega)
    obtain ⟨⟨z1, hz1⟩, _⟩ := fr (j * 2 + 1) (by omega)
    exact ⟨U, V, (set_other (by omega)).trans (set_same hz0), set_same ((set_other (by omega)).trans hz1), hb0, hb1⟩
  · obtain ⟨u0, u1, c0, c1, b0, b1⟩ := hd j (by omega)
    exact ⟨u0, u1, (set_other (by omega)).trans ((set_other (by omega)).trans c0), (set_other (by omega)).trans ((set_other (by omega)).trans c1), b0, b1⟩

theorem wouter_step {w wo wr Wf : World} {k n : Nat} {ps : List (List Int × List Int)} {ws : List (List (List Int × List Int))} {A B : Nat → Value} (hG : w.heap.size < wo.heap.size) (hwo : Below w.heap.size w wo) (hn : Below wo.heap.size wo wr) (hs : wo.heap.size < wr.heap.size) (hk : k < n)
    (hps : ps = ws.getD k []) (hpl : ps.length ≤ 1048576) (hlp : LP wo w.heap.size n A B)
    (hdone : ∀ j, j < k → ∃ a c, B j = .slice a (ws.getD j []).length c ∧ Ps wo (fun g => g ≠ w.heap.size ∧ g < wo.heap.size) (.slice a (ws.getD j []).length c) (ws.getD j []))
    (hd : ∀ j, j < ps.length → ∃ u0 u1, wr.cell? ⟨wo.heap.size, j * 2, none⟩ = some u0 ∧ wr.cell? ⟨wo.heap.size, j * 2 + 1, none⟩ = some u1 ∧ Bs w (fun g => g < w.heap.size) u0 (ps.getD j ([], [])).1 ∧ Bs w (fun g => g < w.heap.size) u1 (ps.getD j ([], [])).2)
    (hWf : Wf = wr.setCell ⟨w.heap.size, k * 8 + 3, none⟩ (.slice (some ⟨wo.heap.size, 0, none⟩) ps.length ps.length)) :
    (∃ B, LP Wf w.heap.size n A B ∧ ∀ j, j < k + 1 → ∃ a c, B j = .slice a (ws.getD j []).length c ∧ Ps Wf (fun g => g ≠ w.heap.size ∧ g < Wf.heap.size) (.slice a (ws.getD j []).length c) (ws.getD j [])) ∧ Wf.heap.size = wr.heap.size := by
  have hsz : Wf.heap.size = wr.heap.size := by rw [hWf]; simp [World.setCell]
  have hwr : Below w.heap.size w wr := hwo.trans (hn.mono (by omega))
  refine ⟨⟨_, by rw [hWf]; exact (hlp.keep (hn.block _ hG)).set3 hk, fun j hj => ?_⟩, hsz⟩
  by_cases hjk : j = k
  · subst hjk
    refine ⟨some ⟨wo.heap.size, 0, none⟩, ps.length, ?_, ?_⟩
    · show (if j = j then _ else _) = _
      rw [if_pos rfl, ← hps]
    · rw [← hps]
      refine Ps.sub (S := fun g => g ≠ w.heap.size ∧ g < wr.heap.size) ?_ (fun g hg => by omega)
      rw [hWf]
      refine Ps.keep (w := wr) ?_ (keeps_set (by omega))
      refine ⟨by omega, some ⟨wo.heap.size, 0, none⟩, ps.length, rfl, .inr ⟨wo.heap.size, 0, rfl, ⟨by omega, hs⟩, fun k' hk' => ?_⟩⟩
      obtain ⟨u0, u1, c0, c1, b0, b1⟩ := hd k' hk'
      rw [Nat.zero_add]
      have hsw := hwr.size
      exact ⟨u0, u1, c0, c1, (b0.keep (keeps_below hwr)).sub (fun g hg => by omega), (b1.keep (keeps_below hwr)).sub (fun g hg => by omega)⟩
  · obtain ⟨a, c, hB, hp⟩ := hdone j (by omega)
    refine ⟨a, c, ?_, ?_⟩
    · show (if j = k then _ else _) = _
      rw [if_neg hjk]; exact hB
    · refine Ps.sub (S := fun g => g ≠ w.heap.size ∧ g < wo.heap.size) ?_ (fun g hg => by omega)
      rw [hWf]
      exact (hp.keep (keeps_sub (keeps_below hn) (fun g hg => hg.2))).keep (keeps_set (by omega))

set_option maxRecDepth 20000 in
set_option maxHeartbeats 1000000 in
theorem zzWriterOf_any (v0 v1 tv lv v : Value) (st : List Int) (ws : List (List (List Int × List Int))) (tk : List Bool) (ls vl : List Int) (key : ByteArray) (ts : Int) (w : World)
    (h0 : Row w (fun g => g < w.heap.size) v0 (st.map (Value.int .u64))) (h1 : Ws w (fun g => g < w.heap.size) v1 ws) (h2 : Row w (fun g => g < w.heap.size) tv (tk.map Value.bool)) (h3 : Row w (fun g => g < w.heap.size) lv (ls.map (Value.int .i64)))
    (h7 : Bs w (fun g => g < w.heap.size) v vl) (hst : st.length ≤ 1048576) (hws : ws.length = st.length) (htk : tk.length = st.length) (hsm : smallWs ws) (hls : ∀ x ∈ ls, 0 ≤ x ∧ x < st.length) :
    Calls Try.prog 26 #[v0, v1, tv, lv, .string key, .int .u64 ts, v] w fun e w' => e = .returned (.int .i64 (writer st ws tk key ts vl ls)) ∧ Below w.heap.size w w' := by
  obtain ⟨i1, hi1, hy0, hy1, hy2⟩ := info_parts Try.info58
  obtain ⟨i2, hi2, hx0, hx1, hx2⟩ := info_parts Try.info61
  have HT := hide h2
  have HLV := hide h3
  have HV := hide h7
  have HSM := hide hsm
  have HLS := hide hls
  obtain ⟨_, a0, cap0, rfl, hrow0⟩ := h0
  obtain ⟨_, a1, cap1, rfl, hrow1⟩ := h1
  obtain ⟨_, a2, cap2, rfl, _⟩ := h2
  rw [List.length_map] at HT ⊢
  rw [List.length_map]
  obtain ⟨n, hn⟩ : ∃ n, n = st.length := ⟨_, rfl⟩
  rw [htk] at HT ⊢
  rw [← hn] at hst hws htk HLS HT ⊢
  have H0 : Hid (∀ i, i < n → ∃ g off, a0 = some ⟨g, off, none⟩ ∧ g < w.heap.size ∧ w.cell? ⟨g, off + i, none⟩ = some (.int .u64 (st.getD i 0))) := by
    intro i hi
    rcases hrow0 with h | ⟨g, off, rfl, hg, hc⟩
    · simp at h; rw [h] at hn; simp at hn; omega
    · exact ⟨g, off, rfl, hg, by rw [hc i (by rw [List.length_map]; omega), map_getD _ _ 0 _ (by omega)]⟩
  have H1 : Hid (∀ i, i < ws.length → ∃ g off a c, a1 = some ⟨g, off, none⟩ ∧ g < w.heap.size ∧ w.cell? ⟨g, off + i, none⟩ = some (.slice a (ws.getD i []).length c) ∧ Ps w (fun g => g < w.heap.size) (.slice a (ws.getD i []).length c) (ws.getD i [])) := by
    intro i hi
    rcases hrow1 with h | ⟨g, off, rfl, hg, hc⟩
    · rw [h] at hi; simp at hi
    · obtain ⟨u, hu, hp⟩ := hc i hi
      have hp' := hp
      obtain ⟨_, a, c, rfl, _⟩ := hp
      exact ⟨g, off, a, c, rfl, hg, hu, hp'⟩
  have HN := hide hn
  have HWN := hide hws
  rw [hws] at H1 ⊢
  clear hrow0 hrow1 hn hws hsm hls h3 h7
  go_enter Try.func26, Try.ntmps26
  go_wp2_with (at_make; refine wpList_make_full _ rfl _ _ 53 rfl w.heap.size 58 i1 (.agg #[.int .i64 0, .int .u64 0, .slice none 0 0, .slice none 0 0, .string ByteArray.empty, .int .u64 0, .int .i64 0, .int .i64 0]) 8 Try.underlying53 hi1 hy0 hy1 .i64 .i64 _ _ n rfl rfl rfl rfl (by rw [hy2]; omega) (by unfold maxLen; omega) (Nat.le_refl _) ?_)
  intro w1 hown hgrow
  have HLP := hide (made8 hown)
  have HFR : Hid (Free w1 w.heap.size (n * 8)) := fun j hj => ⟨⟨_, by rw [hown.cellAt j hj]; exact made_cell _ _ _ hj⟩, hown.frozenAt j⟩
  have hbel : Below w.heap.size w w1 := (Below.refl _ _).grown hgrow (Nat.le_refl _) (by intro k hk; cases hk)
  have hsz : w.heap.size < w1.heap.size := (hown.lt w.heap.size rfl).2
  have HB := hide hbel
  clear hown hgrow hbel
  go_wp2_with fail
  go_loopw [16, 26] (fun _ i wr => ∃ k : Nat, i = .int .i64 k ∧ k ≤ n ∧ Hid (∃ A, LP wr w.heap.size n A (fun _ => .slice none 0 0) ∧ ∀ j, j < k → A j = .int .u64 (st.getD j 0)) ∧ Hid (Free wr w.heap.size (n * 8)) ∧ Below w.heap.size w wr ∧ w.heap.size < wr.heap.size) (fun _ i _ => n - (intOf i).toNat)
  case atStart => exact ⟨0, rfl, Nat.zero_le _, ⟨_, HLP.out, fun j hj => by omega⟩, HFR.out, HB.out, hsz⟩
  case round =>
    obtain ⟨k, rfl, hk, hlp, hfr, hnx, hszr⟩ := hrel
    clear HLP HFR HB hsz
    by_cases hlt : k < n
    · obtain ⟨g, off, rfl, hg, hcell⟩ := H0.out k hlt
      obtain ⟨A, hA, hdone⟩ := hlp.out
      obtain ⟨x, hx⟩ : ∃ x, x = st.getD k 0 := ⟨_, rfl⟩
      have cb : wr.cell? ⟨g, off + k, none⟩ = some (.int .u64 x) := by rw [hx]; exact (hnx.cell (p := ⟨g, off + k, none⟩) hg).trans hcell
      obtain ⟨⟨z, hz⟩, hfz⟩ := hfr.out (k * 8 + 1) (by omega)
      have HX := hide hx
      have HA := hide hA
      have HD := hide hdone
      clear hx hcell hA hdone hlp
      go_wp2
      go_roundw
      case rel =>
        refine ⟨k + 1, by go_num, by omega, ⟨_, HA.out.set1 hlt, fun j hj => ?_⟩, hfr.out.set, hnx.setCell (Nat.le_refl _) _, by simpa [World.setCell] using hszr⟩
        show (if j = k then _ else _) = _
        by_cases e : j = k
        · subst e; rw [if_pos rfl, HX.out]
        · rw [if_neg e]; exact HD.out j (by omega)
      case measure => simp [intOf]; omega
    · have hkl : n = k := by omega
      subst hkl
      obtain ⟨A, hA, hdone⟩ := hlp.out
      have HA1 := hide hdone
      have HLP : Hid (LP wr w.heap.size n A (fun _ => .slice none 0 0)) := hA
      have HFR := hide hfr.out
      have HB := hide hnx
      clear hlp hA hdone hfr hnx hlt hk
      obtain ⟨wA, rfl⟩ : ∃ wA : World, wA = wr := ⟨_, rfl⟩
      go_wp2_with fail
      go_loopw [17, 40] (fun _ i wr => ∃ k : Nat, i = .int .i64 k ∧ k ≤ n ∧ Hid (∃ B, LP wr w.heap.size n A B ∧ ∀ j, j < k → ∃ a c, B j = .slice a (ws.getD j []).length c ∧ Ps wr (fun g => g ≠ w.heap.size ∧ g < wr.heap.size) (.slice a (ws.getD j []).length c) (ws.getD j [])) ∧
        Hid (Free wr w.heap.size (n * 8)) ∧ Below w.heap.size w wr ∧ w.heap.size < wr.heap.size) (fun _ i _ => n - (intOf i).toNat)
      case atStart => exact ⟨0, rfl, Nat.zero_le _, ⟨_, HLP.out, fun j hj => by omega⟩, HFR.out, HB.out, hszr⟩
      case round =>
        obtain ⟨k, rfl, hk, hlp, hfr, hnx, hszo⟩ := hrel
        clear HLP HFR HB hszr
        by_cases hlt : k < n
        · obtain ⟨g, off, a, c, rfl, hg, hcell, hps⟩ := H1.out k hlt
          have hsk := HSM.out.2 k (by rw [HWN.out]; exact hlt)
          obtain ⟨ps, hpe⟩ : ∃ ps, ps = ws.getD k [] := ⟨_, rfl⟩
          rw [← hpe] at hcell hps hsk
          have HPE := hide hpe
          clear hpe
          have hpl := hsk.1
          have hgr : g < wr.heap.size := by omega
          have cb : wr.cell? ⟨g, off + k, none⟩ = some (.slice a ps.length c) := (hnx.cell (p := ⟨g, off + k, none⟩) hg).trans hcell
          have HP : Hid (∀ k', k' < ps.length → ∃ g1 off1 u0 u1, a = some ⟨g1, off1, none⟩ ∧ g1 < w.heap.size ∧ w.cell? ⟨g1, off1 + k' * 2, none⟩ = some u0 ∧ w.cell? ⟨g1, off1 + k' * 2 + 1, none⟩ = some u1 ∧
              Bs w (fun g => g < w.heap.size) u0 (ps.getD k' ([], [])).1 ∧ Bs w (fun g => g < w.heap.size) u1 (ps.getD k' ([], [])).2) := by
            intro k' hk'
            obtain ⟨_, a', c', he, hP⟩ := hps
            injection he with he1 _ _
            subst he1
            rcases hP with h | ⟨g1, off1, h, hg1, hc⟩
            · rw [h] at hk'; simp at hk'
            · obtain ⟨u0, u1, e0, e1, b0, b1⟩ := hc k' hk'
              exact ⟨g1, off1, u0, u1, h, hg1, e0, e1, b0, b1⟩
          clear hcell hps hsk
          obtain ⟨wo, rfl⟩ : ∃ wo : World, wo = wr := ⟨_, rfl⟩
          go_wp2_with (at_make; refine wpList_make_full _ rfl _ _ 55 rfl wo.heap.size 61 i2 (.agg #[.slice none 0 0, .slice none 0 0]) 2 Try.underlying55 hi2 hx0 hx1 .i64 .i64 _ _ ps.length rfl rfl rfl rfl (by rw [hx2]; omega) (by unfold maxLen; omega) (Nat.le_refl _) ?_)
          intro w2 hown hgrow
          have hfree2 : Free w2 wo.heap.size (ps.length * 2) := fun j hj => ⟨⟨_, by rw [hown.cellAt j hj]; exact made_cell _ _ _ hj⟩, hown.frozenAt j⟩
          have hbel2 : Below wo.heap.size wo w2 := (Below.refl _ _).grown hgrow (Nat.le_refl _) (by intro k hk; cases hk)
          have hsz2 : wo.heap.size < w2.heap.size := (hown.lt wo.heap.size rfl).2
          have cb2 : w2.cell? ⟨g, off + k, none⟩ = some (.slice a ps.length c) := (hbel2.cell (p := ⟨g, off + k, none⟩) hgr).trans cb
          have HF2 := hide hfree2
          have HB2 := hide hbel2
          clear hown hgrow hfree2 hbel2
          go_wp2_with fail
          go_loopw [19, 58] (fun _ i wr => ∃ kk : Nat, i = .int .i64 kk ∧ kk ≤ ps.length ∧ Hid (Free wr wo.heap.size (ps.length * 2)) ∧
            Hid (∀ j, j < kk → ∃ u0 u1, wr.cell? ⟨wo.heap.size, j * 2, none⟩ = some u0 ∧ wr.cell? ⟨wo.heap.size, j * 2 + 1, none⟩ = some u1 ∧ Bs w (fun g => g < w.heap.size) u0 (ps.getD j ([], [])).1 ∧ Bs w (fun g => g < w.heap.size) u1 (ps.getD j ([], [])).2) ∧
            Below wo.heap.size wo wr ∧ wo.heap.size < wr.heap.size) (fun _ i _ => ps.length - (intOf i).toNat)
          case atStart => exact ⟨0, rfl, Nat.zero_le _, HF2.out, fun j hj => by omega, HB2.out, hsz2⟩
          case round =>
            obtain ⟨kk, rfl, hkk, hfr2, hdone2, hnx2, hszr2⟩ := hrel
            clear HF2 HB2 cb2 hsz2
            have hwb : Below w.heap.size w wr := hnx.trans (hnx2.mono (by omega))
            have c0 : wr.cell? ⟨g, off + k, none⟩ = some (.slice a ps.length c) := (hnx2.cell (p := ⟨g, off + k, none⟩) hgr).trans cb
            by_cases hlt2 : kk < ps.length
            · obtain ⟨g1, off1, u0, u1, rfl, hg1, e0, e1, b0, b1⟩ := HP.out kk hlt2
              have c1 : wr.cell? ⟨g1, off1 + kk * 2, none⟩ = some u0 := (hwb.cell (p := ⟨g1, off1 + kk * 2, none⟩) hg1).trans e0
              have c2 : wr.cell? ⟨g1, off1 + kk * 2 + 1, none⟩ = some u1 := (hwb.cell (p := ⟨g1, off1 + kk * 2 + 1, none⟩) hg1).trans e1
              obtain ⟨⟨z0, hz0⟩, hzf0⟩ := hfr2.out (kk * 2) (by omega)
              obtain ⟨⟨z1, hz1⟩, hzf1⟩ := hfr2.out (kk * 2 + 1) (by omega)
              have HB0 := hide b0
              have HB1 := hide b1
              obtain ⟨⟨_, x0, y0, hu0, _⟩, _⟩ := b0
              obtain ⟨⟨_, x1, y1, hu1, _⟩, _⟩ := b1
              obtain ⟨m0, hm0⟩ : ∃ m0, m0 = ((ps.getD kk ([], [])).1.map (Value.int .u8)).length := ⟨_, rfl⟩
              obtain ⟨m1, hm1⟩ : ∃ m1, m1 = ((ps.getD kk ([], [])).2.map (Value.int .u8)).length := ⟨_, rfl⟩
              rw [← hm0] at hu0
              rw [← hm1] at hu1
              subst hu0
              subst hu1
              have HR3 := hide (fun Wf => wpair_step (Wf := Wf) hlt2 hfr2.out HB0.out HB1.out hdone2.out)
              clear e0 e1 cb hwb hm0 hm1
              go_wp2_with fail
              go_region
              go_wp2
              go_roundw
              case rel =>
                have R := HR3.out _ rfl
                exact ⟨kk + 1, by go_num, by omega, R.1, R.2.1, ((hnx2.setCell (Nat.le_refl _) _).setCell (Nat.le_refl _) _).drew, by rw [R.2.2]; exact hszr2⟩
              case measure => simp [intOf]; omega
            · have hkl : kk = ps.length := by omega
              subst hkl
              obtain ⟨B, hB, hBd⟩ := hlp.out
              have frb : Free wr w.heap.size (n * 8) := hfr.out.keep (hnx2.block _ hszo)
              obtain ⟨⟨z0, hz0⟩, hzf0⟩ := frb (k * 8 + 3) (by omega)
              have HR3 := hide (fun Wf => wouter_step (Wf := Wf) hszo hnx hnx2 hszr2 hlt HPE.out hpl hB hBd hdone2.out)
              have FRB := hide frb
              clear hB hBd frb
              go_wp2
              go_roundw
              case rel =>
                have R := HR3.out _ rfl
                exact ⟨k + 1, by go_num, by omega, R.1, FRB.out.set, hwb.setCell (Nat.le_refl _) _, by rw [R.2]; omega⟩
              case measure => simp [intOf]; omega
        · have hkl : n = k := by omega
          subst hkl
          obtain ⟨B, hB, hBd⟩ := hlp.out
          have HBL := hide hB
          have HBD := hide hBd
          clear hB hBd hlp
          go_wp2_with fail
          obtain ⟨W3, hW3⟩ : ∃ W3, W3 = wr.alloc (.cells #[.slice (some ⟨w.heap.size, 0, none⟩) n n, .slice a2 n cap2, .slice none 0 0, .map none, .map none, .map none, .slice none 0 0] 68) := ⟨_, rfl⟩
          have k3 : Below wr.heap.size wr W3 := by rw [hW3]; exact (Below.refl _ _).alloc (Nat.le_refl _) _
          have s3 : W3.heap.size = wr.heap.size + 1 := by rw [hW3]; simp
          have p0 : W3.cell? ⟨wr.heap.size, 0, none⟩ = some (.slice (some ⟨w.heap.size, 0, none⟩) n n) := by rw [hW3, World.cell?_alloc_at _ _ _ _ rfl]; rfl
          have p1 : W3.cell? ⟨wr.heap.size, 1, none⟩ = some (.slice a2 n cap2) := by rw [hW3, World.cell?_alloc_at _ _ _ _ rfl]; rfl
          rw [← hW3]
          clear hW3
          have kw3 : Below w.heap.size w W3 := hnx.trans (k3.mono (by omega))
          have hlines : ∀ i, i < n → LineAt W3 (fun g => g < W3.heap.size) w.heap.size i (st.getD i 0) (ws.getD i []) := by
            intro i hi
            obtain ⟨q0, q1, q2, q3, q4, q5, q6, q7⟩ := (HBL.out.keep (k3.block _ hszo)) i hi
            obtain ⟨a, c, hBi, hp⟩ := HBD.out i hi
            rw [HA1.out i hi] at q1
            rw [hBi] at q3
            exact ⟨q0, q1, q2, ⟨a, c, q3, (hp.keep (keeps_sub (keeps_below k3) (fun g hg => hg.2))).sub (fun g hg => by omega)⟩, q4, q5, q6, q7⟩
          have hcon := writerOf_any wr.heap.size w.heap.size n n (.slice a2 n cap2) lv v st ws tk ls vl key ts W3 (by omega) p0 p1 (by omega) hst hlines ((HT.out.keep (keeps_below kw3)).sub (fun g hg => by omega)) htk ((HLV.out.keep (keeps_below kw3)).sub (fun g hg => by omega)) HLS.out ((HV.out.keep (keeps_below kw3)).sub (fun g hg => by omega))
          refine hcon.mono ?_
          rintro e w5 ⟨rfl, hb5⟩
          clear hcon hlines p0 p1
          go_wp2
          go_ret
          exact ⟨rfl, kw3.trans (hb5.mono (by omega))⟩

end Go.Proofs.Qxb6603228a
