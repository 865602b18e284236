/-
  The walk of writerOf.
-/
import Derived.Test.Qxb6603228aClos
import Derived.Deep.QuietTactic
import Derived.BigQuiet
namespace Go.Proofs.Qxb6603228a
open Go.RowKit

/-- One line of writerOf's loop: the writer so far, the next listed line. -/
def wstep (st : List Int) (ws : List (List (List Int × List Int))) (tk : List Bool) (key : ByteArray) (ts : Int) (vl : List Int) (W l : Int) : Int :=
  if tk.getD l.toNat false = true ∨ ts ≤ st.getD l.toNat 0 ∨ (0 ≤ W ∧ st.getD l.toNat 0 ≤ st.getD W.toNat 0) then W
  else if (ws.getD l.toNat []).any (hits key vl) = true then l else W

def writer (st : List Int) (ws : List (List (List Int × List Int))) (tk : List Bool) (key : ByteArray) (ts : Int) (vl : List Int) (ls : List Int) : Int := ls.foldl (wstep st ws tk key ts vl) (-1)

/-- A line in memory: eight cells. -/
def LineAt (w : World) (S : Nat → Prop) (gl i : Nat) (st : Int) (ps : List (List Int × List Int)) : Prop :=
  w.cell? ⟨gl, i * 8, none⟩ = some (.int .i64 0) ∧ w.cell? ⟨gl, i * 8 + 1, none⟩ = some (.int .u64 st) ∧ w.cell? ⟨gl, i * 8 + 2, none⟩ = some (.slice none 0 0) ∧
  (∃ a c, w.cell? ⟨gl, i * 8 + 3, none⟩ = some (.slice a ps.length c) ∧ Ps w S (.slice a ps.length c) ps) ∧ w.cell? ⟨gl, i * 8 + 4, none⟩ = some (.string ByteArray.empty) ∧ w.cell? ⟨gl, i * 8 + 5, none⟩ = some (.int .u64 0) ∧
  w.cell? ⟨gl, i * 8 + 6, none⟩ = some (.int .i64 0) ∧ w.cell? ⟨gl, i * 8 + 7, none⟩ = some (.int .i64 0)

theorem LineAt.keep {w w' : World} {S : Nat → Prop} {gl i : Nat} {st : Int} {ps : List (List Int × List Int)} (h : LineAt w S gl i st ps) (k : Keeps S w w') (hg : w'.heap[gl]? = w.heap[gl]?) : LineAt w' S gl i st ps := by
  obtain ⟨h0, h1, h2, ⟨a, c, h3, hp⟩, h4, h5, h6, h7⟩ := h
  have e : ∀ o, w'.cell? ⟨gl, o, none⟩ = w.cell? ⟨gl, o, none⟩ := fun o => World.cell?_of_block (a := ⟨gl, o, none⟩) hg
  exact ⟨(e _).trans h0, (e _).trans h1, (e _).trans h2, ⟨a, c, (e _).trans h3, hp.keep k⟩, (e _).trans h4, (e _).trans h5, (e _).trans h6, (e _).trans h7⟩

theorem LineAt.sub {w : World} {S T : Nat → Prop} {gl i : Nat} {st : Int} {ps : List (List Int × List Int)} (h : LineAt w S gl i st ps) (k : ∀ g, S g → T g) : LineAt w T gl i st ps := by
  obtain ⟨h0, h1, h2, ⟨a, c, h3, hp⟩, h4, h5, h6, h7⟩ := h
  exact ⟨h0, h1, h2, ⟨a, c, h3, hp.sub k⟩, h4, h5, h6, h7⟩

theorem take_snoc (ls : List Int) (k : Nat) (hk : k < ls.length) : ls.take (k + 1) = ls.take k ++ [ls.getD k 0] := by
  rw [List.take_add_one, List.getElem?_eq_getElem hk, List.getD_eq_getElem?_getD, List.getElem?_eq_getElem hk]; rfl

theorem writer_snoc (st : List Int) (ws : List (List (List Int × List Int))) (tk : List Bool) (key : ByteArray) (ts : Int) (vl ls : List Int) (k : Nat) (hk : k < ls.length) :
    writer st ws tk key ts vl (ls.take (k + 1)) = wstep st ws tk key ts vl (writer st ws tk key ts vl (ls.take k)) (ls.getD k 0) := by
  unfold writer
  rw [take_snoc ls k hk, List.foldl_append]; rfl

theorem writer_range (st : List Int) (ws : List (List (List Int × List Int))) (tk : List Bool) (key : ByteArray) (ts : Int) (vl : List Int) (n : Nat) (ls : List Int) (h : ∀ x ∈ ls, 0 ≤ x ∧ x < n) :
    writer st ws tk key ts vl ls = -1 ∨ (0 ≤ writer st ws tk key ts vl ls ∧ writer st ws tk key ts vl ls < n) := by
  have gen : ∀ (ls : List Int) (W : Int), (∀ x ∈ ls, 0 ≤ x ∧ x < n) → (W = -1 ∨ (0 ≤ W ∧ W < n)) → (ls.foldl (wstep st ws tk key ts vl) W = -1 ∨ (0 ≤ ls.foldl (wstep st ws tk key ts vl) W ∧ ls.foldl (wstep st ws tk key ts vl) W < n)) := by
    intro ls
    induction ls with
    | nil => intro W _ h; exact h
    | cons l ls ih =>
      intro W hl hW
      rw [List.foldl_cons]
      refine ih _ (fun x hx => hl x (List.mem_cons_of_mem _ hx)) ?_
      unfold wstep
      split
      · exact hW
      · split
        · exact .inr (hl l (List.mem_cons_self))
        · exact hW
  exact gen ls (-1) h (.inl rfl)

theorem wstep_skip (st : List Int) (ws : List (List (List Int × List Int))) (tk : List Bool) (key : ByteArray) (ts : Int) (vl : List Int) (W : Int) (i : Nat)
    (h : tk.getD i false = true ∨ ts ≤ st.getD i 0 ∨ (0 ≤ W ∧ st.getD i 0 ≤ st.getD W.toNat 0)) : wstep st ws tk key ts vl W (i : Int) = W := by
  unfold wstep
  rw [Int.toNat_natCast, if_pos h]

theorem wstep_go (st : List Int) (ws : List (List (List Int × List Int))) (tk : List Bool) (key : ByteArray) (ts : Int) (vl : List Int) (W : Int) (i : Nat)
    (h : ¬ (tk.getD i false = true ∨ ts ≤ st.getD i 0 ∨ (0 ≤ W ∧ st.getD i 0 ≤ st.getD W.toNat 0))) : wstep st ws tk key ts vl W (i : Int) = if (ws.getD i []).any (hits key vl) = true then (i : Int) else W := by
  unfold wstep
  rw [Int.toNat_natCast, if_neg h]

theorem keeps_alloc_drew (wr : World) (o : Obj) (d : Nat) : Keeps (fun g => g < wr.heap.size) wr ((wr.alloc o).drewN d) := fun k hk => Below.heap_alloc wr o k hk

set_option maxRecDepth 20000 in
set_option maxHeartbeats 1000000 in
theorem writerOf_any (bj gl n capl : Nat) (tv lv v : Value) (st : List Int) (ws : List (List (List Int × List Int))) (tk : List Bool) (ls vl : List Int) (key : ByteArray) (ts : Int) (w : World)
    (hbj : bj < w.heap.size) (cj0 : w.cell? ⟨bj, 0, none⟩ = some (.slice (some ⟨gl, 0, none⟩) n capl)) (cj1 : w.cell? ⟨bj, 1, none⟩ = some tv) (hgl : gl < w.heap.size) (_hn : n ≤ 1048576)
    (hL : ∀ i, i < n → LineAt w (fun g => g < w.heap.size) gl i (st.getD i 0) (ws.getD i [])) (htk : Row w (fun g => g < w.heap.size) tv (tk.map Value.bool)) (htl : tk.length = n)
    (hlv : Row w (fun g => g < w.heap.size) lv (ls.map (Value.int .i64))) (hls : ∀ x ∈ ls, 0 ≤ x ∧ x < n) (hv : Bs w (fun g => g < w.heap.size) v vl) :
    Calls Try.prog 31 #[.pointer (some ⟨bj, 0, none⟩), lv, .agg #[.string key, .int .u64 ts], v] w fun e w' => e = .returned (.int .i64 (writer st ws tk key ts vl ls)) ∧ Below w.heap.size w w' := by
  obtain ⟨hll, al, capv, rfl, hlrow⟩ := hlv
  rw [List.length_map] at hll ⊢
  have HV := hide hv
  obtain ⟨⟨_, av, cv, rfl, _⟩, _⟩ := hv
  rw [List.length_map] at HV ⊢
  obtain ⟨_, at', ct, rfl, htrow⟩ := htk
  rw [List.length_map] at cj1
  have HLS : Hid (∀ k, k < ls.length → ∃ g off, ∃ i : Nat, al = some ⟨g, off, none⟩ ∧ g < w.heap.size ∧ i < n ∧ ls.getD k 0 = (i : Int) ∧ w.cell? ⟨g, off + k, none⟩ = some (.int .i64 (i : Int))) := by
    intro k hk
    rcases hlrow with h | ⟨g, off, rfl, hg, hc⟩
    · simp at h; rw [h] at hk; simp at hk
    · have hx := hls (ls.getD k 0) (by rw [List.getD_eq_getElem?_getD, List.getElem?_eq_getElem hk]; exact List.getElem_mem hk)
      have e : ((ls.getD k 0).toNat : Int) = ls.getD k 0 := by omega
      exact ⟨g, off, (ls.getD k 0).toNat, rfl, hg, by omega, e.symm, by rw [hc k (by simpa using hk), map_getD _ _ 0 _ hk, e]⟩
  have HTK : Hid (∀ i, i < n → ∃ g off, at' = some ⟨g, off, none⟩ ∧ g < w.heap.size ∧ w.cell? ⟨g, off + i, none⟩ = some (.bool (tk.getD i false))) := by
    intro i hi
    rcases htrow with h | ⟨g, off, rfl, hg, hc⟩
    · simp at h; rw [h] at htl; simp at htl; omega
    · exact ⟨g, off, rfl, hg, by rw [hc i (by simpa [htl] using hi), map_getD _ _ false _ (by omega)]⟩
  have HL := hide hL
  have HCJ0 := hide cj0
  have HCJ1 := hide cj1
  have HLSR := hide hls
  clear hlrow htrow hL cj0 cj1 hls
  go_enter Try.func31, Try.ntmps31
  go_wp2_with fail
  obtain ⟨W0, hW0⟩ : ∃ W0, W0 = (w.alloc (.cells #[.string key, .int .u64 ts] 71)).alloc (.cells #[.slice av vl.length cv] 35) := ⟨_, rfl⟩
  have k0 : Below w.heap.size w W0 := by rw [hW0]; exact ((Below.refl _ _).alloc (Nat.le_refl _) _).alloc (by simp) _
  have s0 : W0.heap.size = w.heap.size + 2 := by rw [hW0]; simp
  have i0 : W0.cell? ⟨w.heap.size, 0, none⟩ = some (.string key) := by rw [hW0]; simp
  have i1 : W0.cell? ⟨w.heap.size, 1, none⟩ = some (.int .u64 ts) := by rw [hW0]; simp
  have i2 : W0.cell? ⟨w.heap.size + 1, 0, none⟩ = some (.slice av vl.length cv) := by rw [hW0, World.cell?_alloc_at _ _ _ _ (by simp)]; rfl
  rw [← hW0]
  have HI0 := hide i0
  have HI1 := hide i1
  have HI2 := hide i2
  have HK0 := hide k0
  have HS0 := hide s0
  clear hW0 i0 i1 i2 k0 s0
  go_loopw [9, 15] (fun t i wr => ∃ k : Nat, i = .int .i64 k ∧ k ≤ ls.length ∧ (∃ W : Int, t = .int .i64 W ∧ Hid (W = writer st ws tk key ts vl (ls.take k))) ∧ Below (w.heap.size + 2) W0 wr) (fun _ i _ => ls.length - (intOf i).toNat)
  case atStart => exact ⟨0, rfl, Nat.zero_le _, ⟨-1, rfl, rfl⟩, Below.refl _ _⟩
  case round =>
    obtain ⟨k, rfl, hk, ⟨W, rfl, hW⟩, hnx⟩ := hrel
    by_cases hlt : k < ls.length
    · obtain ⟨g, off, i, rfl, hg, hi, hli, hlc⟩ := HLS.out k hlt
      obtain ⟨gt, offt, rfl, hgt, htc⟩ := HTK.out i hi
      have hb0 : Below w.heap.size w wr := HK0.out.trans (hnx.mono (by omega))
      have hszr : w.heap.size + 2 ≤ wr.heap.size := by have := hnx.size; rw [HS0.out] at this; exact this
      have kp := keeps_below hb0
      have hrange := writer_range st ws tk key ts vl n (ls.take k) (fun x hx => HLSR.out x (List.mem_of_mem_take hx))
      rw [← hW.out] at hrange
      have hstep := writer_snoc st ws tk key ts vl ls k hlt
      rw [← hW.out, hli] at hstep
      have HST := hide hstep
      obtain ⟨q0, q1, q2, ⟨au, cu, q3, hpu⟩, q4, q5, q6, q7⟩ := (HL.out i hi).keep kp (hb0.block gl hgl)
      have HPU := hide hpu
      have j0 : wr.cell? ⟨bj, 0, none⟩ = some (.slice (some ⟨gl, 0, none⟩) n capl) := (hb0.cell (p := ⟨bj, 0, none⟩) hbj).trans HCJ0.out
      have j1 : wr.cell? ⟨bj, 1, none⟩ = some (.slice (some ⟨gt, offt, none⟩) tk.length ct) := (hb0.cell (p := ⟨bj, 1, none⟩) hbj).trans HCJ1.out
      have lc : wr.cell? ⟨g, off + k, none⟩ = some (.int .i64 (i : Int)) := (hb0.cell (p := ⟨g, off + k, none⟩) hg).trans hlc
      have tc : wr.cell? ⟨gt, offt + i, none⟩ = some (.bool (tk.getD i false)) := (hb0.cell (p := ⟨gt, offt + i, none⟩) hgt).trans htc
      have d0 : wr.cell? ⟨w.heap.size, 0, none⟩ = some (.string key) := (hnx.cell (p := ⟨w.heap.size, 0, none⟩) (by show w.heap.size < _; omega)).trans HI0.out
      have d1 : wr.cell? ⟨w.heap.size, 1, none⟩ = some (.int .u64 ts) := (hnx.cell (p := ⟨w.heap.size, 1, none⟩) (by show w.heap.size < _; omega)).trans HI1.out
      have d2 : wr.cell? ⟨w.heap.size + 1, 0, none⟩ = some (.slice av vl.length cv) := (hnx.cell (p := ⟨w.heap.size + 1, 0, none⟩) (by show w.heap.size + 1 < _; omega)).trans HI2.out
      have r0 : bj < wr.heap.size := by omega
      have r1 : gt < wr.heap.size := by omega
      have r2 : gl < wr.heap.size := by omega
      have r3 : w.heap.size < wr.heap.size := by omega
      have r4 : w.heap.size + 1 < wr.heap.size := by omega
      have r5 : g < wr.heap.size := by omega
      have r6 : i < tk.length := by omega
      obtain ⟨b, hb⟩ : ∃ b, b = tk.getD i false := ⟨_, rfl⟩
      obtain ⟨x, hx⟩ : ∃ x, x = st.getD i 0 := ⟨_, rfl⟩
      rw [← hb] at tc
      rw [← hx] at q1
      have HBB := hide hb
      have HX := hide hx
      clear hb hx hstep hlc htc hpu hli
      cases b with
      | true =>
        go_wp2_with fail
        go_quiet (fail)
        go_wp2
        go_roundw
        case rel => exact ⟨k + 1, by go_num, by omega, ⟨W, rfl, by rw [HST.out]; exact (wstep_skip st ws tk key ts vl _ i (.inl HBB.out.symm)).symm⟩, below_drewN (hnx.alloc (by omega) _) _⟩
        case measure => simp [intOf]; omega
      | false =>
        by_cases hts : ts ≤ x
        · go_wp2_with fail
          go_quiet (fail)
          go_wp2
          go_roundw
          case rel => exact ⟨k + 1, by go_num, by omega, ⟨W, rfl, by rw [HST.out]; exact (wstep_skip st ws tk key ts vl _ i (.inr (.inl (by rw [← HX.out]; exact hts)))).symm⟩, below_drewN (hnx.alloc (by omega) _) _⟩
          case measure => simp [intOf]; omega
        have hdts : decide (ts ≤ x) = false := decide_eq_false hts
        have hcon : ∀ o d, Calls Try.prog 36 #[.slice au (ws.getD i []).length cu, .func (.func 37) #[] #[.pointer (some ⟨w.heap.size, 0, none⟩), .pointer (some ⟨w.heap.size + 1, 0, none⟩)]] ((wr.alloc o).drewN d) fun e w' => e = .returned (.bool ((ws.getD i []).any (hits key vl))) ∧ Below ((wr.alloc o).drewN d).heap.size ((wr.alloc o).drewN d) w' := by
          intro o d
          have hs2 : ((wr.alloc o).drewN d).heap.size = wr.heap.size + 1 := by show (wr.heap.push o).size = _; simp
          have kk := keeps_alloc_drew wr o d
          exact containsFunc_any _ (.slice av vl.length cv) _ vl key w.heap.size (w.heap.size + 1) _ ((HPU.out.keep (keeps_sub kk (fun g hg => by omega))).sub (fun g hg => by omega)) (((HV.out.keep kp).keep (keeps_sub kk (fun g hg => by omega))).sub (fun g hg => by omega)) (by omega) (by omega)
            ((kk.cell (by omega)).trans d0) ((kk.cell (by omega)).trans d2)
        rcases hrange with hm1 | ⟨hw0, hwn⟩
        · subst hm1
          have hgo := wstep_go st ws tk key ts vl (-1) i (by rw [← HBB.out, ← HX.out]; simp only [Bool.false_eq_true, false_or]; omega)
          rw [← HST.out] at hgo
          have HGO := hide hgo
          clear hgo
          cases hany : (ws.getD i []).any (hits key vl) with
          | true =>
            rw [hany] at hcon
            have HCON := hide hcon
            have HAN := hide hany
            clear hcon hany
            go_wp2_with fail
            go_quiet (fail)
            go_wp2_with fail
            refine (HCON.out _ _).mono ?_
            rintro e w5 ⟨rfl, hb5⟩
            go_wp2
            go_roundw
            case rel => exact ⟨k + 1, by go_num, by omega, ⟨(i : Int), rfl, by rw [HGO.out, HAN.out]; rfl⟩, (below_drewN (hnx.alloc (by omega) _) _).trans (hb5.mono (by show w.heap.size + 2 ≤ (wr.heap.push _).size; simp; omega))⟩
            case measure => simp [intOf]; omega
          | false =>
            rw [hany] at hcon
            have HCON := hide hcon
            have HAN := hide hany
            clear hcon hany
            go_wp2_with fail
            go_quiet (fail)
            go_wp2_with fail
            refine (HCON.out _ _).mono ?_
            rintro e w5 ⟨rfl, hb5⟩
            go_wp2
            go_roundw
            case rel => exact ⟨k + 1, by go_num, by omega, ⟨(-1), rfl, by rw [HGO.out, HAN.out]; rfl⟩, (below_drewN (hnx.alloc (by omega) _) _).trans (hb5.mono (by show w.heap.size + 2 ≤ (wr.heap.push _).size; simp; omega))⟩
            case measure => simp [intOf]; omega
        · obtain ⟨m, rfl⟩ : ∃ m : Nat, W = m := ⟨W.toNat, by omega⟩
          have hmn : m < n := by omega
          obtain ⟨y, hy⟩ : ∃ y, y = st.getD m 0 := ⟨_, rfl⟩
          have qm := ((HL.out m hmn).keep kp (hb0.block gl hgl)).2.1
          rw [← hy] at qm
          have HY := hide hy
          clear hy
          by_cases hxy : x ≤ y
          · go_wp2_with fail
            go_quiet (fail)
            go_wp2
            go_roundw
            case rel => exact ⟨k + 1, by go_num, by omega, ⟨(m : Int), rfl, by rw [HST.out]; exact (wstep_skip st ws tk key ts vl _ i (.inr (.inr ⟨by omega, by rw [Int.toNat_natCast, ← HX.out, ← HY.out]; exact hxy⟩))).symm⟩, below_drewN (hnx.alloc (by omega) _) _⟩
            case measure => simp [intOf]; omega
          have hdxy : decide (x ≤ y) = false := decide_eq_false hxy
          have hgo := wstep_go st ws tk key ts vl (m : Int) i (by rw [← HBB.out, ← HX.out, Int.toNat_natCast, ← HY.out]; simp only [Bool.false_eq_true, false_or]; omega)
          rw [← HST.out] at hgo
          have HGO := hide hgo
          clear hgo
          cases hany : (ws.getD i []).any (hits key vl) with
          | true =>
            rw [hany] at hcon
            have HCON := hide hcon
            have HAN := hide hany
            clear hcon hany
            go_wp2_with fail
            go_quiet (fail)
            go_wp2_with fail
            refine (HCON.out _ _).mono ?_
            rintro e w5 ⟨rfl, hb5⟩
            go_wp2
            go_roundw
            case rel => exact ⟨k + 1, by go_num, by omega, ⟨(i : Int), rfl, by rw [HGO.out, HAN.out]; rfl⟩, (below_drewN (hnx.alloc (by omega) _) _).trans (hb5.mono (by show w.heap.size + 2 ≤ (wr.heap.push _).size; simp; omega))⟩
            case measure => simp [intOf]; omega
          | false =>
            rw [hany] at hcon
            have HCON := hide hcon
            have HAN := hide hany
            clear hcon hany
            go_wp2_with fail
            go_quiet (fail)
            go_wp2_with fail
            refine (HCON.out _ _).mono ?_
            rintro e w5 ⟨rfl, hb5⟩
            go_wp2
            go_roundw
            case rel => exact ⟨k + 1, by go_num, by omega, ⟨(m : Int), rfl, by rw [HGO.out, HAN.out]; rfl⟩, (below_drewN (hnx.alloc (by omega) _) _).trans (hb5.mono (by show w.heap.size + 2 ≤ (wr.heap.push _).size; simp; omega))⟩
            case measure => simp [intOf]; omega
    · have hkl : k = ls.length := by omega
      subst hkl
      have hWl := hW.out
      rw [List.take_length] at hWl
      have HW := hide hWl
      clear hWl
      go_wp2
      go_ret
      exact ⟨ret_int HW.out, HK0.out.trans (hnx.mono (by omega))⟩

end Go.Proofs.Qxb6603228a
