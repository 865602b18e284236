/-
  The walk of modelWriter: it answers what writerOf answers.
-/
import Derived.Test.Qxb6603228aQual
import Derived.Test.Qxb6603228aIn
namespace Go.Proofs.Qxb6603228a
open Go.RowKit

theorem getD_mem {ls : List Int} {k : Nat} (h : k < ls.length) : ls.getD k 0 ∈ ls := by
  rw [List.getD_eq_getElem?_getD, List.getElem?_eq_getElem h]; exact List.getElem_mem h

theorem mem_getD {ls : List Int} {x : Int} (h : x ∈ ls) : ∃ k, k < ls.length ∧ ls.getD k 0 = x := by
  obtain ⟨j, hj, rfl⟩ := List.getElem_of_mem h
  exact ⟨j, hj, by rw [List.getD_eq_getElem?_getD, List.getElem?_eq_getElem hj]; rfl⟩

/-- The first listed of the qualifying lines of the greatest start is the writer. -/
theorem first_is_writer (st : List Int) (ws : List (List (List Int × List Int))) (tk : List Bool) (key : ByteArray) (ts : Int) (vl ls : List Int) (best : Int) (k : Nat) (h : ∀ x ∈ ls, 0 ≤ x) (hk : k < ls.length)
    (hq : qual st ws tk key ts vl (ls.getD k 0)) (hs : st.getD (ls.getD k 0).toNat 0 = best) (hmax : ∀ j, j < ls.length → qual st ws tk key ts vl (ls.getD j 0) → st.getD (ls.getD j 0).toNat 0 ≤ best)
    (hfirst : ∀ j, j < k → ¬ (qual st ws tk key ts vl (ls.getD j 0) ∧ st.getD (ls.getD j 0).toNat 0 = best)) : writer st ws tk key ts vl ls = ls.getD k 0 := by
  rcases writer_inv st ws tk key ts vl ls h with ⟨_, hno⟩ | ⟨h0, hqW, hmx, p1, p2, hp, hf⟩
  · exact absurd hq (hno _ (getD_mem hk))
  · obtain ⟨W, hW⟩ : ∃ W, W = writer st ws tk key ts vl ls := ⟨_, rfl⟩
    rw [← hW] at h0 hqW hmx hp hf ⊢
    have hpl : p1.length < ls.length := by rw [hp]; simp
    have hWp : ls.getD p1.length 0 = W := by rw [hp]; simp
    have e1 : st.getD W.toNat 0 ≤ best := by have := hmax p1.length hpl (by rw [hWp]; exact hqW); rw [hWp] at this; exact this
    have e2 : best ≤ st.getD W.toNat 0 := by rw [← hs]; exact hmx _ (getD_mem hk) hq
    rcases Nat.lt_trichotomy k p1.length with hlt | heq | hgt
    · have hm : ls.getD k 0 ∈ p1 := by
        have : ls.getD k 0 = p1.getD k 0 := by rw [hp]; simp only [List.getD_eq_getElem?_getD, List.getElem?_append_left hlt]
        rw [this]; exact getD_mem hlt
      have := hf _ hm hq
      omega
    · rw [heq, hWp]
    · exact absurd ⟨by rw [hWp]; exact hqW, by rw [hWp]; omega⟩ (hfirst p1.length hgt)

theorem none_is_writer (st : List Int) (ws : List (List (List Int × List Int))) (tk : List Bool) (key : ByteArray) (ts : Int) (vl ls : List Int) (h : ∀ x ∈ ls, 0 ≤ x)
    (hno : ∀ j, j < ls.length → ¬ qual st ws tk key ts vl (ls.getD j 0)) : writer st ws tk key ts vl ls = -1 := by
  rcases writer_inv st ws tk key ts vl ls h with ⟨hw, _⟩ | ⟨_, hqW, _, p1, p2, hp, _⟩
  · exact hw
  · obtain ⟨W, hW⟩ : ∃ W, W = writer st ws tk key ts vl ls := ⟨_, rfl⟩
    rw [← hW] at hqW hp
    have hpl : p1.length < ls.length := by rw [hp]; simp
    have hWp : ls.getD p1.length 0 = W := by rw [hp]; simp
    exact absurd (by rw [hWp]; exact hqW) (hno p1.length hpl)

theorem qual_iff (st : List Int) (ws : List (List (List Int × List Int))) (tk : List Bool) (key : ByteArray) (ts : Int) (vl : List Int) (i : Nat) : qualB st ws tk key ts vl i = true ↔ qual st ws tk key ts vl (i : Int) := by
  unfold qualB qual
  rw [Int.toNat_natCast]
  simp

/-- What the first loop knows. -/
def Best (q : Int → Prop) (st ls : List Int) (k : Nat) (best : Int) (found : Bool) : Prop :=
  (found = false ∧ ∀ j, j < k → ¬ q (ls.getD j 0)) ∨
  (found = true ∧ (∃ j, j < k ∧ q (ls.getD j 0) ∧ st.getD (ls.getD j 0).toNat 0 = best) ∧ ∀ j, j < k → q (ls.getD j 0) → st.getD (ls.getD j 0).toNat 0 ≤ best)

theorem best_no {q : Int → Prop} {st ls : List Int} {k : Nat} {best : Int} {found : Bool} (h : Best q st ls k best found) (hn : ¬ q (ls.getD k 0)) : Best q st ls (k + 1) best found := by
  rcases h with ⟨hf, hno⟩ | ⟨hf, ⟨j, hj, hq, hs⟩, hm⟩
  · refine .inl ⟨hf, fun j hj => ?_⟩
    by_cases e : j = k
    · subst e; exact hn
    · exact hno j (by omega)
  · refine .inr ⟨hf, ⟨j, by omega, hq, hs⟩, fun j hj hq => ?_⟩
    by_cases e : j = k
    · subst e; exact absurd hq hn
    · exact hm j (by omega) hq

theorem best_keep {q : Int → Prop} {st ls : List Int} {k : Nat} {best : Int} (h : Best q st ls k best true) (hle : st.getD (ls.getD k 0).toNat 0 ≤ best) : Best q st ls (k + 1) best true := by
  rcases h with ⟨hf, _⟩ | ⟨hf, ⟨j, hj, hq, hs⟩, hm⟩
  · cases hf
  · refine .inr ⟨hf, ⟨j, by omega, hq, hs⟩, fun j hj hq => ?_⟩
    by_cases e : j = k
    · subst e; exact hle
    · exact hm j (by omega) hq

theorem best_new {q : Int → Prop} {st ls : List Int} {k : Nat} {best : Int} {found : Bool} (h : Best q st ls k best found) (hq : q (ls.getD k 0)) (hlt : found = true → best < st.getD (ls.getD k 0).toNat 0) :
    Best q st ls (k + 1) (st.getD (ls.getD k 0).toNat 0) true := by
  refine .inr ⟨rfl, ⟨k, by omega, hq, rfl⟩, fun j hj hqj => ?_⟩
  by_cases e : j = k
  · subst e; exact Int.le_refl _
  · rcases h with ⟨_, hno⟩ | ⟨hf, _, hm⟩
    · exact absurd hqj (hno j (by omega))
    · have := hm j (by omega) hqj
      have := hlt hf
      omega

set_option maxRecDepth 20000 in
set_option maxHeartbeats 1000000 in
theorem model_any (v0 v1 v2 v3 v7 : Value) (key : ByteArray) (ts : Int) (st : List Int) (ws : List (List (List Int × List Int))) (tk : List Bool) (ls vl : List Int) (w : World)
    (hin : In w (fun g => g < w.heap.size) v0 v1 v2 v3 v7 st ws tk ls vl) (hkey : key.size ≤ 9223372036854775807) (hws : ws.length = st.length) (htk : tk.length = st.length) (hls : ∀ x ∈ ls, 0 ≤ x ∧ x < st.length) (hlen : ls.length ≤ 1048576) :
    Calls Try.prog 27 #[v0, v1, v2, v3, .string key, .int .u64 ts, v7] w fun e w' => e = .returned (.int .i64 (writer st ws tk key ts vl ls)) ∧ Below w.heap.size w w' := by
  have HIN := hide hin
  obtain ⟨⟨_, a0, cap0, e0, hrow0⟩, _, _, ⟨_, a3, cap3, e3, hrow3⟩, _⟩ := hin
  rw [List.length_map] at e0 e3 hrow0 hrow3
  subst e0
  subst e3
  have HLS : Hid (∀ k, k < ls.length → ∃ g off, ∃ i : Nat, a3 = some ⟨g, off, none⟩ ∧ g < w.heap.size ∧ i < st.length ∧ ls.getD k 0 = (i : Int) ∧ w.cell? ⟨g, off + k, none⟩ = some (.int .i64 (i : Int))) := by
    intro k hk
    rcases hrow3 with h | ⟨g, off, rfl, hg, hc⟩
    · simp at h; rw [h] at hk; simp at hk
    · have hx := hls (ls.getD k 0) (getD_mem hk)
      have e : ((ls.getD k 0).toNat : Int) = ls.getD k 0 := by omega
      exact ⟨g, off, (ls.getD k 0).toNat, rfl, hg, by omega, e.symm, by rw [hc k hk, map_getD _ _ 0 _ hk, e]⟩
  have HST : Hid (∀ i, i < st.length → ∃ g off, a0 = some ⟨g, off, none⟩ ∧ g < w.heap.size ∧ w.cell? ⟨g, off + i, none⟩ = some (.int .u64 (st.getD i 0))) := by
    intro i hi
    rcases hrow0 with h | ⟨g, off, rfl, hg, hc⟩
    · simp at h; rw [h] at hi; simp at hi
    · exact ⟨g, off, rfl, hg, by rw [hc i hi, map_getD _ _ 0 _ hi]⟩
  have HWS := hide hws
  have HTK := hide htk
  have HR := hide hls
  clear hrow0 hrow3 hws htk hls
  go_enter Try.func27, Try.ntmps27
  go_wp2_with fail
  go_loopw [15, 16, 23] (fun b f i wr => ∃ k : Nat, i = .int .i64 k ∧ k ≤ ls.length ∧ (∃ best : Int, ∃ found : Bool, b = .int .u64 best ∧ f = .bool found ∧ Hid (Best (qual st ws tk key ts vl) st ls k best found)) ∧ Below w.heap.size w wr) (fun _ _ i _ => ls.length - (intOf i).toNat)
  case atStart => exact ⟨0, rfl, Nat.zero_le _, ⟨0, false, rfl, rfl, .inl ⟨rfl, fun j hj => by omega⟩⟩, Below.refl _ _⟩
  case round =>
    obtain ⟨k, rfl, hk, ⟨best, found, rfl, rfl, hbest⟩, hnx⟩ := hrel
    by_cases hlt : k < ls.length
    · obtain ⟨g, off, i, rfl, hg, hi, hli, hlc⟩ := HLS.out k hlt
      obtain ⟨g0, off0, rfl, hg0, hsc⟩ := HST.out i hi
      have hsz := hnx.size
      have lc : wr.cell? ⟨g, off + k, none⟩ = some (.int .i64 (i : Int)) := (hnx.cell (p := ⟨g, off + k, none⟩) hg).trans hlc
      have hinr := HIN.out.on hnx
      have hcon := qualifies_any i st.length _ _ _ _ st ws tk vl key ts wr hinr.1 hinr.2.1 hinr.2.2.1 hinr.2.2.2.2 rfl HWS.out HTK.out hkey hi
      have HLI := hide hli
      clear hli hlc hinr
      cases hq : qualB st ws tk key ts vl i with
      | false =>
        rw [hq] at hcon
        have HCON := hide hcon
        have HN : Hid (¬ qual st ws tk key ts vl (ls.getD k 0)) := by rw [HLI.out]; exact fun h => by rw [(qual_iff st ws tk key ts vl i).2 h] at hq; cases hq
        clear hcon hq hsc
        go_wp2_with fail
        refine HCON.out.mono ?_
        rintro e w1 ⟨rfl, hb1⟩
        go_wp2
        go_roundw
        case rel => exact ⟨k + 1, by go_num, by omega, ⟨best, found, rfl, rfl, best_no hbest.out HN.out⟩, hnx.trans (hb1.mono hsz)⟩
        case measure => simp [intOf]; omega
      | true =>
        rw [hq] at hcon
        have HCON := hide hcon
        have HY : Hid (qual st ws tk key ts vl (ls.getD k 0)) := by rw [HLI.out]; exact (qual_iff st ws tk key ts vl i).1 hq
        obtain ⟨x, hx⟩ : ∃ x, x = st.getD i 0 := ⟨_, rfl⟩
        rw [← hx] at hsc
        have HX : Hid (x = st.getD (ls.getD k 0).toNat 0) := by show _ = _; rw [HLI.out, Int.toNat_natCast]; exact hx
        have HSC := hide hsc
        clear hcon hq hx hsc
        go_wp2_with fail
        refine HCON.out.mono ?_
        rintro e w1 ⟨rfl, hb1⟩
        have sc : w1.cell? ⟨g0, off0 + i, none⟩ = some (.int .u64 x) := (hb1.cell (p := ⟨g0, off0 + i, none⟩) (by show g0 < wr.heap.size; omega)).trans ((hnx.cell (p := ⟨g0, off0 + i, none⟩) hg0).trans HSC.out)
        cases found with
        | false =>
          go_wp2
          go_roundw
          case rel => exact ⟨k + 1, by go_num, by omega, ⟨x, true, rfl, rfl, by rw [HX.out]; exact best_new hbest.out HY.out (fun h => by cases h)⟩, hnx.trans (hb1.mono hsz)⟩
          case measure => simp [intOf]; omega
        | true =>
          by_cases hbx : best < x
          · go_wp2
            go_roundw
            case rel => exact ⟨k + 1, by go_num, by omega, ⟨x, true, rfl, rfl, by rw [HX.out]; exact best_new hbest.out HY.out (fun _ => by rw [← HX.out]; exact hbx)⟩, hnx.trans (hb1.mono hsz)⟩
            case measure => simp [intOf]; omega
          · go_wp2
            go_roundw
            case rel => exact ⟨k + 1, by go_num, by omega, ⟨best, true, rfl, rfl, best_keep hbest.out (by rw [← HX.out]; omega)⟩, hnx.trans (hb1.mono hsz)⟩
            case measure => simp [intOf]; omega
    · have hkl : k = ls.length := by omega
      subst hkl
      cases found with
      | false =>
        have HW : Hid (writer st ws tk key ts vl ls = -1) := by
          refine none_is_writer st ws tk key ts vl ls (fun x hx => (HR.out x hx).1) ?_
          rcases hbest.out with ⟨_, h⟩ | ⟨h, _⟩
          · exact h
          · cases h
        go_wp2
        go_ret
        exact ⟨ret_int HW.out.symm, hnx⟩
      | true =>
        obtain ⟨_, ⟨jb, hjb, hqb, hsb⟩, hmax⟩ : true = true ∧ (∃ j, j < ls.length ∧ qual st ws tk key ts vl (ls.getD j 0) ∧ st.getD (ls.getD j 0).toNat 0 = best) ∧ ∀ j, j < ls.length → qual st ws tk key ts vl (ls.getD j 0) → st.getD (ls.getD j 0).toNat 0 ≤ best := by
          rcases hbest.out with ⟨h, _⟩ | h
          · cases h
          · exact h
        have HQB := hide hqb
        have HSB := hide hsb
        have HMAX := hide hmax
        clear hqb hsb hmax hbest
        obtain ⟨wo, rfl⟩ : ∃ wo : World, wo = wr := ⟨_, rfl⟩
        go_wp2_with fail
        go_loopw [20, 54] (fun _ i wr => ∃ k : Nat, i = .int .i64 k ∧ k ≤ ls.length ∧ Hid (∀ j, j < k → ¬ (qual st ws tk key ts vl (ls.getD j 0) ∧ st.getD (ls.getD j 0).toNat 0 = best)) ∧ Below w.heap.size w wr) (fun _ i _ => ls.length - (intOf i).toNat)
        case atStart => exact ⟨0, rfl, Nat.zero_le _, fun j hj => by omega, hnx⟩
        case round =>
          obtain ⟨k, rfl, hk, hno, hnx2⟩ := hrel
          clear hnx
          by_cases hlt : k < ls.length
          · obtain ⟨g, off, i, rfl, hg, hi, hli, hlc⟩ := HLS.out k hlt
            obtain ⟨g0, off0, rfl, hg0, hsc⟩ := HST.out i hi
            have hsz := hnx2.size
            have lc : wr.cell? ⟨g, off + k, none⟩ = some (.int .i64 (i : Int)) := (hnx2.cell (p := ⟨g, off + k, none⟩) hg).trans hlc
            have hinr := HIN.out.on hnx2
            have hcon := qualifies_any i st.length _ _ _ _ st ws tk vl key ts wr hinr.1 hinr.2.1 hinr.2.2.1 hinr.2.2.2.2 rfl HWS.out HTK.out hkey hi
            have HLI := hide hli
            clear hli hlc hinr
            cases hq : qualB st ws tk key ts vl i with
            | false =>
              rw [hq] at hcon
              have HCON := hide hcon
              have HN : Hid (¬ qual st ws tk key ts vl (ls.getD k 0)) := by rw [HLI.out]; exact fun h => by rw [(qual_iff st ws tk key ts vl i).2 h] at hq; cases hq
              clear hcon hq hsc
              go_wp2_with fail
              refine HCON.out.mono ?_
              rintro e w1 ⟨rfl, hb1⟩
              go_wp2
              go_roundw
              case rel =>
                refine ⟨k + 1, by go_num, by omega, fun j hj => ?_, hnx2.trans (hb1.mono hsz)⟩
                by_cases e : j = k
                · subst e; exact fun h => HN.out h.1
                · exact hno.out j (by omega)
              case measure => simp [intOf]; omega
            | true =>
              rw [hq] at hcon
              have HCON := hide hcon
              have HY : Hid (qual st ws tk key ts vl (ls.getD k 0)) := by rw [HLI.out]; exact (qual_iff st ws tk key ts vl i).1 hq
              obtain ⟨x, hx⟩ : ∃ x, x = st.getD i 0 := ⟨_, rfl⟩
              rw [← hx] at hsc
              have HX : Hid (x = st.getD (ls.getD k 0).toNat 0) := by show _ = _; rw [HLI.out, Int.toNat_natCast]; exact hx
              have HSC := hide hsc
              clear hcon hq hx hsc
              go_wp2_with fail
              refine HCON.out.mono ?_
              rintro e w1 ⟨rfl, hb1⟩
              have sc : w1.cell? ⟨g0, off0 + i, none⟩ = some (.int .u64 x) := (hb1.cell (p := ⟨g0, off0 + i, none⟩) (by show g0 < wr.heap.size; omega)).trans ((hnx2.cell (p := ⟨g0, off0 + i, none⟩) hg0).trans HSC.out)
              by_cases hbx : x = best
              · have HW : Hid (writer st ws tk key ts vl ls = (i : Int)) := by
                  show _ = _
                  rw [← HLI.out]
                  exact first_is_writer st ws tk key ts vl ls best k (fun x hx => (HR.out x hx).1) hlt HY.out (by rw [← HX.out]; exact hbx) HMAX.out hno.out
                have hbb : (x == best) = true := by rw [hbx]; exact beq_self_eq_true best
                clear hbx
                go_wp2
                go_ret
                exact ⟨ret_int HW.out.symm, hnx2.trans (hb1.mono hsz)⟩
              · have HN : Hid (x ≠ best) := hbx
                have hbb : (x == best) = false := beq_eq_false_iff_ne.2 hbx
                clear hbx
                go_wp2
                go_roundw
                case rel =>
                  refine ⟨k + 1, by go_num, by omega, fun j hj => ?_, hnx2.trans (hb1.mono hsz)⟩
                  by_cases e : j = k
                  · subst e; exact fun h => HN.out (by rw [HX.out]; exact h.2)
                  · exact hno.out j (by omega)
                case measure => simp [intOf]; omega
          · exact absurd ⟨HQB.out, HSB.out⟩ (hno.out jb (by omega))

end Go.Proofs.Qxb6603228a
