/-
  The walks of the closure in writerOf, of slices.IndexFunc and slices.ContainsFunc over it.
-/
import Derived.Test.Qxb6603228aEq
namespace Go.Proofs.Qxb6603228a
open Go.RowKit

/-- Does the pair write value to key? -/
def hits (key : ByteArray) (vl : List Int) (p : List Int × List Int) : Bool := decide (p.1 = keyL key) && decide (p.2 = vl)

theorem clos_any (u0 u1 v : Value) (l0 l1 vl : List Int) (key : ByteArray) (bi bv : Nat) (w : World) (h0 : Bs w (fun g => g < w.heap.size) u0 l0) (h1 : Bs w (fun g => g < w.heap.size) u1 l1)
    (hv : Bs w (fun g => g < w.heap.size) v vl) (hbi : bi < w.heap.size) (hbv : bv < w.heap.size) (ci : w.cell? ⟨bi, 0, none⟩ = some (.string key)) (cv : w.cell? ⟨bv, 0, none⟩ = some v) :
    Calls Try.prog 37 #[.agg #[u0, u1], .pointer (some ⟨bi, 0, none⟩), .pointer (some ⟨bv, 0, none⟩)] w fun e w' => e = .returned (.bool (hits key vl (l0, l1))) ∧ Below w.heap.size w w' := by
  have kw : ∀ o, Keeps (fun g => g < w.heap.size) w (w.alloc o) := fun o => keeps_alloc (fun g hg => hg)
  have conv : ∀ o, (convert 59 9 u0).run Try.prog (w.alloc o) = .ok (.string (strOfNums l0)) (w.alloc o) := fun o => conv_bytes 59 Try.underlying59 (h0.keep (kw o))
  have heq : ∀ o, Hid (Calls Try.prog 38 #[u1, v] (w.alloc o) fun e w' => e = .returned (.bool (decide (l1 = vl))) ∧ w' = w.alloc o) := fun o => equal_any u1 v l1 vl _ _ _ (h1.keep (kw o)) (hv.keep (kw o))
  have hk := eq_key l0 key h0.2
  have HEQ := hide heq
  clear kw heq h1 hv h0
  by_cases hkey : l0 = keyL key
  · rw [decide_eq_true hkey] at hk
    have hh : hits key vl (l0, l1) = decide (l1 = vl) := by unfold hits; simp [hkey]
    have HH := hide hh
    clear hh hkey
    go_enter Try.func37, Try.ntmps37
    go_wp2_with fail
    refine (HEQ.out _).out.mono ?_
    rintro e w' ⟨rfl, rfl⟩
    go_wp2
    go_ret
    exact ⟨ret_bool HH.out.symm, (Below.refl _ _).alloc (Nat.le_refl _) _⟩
  · rw [decide_eq_false hkey] at hk
    have hh : hits key vl (l0, l1) = false := by unfold hits; simp [hkey]
    have HH := hide hh
    clear hh hkey HEQ
    go_enter Try.func37, Try.ntmps37
    go_wp2
    go_ret
    exact ⟨ret_bool HH.out.symm, (Below.refl _ _).alloc (Nat.le_refl _) _⟩

theorem any_false {α : Type} (f : α → Bool) (l : List α) (d : α) (h : ∀ j, j < l.length → f (l.getD j d) = false) : l.any f = false := by
  rw [List.any_eq_false]
  intro x hx
  obtain ⟨j, hj, rfl⟩ := List.getElem_of_mem hx
  have := h j hj
  rw [List.getD_eq_getElem?_getD, List.getElem?_eq_getElem hj] at this
  simpa using this

theorem any_true {α : Type} (f : α → Bool) (l : List α) (d : α) (j : Nat) (hj : j < l.length) (h : f (l.getD j d) = true) : l.any f = true := by
  rw [List.any_eq_true]
  refine ⟨l.getD j d, ?_, h⟩
  rw [List.getD_eq_getElem?_getD, List.getElem?_eq_getElem hj]; exact List.getElem_mem hj

/-- An index, nought or more just where b. -/
def IdxIf (e : Ending) (b : Bool) : Prop := ∃ i : Int, e = .returned (.int .i64 i) ∧ decide (0 ≤ i) = b

set_option maxHeartbeats 1000000 in
theorem indexFunc_any (s v : Value) (ps : List (List Int × List Int)) (vl : List Int) (key : ByteArray) (bi bv : Nat) (w : World) (hs : Ps w (fun g => g < w.heap.size) s ps)
    (hv : Bs w (fun g => g < w.heap.size) v vl) (hbi : bi < w.heap.size) (hbv : bv < w.heap.size) (ci : w.cell? ⟨bi, 0, none⟩ = some (.string key)) (cv : w.cell? ⟨bv, 0, none⟩ = some v) :
    Calls Try.prog 44 #[s, .func (.func 37) #[] #[.pointer (some ⟨bi, 0, none⟩), .pointer (some ⟨bv, 0, none⟩)]] w fun e w' => IdxIf e (ps.any (hits key vl)) ∧ Below w.heap.size w w' := by
  obtain ⟨hl, a, cap, rfl, hrow⟩ := hs
  have HR : Hid (∀ k, k < ps.length → ∃ g off u0 u1, a = some ⟨g, off, none⟩ ∧ g < w.heap.size ∧ w.cell? ⟨g, off + k * 2, none⟩ = some u0 ∧ w.cell? ⟨g, off + k * 2 + 1, none⟩ = some u1 ∧
      Bs w (fun g => g < w.heap.size) u0 (ps.getD k ([], [])).1 ∧ Bs w (fun g => g < w.heap.size) u1 (ps.getD k ([], [])).2) := by
    intro k hk
    rcases hrow with h | ⟨g, off, rfl, hg, hc⟩
    · rw [h] at hk; simp at hk
    · obtain ⟨u0, u1, e0, e1, b0, b1⟩ := hc k hk
      exact ⟨g, off, u0, u1, rfl, hg, e0, e1, b0, b1⟩
  have HV := hide hv
  have HCI := hide ci
  have HCV := hide cv
  clear hrow hv ci cv
  go_enter Try.func44, Try.ntmps44
  go_wp2
  go_loopw [5, 8] (fun _ i wr => ∃ k : Nat, i = .int .i64 k ∧ k ≤ ps.length ∧ Hid (∀ j, j < k → hits key vl (ps.getD j ([], [])) = false) ∧ Below w.heap.size w wr) (fun _ i _ => ps.length - (intOf i).toNat)
  case atStart => exact ⟨0, rfl, Nat.zero_le _, fun j hj => by omega, Below.refl _ _⟩
  case round =>
    obtain ⟨k, rfl, hk, hno, hnx⟩ := hrel
    by_cases hlt : k < ps.length
    · obtain ⟨g, off, u0, u1, rfl, hg, e0, e1, b0, b1⟩ := HR.out k hlt
      have hsz := hnx.size
      have f0 : wr.cell? ⟨g, off + k * 2, none⟩ = some u0 := (hnx.cell (p := ⟨g, off + k * 2, none⟩) hg).trans e0
      have f1 : wr.cell? ⟨g, off + k * 2 + 1, none⟩ = some u1 := (hnx.cell (p := ⟨g, off + k * 2 + 1, none⟩) hg).trans e1
      have kp := keeps_below hnx
      have hcon := clos_any u0 u1 v (ps.getD k ([], [])).1 (ps.getD k ([], [])).2 vl key bi bv wr ((b0.keep kp).sub (fun g hg => by omega)) ((b1.keep kp).sub (fun g hg => by omega)) ((HV.out.keep kp).sub (fun g hg => by omega)) (by omega) (by omega)
        ((hnx.cell (p := ⟨bi, 0, none⟩) hbi).trans HCI.out) ((hnx.cell (p := ⟨bv, 0, none⟩) hbv).trans HCV.out)
      cases hh : hits key vl ((ps.getD k ([], [])).1, (ps.getD k ([], [])).2) with
      | true =>
        rw [hh] at hcon
        have HCON := hide hcon
        have HA := hide (any_true (hits key vl) ps ([], []) k hlt hh)
        clear hcon e0 e1 b0 b1 kp hh
        go_wp2_with fail
        refine HCON.out.mono ?_
        rintro e w1 ⟨rfl, hb1⟩
        go_wp2
        go_ret
        exact ⟨⟨_, rfl, by rw [HA.out]; exact decide_eq_true (by omega)⟩, hnx.trans (hb1.mono hsz)⟩
      | false =>
        rw [hh] at hcon
        have HCON := hide hcon
        have HH := hide hh
        clear hcon e0 e1 b0 b1 kp hh
        go_wp2_with fail
        refine HCON.out.mono ?_
        rintro e w1 ⟨rfl, hb1⟩
        go_wp2
        go_roundw
        case rel =>
          refine ⟨k + 1, by go_num, by omega, fun j hj => ?_, hnx.trans (hb1.mono hsz)⟩
          by_cases hjk : j = k
          · subst hjk; exact HH.out
          · exact hno.out j (by omega)
        case measure => simp [intOf]; omega
    · have hkl : k = ps.length := by omega
      subst hkl
      go_wp2
      go_ret
      exact ⟨⟨_, rfl, (any_false _ _ ([], []) hno.out).symm⟩, hnx⟩

theorem containsFunc_any (s v : Value) (ps : List (List Int × List Int)) (vl : List Int) (key : ByteArray) (bi bv : Nat) (w : World) (hs : Ps w (fun g => g < w.heap.size) s ps)
    (hv : Bs w (fun g => g < w.heap.size) v vl) (hbi : bi < w.heap.size) (hbv : bv < w.heap.size) (ci : w.cell? ⟨bi, 0, none⟩ = some (.string key)) (cv : w.cell? ⟨bv, 0, none⟩ = some v) :
    Calls Try.prog 36 #[s, .func (.func 37) #[] #[.pointer (some ⟨bi, 0, none⟩), .pointer (some ⟨bv, 0, none⟩)]] w fun e w' => e = .returned (.bool (ps.any (hits key vl))) ∧ Below w.heap.size w w' := by
  have hcon := hide (indexFunc_any s v ps vl key bi bv w hs hv hbi hbv ci cv)
  clear hs hv ci cv
  go_enter Try.func36, Try.ntmps36
  go_wp2_with fail
  refine hcon.out.mono ?_
  rintro e w1 ⟨⟨i, rfl, hd⟩, hb⟩
  have HD := hide hd
  clear hd
  go_wp2
  go_ret
  exact ⟨ret_bool HD.out, hb⟩

end Go.Proofs.Qxb6603228a
