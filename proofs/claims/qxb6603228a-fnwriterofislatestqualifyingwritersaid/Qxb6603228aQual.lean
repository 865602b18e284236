/-
  The walk of qualifies.
-/
import Derived.Test.Qxb6603228aSame
import Derived.Test.Qxb6603228aWr
namespace Go.Proofs.Qxb6603228a
open Go.RowKit

def qualB (st : List Int) (ws : List (List (List Int × List Int))) (tk : List Bool) (key : ByteArray) (ts : Int) (vl : List Int) (i : Nat) : Bool :=
  !tk.getD i false && (decide (st.getD i 0 < ts) && (ws.getD i []).any (hits key vl))

set_option maxRecDepth 20000 in
set_option maxHeartbeats 1000000 in
theorem qualifies_any (i n : Nat) (v0 v1 v2 v7 : Value) (st : List Int) (ws : List (List (List Int × List Int))) (tk : List Bool) (vl : List Int) (key : ByteArray) (ts : Int) (w : World)
    (h0 : Row w (fun g => g < w.heap.size) v0 (st.map (Value.int .u64))) (h1 : Ws w (fun g => g < w.heap.size) v1 ws) (h2 : Row w (fun g => g < w.heap.size) v2 (tk.map Value.bool))
    (h7 : Bs w (fun g => g < w.heap.size) v7 vl) (hst : st.length = n) (hws : ws.length = n) (htk : tk.length = n) (hkey : key.size ≤ 9223372036854775807) (hi : i < n) :
    Calls Try.prog 32 #[.int .i64 (i : Int), v0, v1, v2, .string key, .int .u64 ts, v7] w fun e w' => e = .returned (.bool (qualB st ws tk key ts vl i)) ∧ Below w.heap.size w w' := by
  obtain ⟨_, a0, cap0, rfl, hrow0⟩ := h0
  obtain ⟨_, a1, cap1, rfl, hrow1⟩ := h1
  obtain ⟨_, a2, cap2, rfl, hrow2⟩ := h2
  have HV := hide h7
  obtain ⟨⟨_, a7, cap7, rfl, _⟩, _⟩ := h7
  rw [List.length_map] at hrow0 hrow2 HV ⊢
  rw [List.length_map, List.length_map, hst, hws, htk]
  obtain ⟨g0, off0, rfl, hg0, c0⟩ : ∃ g off, a0 = some ⟨g, off, none⟩ ∧ g < w.heap.size ∧ w.cell? ⟨g, off + i, none⟩ = some (.int .u64 (st.getD i 0)) := by
    rcases hrow0 with h | ⟨g, off, rfl, hg, hc⟩
    · simp at h; rw [h] at hst; simp at hst; omega
    · exact ⟨g, off, rfl, hg, by rw [hc i (by omega), map_getD _ _ 0 _ (by omega)]⟩
  obtain ⟨g2, off2, rfl, hg2, c2⟩ : ∃ g off, a2 = some ⟨g, off, none⟩ ∧ g < w.heap.size ∧ w.cell? ⟨g, off + i, none⟩ = some (.bool (tk.getD i false)) := by
    rcases hrow2 with h | ⟨g, off, rfl, hg, hc⟩
    · simp at h; rw [h] at htk; simp at htk; omega
    · exact ⟨g, off, rfl, hg, by rw [hc i (by omega), map_getD _ _ false _ (by omega)]⟩
  obtain ⟨g1, off1, u, rfl, hg1, c1, hps⟩ : ∃ g off u, a1 = some ⟨g, off, none⟩ ∧ g < w.heap.size ∧ w.cell? ⟨g, off + i, none⟩ = some u ∧ Ps w (fun g => g < w.heap.size) u (ws.getD i []) := by
    rcases hrow1 with h | ⟨g, off, rfl, hg, hc⟩
    · rw [h] at hws; simp at hws; omega
    · obtain ⟨u, hu, hp⟩ := hc i (by omega)
      exact ⟨g, off, u, rfl, hg, hu, hp⟩
  obtain ⟨hpl, ap, capp, rfl, hprow⟩ := hps
  obtain ⟨ps, hpe⟩ : ∃ ps, ps = ws.getD i [] := ⟨_, rfl⟩
  obtain ⟨x, hx⟩ : ∃ x, x = st.getD i 0 := ⟨_, rfl⟩
  obtain ⟨b, hb⟩ : ∃ b, b = tk.getD i false := ⟨_, rfl⟩
  have hq : qualB st ws tk key ts vl i = (!b && (decide (x < ts) && ps.any (hits key vl))) := by unfold qualB; rw [hpe, hx, hb]
  rw [← hpe] at c1 hpl hprow
  rw [← hx] at c0
  rw [← hb] at c2
  have HQ := hide hq
  have HP : Hid (∀ k', k' < ps.length → ∃ g1 off1 u0 u1, ap = some ⟨g1, off1, none⟩ ∧ g1 < w.heap.size ∧ w.cell? ⟨g1, off1 + k' * 2, none⟩ = some u0 ∧ w.cell? ⟨g1, off1 + k' * 2 + 1, none⟩ = some u1 ∧
      Bs w (fun g => g < w.heap.size) u0 (ps.getD k' ([], [])).1 ∧ Bs w (fun g => g < w.heap.size) u1 (ps.getD k' ([], [])).2) := by
    intro k' hk'
    rcases hprow with h | ⟨g1, off1, h, hg1, hc⟩
    · rw [h] at hk'; simp at hk'
    · obtain ⟨u0, u1, e0, e1, b0, b1⟩ := hc k' hk'
      exact ⟨g1, off1, u0, u1, h, hg1, e0, e1, b0, b1⟩
  clear hrow0 hrow1 hrow2 hprow hq hpe hx hb hst hws htk
  cases b with
  | true =>
    go_enter Try.func32, Try.ntmps32
    go_wp2
    go_ret
    exact ⟨ret_bool (by rw [HQ.out]; rfl), Below.refl _ _⟩
  | false =>
    by_cases hts : ts ≤ x
    · have hd : decide (x < ts) = false := decide_eq_false (by omega)
      have HD := hide hd
      clear hd
      go_enter Try.func32, Try.ntmps32
      go_wp2
      go_ret
      exact ⟨ret_bool (by rw [HQ.out, HD.out]; rfl), Below.refl _ _⟩
    · have hd : decide (x < ts) = true := decide_eq_true (by omega)
      have HD := hide hd
      clear hd
      go_enter Try.func32, Try.ntmps32
      go_wp2
      go_loopw [16, 34] (fun _ i wr => ∃ k : Nat, i = .int .i64 k ∧ k ≤ ps.length ∧ Hid (∀ j, j < k → hits key vl (ps.getD j ([], [])) = false) ∧ Below w.heap.size w wr) (fun _ i _ => ps.length - (intOf i).toNat)
      case atStart => exact ⟨0, rfl, Nat.zero_le _, fun j hj => by omega, Below.refl _ _⟩
      case round =>
        obtain ⟨k, rfl, hk, hno, hnx⟩ := hrel
        by_cases hlt : k < ps.length
        · obtain ⟨g3, off3, u0, u1, rfl, hg3, e0, e1, b0, b1⟩ := HP.out k hlt
          have hsz := hnx.size
          have kp := keeps_below hnx
          have q0 : wr.cell? ⟨g3, off3 + k * 2, none⟩ = some u0 := (hnx.cell (p := ⟨g3, off3 + k * 2, none⟩) hg3).trans e0
          have q1 : wr.cell? ⟨g3, off3 + k * 2 + 1, none⟩ = some u1 := (hnx.cell (p := ⟨g3, off3 + k * 2 + 1, none⟩) hg3).trans e1
          have B0 := b0.keep kp
          have B1 := b1.keep kp
          obtain ⟨⟨_, x0, y0, hu0, _⟩, _⟩ := b0
          obtain ⟨⟨_, x1, y1, hu1, _⟩, _⟩ := b1
          obtain ⟨m0, hm0⟩ : ∃ m0, m0 = ((ps.getD k ([], [])).1.map (Value.int .u8)).length := ⟨_, rfl⟩
          obtain ⟨m1, hm1⟩ : ∃ m1, m1 = ((ps.getD k ([], [])).2.map (Value.int .u8)).length := ⟨_, rfl⟩
          rw [← hm0] at hu0
          rw [← hm1] at hu1
          subst hu0
          subst hu1
          have con1 : ∀ o, Hid (Calls Try.prog 39 #[.slice x0 m0 y0, .string key] (wr.alloc o) fun e w' => e = .returned (.bool (decide ((ps.getD k ([], [])).1 = keyL key))) ∧ ∃ d, w' = (wr.alloc o).drewN d) :=
            fun o => bytesAreString_any x0 m0 y0 _ key _ (wr.alloc o) (B0.keep (keeps_alloc (fun g hg => by omega))) hkey
          have con2 : ∀ o d, Hid (Calls Try.prog 40 #[.slice x1 m1 y1, .slice a7 vl.length cap7] ((wr.alloc o).drewN d) fun e w' => e = .returned (.bool (decide ((ps.getD k ([], [])).2 = vl))) ∧ ∃ d', w' = ((wr.alloc o).drewN d).drewN d') :=
            fun o d => sameBytes_any x1 a7 m1 vl.length y1 cap7 _ vl _ _ ((wr.alloc o).drewN d) (B1.keep (keeps_sub (keeps_alloc_drew wr o d) (fun g hg => by omega))) ((HV.out.keep kp).keep (keeps_sub (keeps_alloc_drew wr o d) (fun g hg => by omega)))
          have CON1 := hide con1
          have CON2 := hide con2
          have hh : hits key vl (ps.getD k ([], [])) = (decide ((ps.getD k ([], [])).1 = keyL key) && decide ((ps.getD k ([], [])).2 = vl)) := rfl
          have HH := hide hh
          clear con1 con2 hm0 hm1 e0 e1 B0 B1 kp hh
          go_wp2_with fail
          refine (CON1.out _).out.mono ?_
          rintro e wa ⟨rfl, d, rfl⟩
          by_cases hkk : (ps.getD k ([], [])).1 = keyL key
          · rw [decide_eq_true hkk]
            have HH1 : Hid (hits key vl (ps.getD k ([], [])) = decide ((ps.getD k ([], [])).2 = vl)) := by show _ = _; rw [HH.out, decide_eq_true hkk]; rfl
            clear hkk HH CON1
            go_wp2_with fail
            refine (CON2.out _ _).out.mono ?_
            rintro e wb ⟨rfl, d', rfl⟩
            by_cases hvv : (ps.getD k ([], [])).2 = vl
            · rw [decide_eq_true hvv]
              have HA := hide (any_true (hits key vl) ps ([], []) k hlt (by rw [HH1.out]; exact decide_eq_true hvv))
              clear hvv HH1
              go_wp2
              go_ret
              exact ⟨ret_bool (by rw [HQ.out, HD.out, HA.out]; rfl), below_drewN (hnx.alloc hsz _) _⟩
            · rw [decide_eq_false hvv]
              have HA : Hid (hits key vl (ps.getD k ([], [])) = false) := by show _ = _; rw [HH1.out]; exact decide_eq_false hvv
              clear hvv HH1
              go_wp2
              go_roundw
              case rel =>
                refine ⟨k + 1, by go_num, by omega, fun j hj => ?_, ?_⟩
                · by_cases hjk : j = k
                  · subst hjk; exact HA.out
                  · exact hno.out j (by omega)
                · exact below_drewN (hnx.alloc hsz _) _
              case measure => simp [intOf]; omega
          · rw [decide_eq_false hkk]
            have HA : Hid (hits key vl (ps.getD k ([], [])) = false) := by show _ = _; rw [HH.out, decide_eq_false hkk]; rfl
            clear hkk HH CON1 CON2
            go_wp2
            go_roundw
            case rel =>
              refine ⟨k + 1, by go_num, by omega, fun j hj => ?_, below_drewN (hnx.alloc hsz _) _⟩
              by_cases hjk : j = k
              · subst hjk; exact HA.out
              · exact hno.out j (by omega)
            case measure => simp [intOf]; omega
        · have hkl : k = ps.length := by omega
          subst hkl
          have HA := hide (any_false (hits key vl) ps ([], []) hno.out)
          go_wp2
          go_ret
          exact ⟨ret_bool (by rw [HQ.out, HD.out, HA.out]; rfl), hnx⟩

end Go.Proofs.Qxb6603228a
