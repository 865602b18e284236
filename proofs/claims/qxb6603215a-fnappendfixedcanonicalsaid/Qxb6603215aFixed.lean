/-
  The walks of abs64 and appendFixed.
-/
import Derived.Test.Qxb6603215aRows
import Derived.Test.Qxb6603215aPlain
import Derived.WalkKit
import Derived.WalkSpells
import Derived.OpenShut
namespace Go.Proofs.Qxb6603215a
open Go.RowKit

theorem hide {p : Prop} (h : p) : Hid p := h
theorem ret_int {k : IntKind} {a b : Int} (h : a = b) : Ending.returned (.int k a) = .returned (.int k b) := by rw [h]

theorem neg_wrap (c : Int) (h1 : -9223372036854775808 ≤ c) (hc : c < 0) : IntKind.u64.wrap (-IntKind.u64.wrap c) = (c.natAbs : Int) := by
  rw [IntKind.wrap_u64, IntKind.wrap_u64]
  omega

theorem abs64_any (c : Int) (w : World) (h1 : -9223372036854775808 ≤ c) (h2 : c ≤ 9223372036854775807) :
    Calls Try.prog 23 #[.int .i64 c] w fun e w' => e = .returned (.int .u64 (c.natAbs : Int)) ∧ w' = w := by
  by_cases hc : c < 0
  · go_enter Try.func23, Try.ntmps23
    go_wp2
    go_ret
    exact ⟨ret_int (neg_wrap c h1 hc), rfl⟩
  · go_enter Try.func23, Try.ntmps23
    go_wp2
    go_ret
    exact ⟨ret_int (by omega), rfl⟩

/-- The text's block: 21 bytes that may be written. -/
def Txt (w : World) (B : Nat) : Prop := ∀ j, j < 21 → (∃ x, w.cell? ⟨B, j, none⟩ = some (.int .u8 x)) ∧ w.frozen? ⟨B, j, none⟩ = false
/-- From place i on the block holds the bytes l. -/
def Suf (w : World) (B i : Nat) (l : List Int) : Prop := ∀ j u, l[j]? = some u → w.cell? ⟨B, i + j, none⟩ = some (.int .u8 u)

theorem Txt.set {w : World} {B i : Nat} {x : Int} (h : Txt w B) (hi : i < 21) : Txt (w.setCell ⟨B, i, none⟩ (.int .u8 x)) B := by
  intro j hj
  obtain ⟨⟨y, hy⟩, hf⟩ := h j hj
  refine ⟨?_, by rw [World.frozen?_setCell]; exact hf⟩
  by_cases e : j = i
  · subst e; exact ⟨x, World.cell?_setCell_same _ _ _ hy⟩
  · exact ⟨y, (World.cell?_setCell_other _ _ _ _ (by simp)).trans hy⟩

theorem Suf.cons {w : World} {B i : Nat} {x : Int} {l : List Int} (h : Suf w B (i + 1) l) (ht : Txt w B) (hi : i < 21) : Suf (w.setCell ⟨B, i, none⟩ (.int .u8 x)) B i (x :: l) := by
  intro j u hu
  cases j with
  | zero =>
    simp at hu; subst hu
    obtain ⟨⟨y, hy⟩, _⟩ := ht i hi
    exact World.cell?_setCell_same _ _ _ hy
  | succ j =>
    simp at hu
    have := h j u hu
    have e : i + (j + 1) = i + 1 + j := by omega
    rw [e]
    exact (World.cell?_setCell_other _ _ _ _ (by simp)).trans this

theorem txt_new (w : World) : Txt (w.alloc (.cells #[.int .u8 0, .int .u8 0, .int .u8 0, .int .u8 0, .int .u8 0, .int .u8 0, .int .u8 0, .int .u8 0, .int .u8 0, .int .u8 0, .int .u8 0, .int .u8 0, .int .u8 0, .int .u8 0, .int .u8 0, .int .u8 0, .int .u8 0, .int .u8 0, .int .u8 0, .int .u8 0, .int .u8 0] 36)) w.heap.size := by
  intro j hj
  refine ⟨⟨0, ?_⟩, ?_⟩
  · rw [World.cell?_alloc_at _ _ _ _ rfl]
    have : ∀ j : Fin 21, (#[.int .u8 0, .int .u8 0, .int .u8 0, .int .u8 0, .int .u8 0, .int .u8 0, .int .u8 0, .int .u8 0, .int .u8 0, .int .u8 0, .int .u8 0, .int .u8 0, .int .u8 0, .int .u8 0, .int .u8 0, .int .u8 0, .int .u8 0, .int .u8 0, .int .u8 0, .int .u8 0, .int .u8 0] : Array Value)[j.val]? = some (.int .u8 0) := by
      intro j
      have hj := j.isLt
      obtain ⟨j, _⟩ := j
      simp only at hj ⊢
      iterate 21 (cases j with | zero => rfl | succ j => ?_)
      omega
    exact this ⟨j, hj⟩
  · simp

theorem Try.info5 : (Try.prog.info? 5).map (fun i => (i.zero, i.size, i.bytes)) = some (some (.int .u8 0), 1, 1) := by kernel_rfl

theorem slice_text (B j : Nat) (hj : j < 21) (W : World) :
    (Instr.sliceAt 36 (.pointer (some ⟨B, 0, none⟩)) (some (.int .i64 (j : Int))) none none).run Try.prog W = .ok (.slice (some ⟨B, j, none⟩) (21 - j) (21 - j)) W := by
  have hal : Try.prog.arrayLen 36 = 21 := by kernel_rfl
  rw [run_sliceAt_array_l W 36 ⟨B, 0, none⟩ (by kernel_rfl) .i64 (j : Int) (by omega) (by rw [hal]; omega)]
  rw [hal]
  have hne : ¬ (21 = j) := by omega
  go_simp

/-- What the call owned below the new block it owns still. -/
theorem ownsRow_below {w wr : World} {base m : Nat} {v : Value} {xs : List Value} {e : TypeId} (h : w.ownsRow base e 1 v m xs) (hb : Below w.heap.size w wr) : wr.ownsRow base e 1 v m xs := by
  obtain ⟨h1, h2⟩ := h
  refine ⟨h1, ?_⟩
  rcases h2 with h2 | ⟨g, cap, cur, hv, hg, hh, r⟩
  · exact Or.inl h2
  · exact Or.inr ⟨g, cap, cur, hv, hg, by rw [hb.block g (Array.getElem?_eq_some_iff.1 hh).1]; exact hh, r⟩

theorem suf_add {w : World} {B i : Nat} {l : List Int} (h : Suf w B i l) : ∀ j u, (l.map (Value.int .u8))[j]? = some u → w.cell? ((⟨B, i, none⟩ : Addr).add j) = some u := by
  intro j u hu
  rw [List.getElem?_map, Option.map_eq_some_iff] at hu
  obtain ⟨x, hx, rfl⟩ := hu
  rw [Addr.add_lit]
  exact h j x hx

theorem pow_bound {a k : Nat} (h : a < 10 ^ 19) (hk : 0 < a / 10 ^ k) : k ≤ 18 := by
  by_cases hk' : k ≤ 18
  · exact hk'
  · have h1 : 10 ^ 19 ≤ 10 ^ k := Nat.pow_le_pow_right (by omega) (by omega)
    have h2 : a / 10 ^ k = 0 := Nat.div_eq_of_lt (by omega)
    omega
theorem step_q {a k q : Nat} (h : q = a / 10 ^ k) : Hid (q / 10 = a / 10 ^ (k + 1)) := by
  show _ = _
  rw [h, Nat.pow_succ, Nat.div_div_eq_div_mul]
theorem step_d {a k q : Nat} (h : q = a / 10 ^ k) : Hid (48 + (q : Int) % 10 = 48 + ((a / 10 ^ k % 10 : Nat) : Int)) := by
  show _ = _
  rw [← h]; omega

set_option maxHeartbeats 400000 in
theorem appendFixed_any (base m : Nat) (xs : List Value) (v : Value) (c : Int) (p : Nat) (w : World) (h1 : -9223372036854775808 ≤ c) (h2 : c ≤ 9223372036854775807) (hp : p ≤ 18)
    (hown : w.ownsRow base 5 1 v m xs) (hm : m ≤ 1048576) (hb : base ≤ w.heap.size) :
    Calls Try.prog 22 #[v, .int .i64 c, .int .i32 p] w fun e w' => ∃ v' N, e = .returned v' ∧ isLast c.natAbs p N ∧ N ≤ 19 ∧
      w'.ownsRow base 5 1 v' (m + (fx (decide (c < 0)) c.natAbs p N).length) (xs ++ (fx (decide (c < 0)) c.natAbs p N).map (Value.int .u8)) ∧ Below base w w' := by
  go_enter Try.func22, Try.ntmps22
  go_wp2_with (go_at_call 23; refine (abs64_any _ _ (by omega) (by omega)).mono ?_; rintro e w' ⟨rfl, rfl⟩)
  obtain ⟨a, ha⟩ : ∃ a, a = c.natAbs := ⟨_, rfl⟩
  have ha10 : a < 10 ^ 19 := by omega
  have HA : Hid (a = c.natAbs) := ha
  rw [← ha]
  clear ha
  go_loopw [8, 9, 10] (fun i u n wr => ∃ k ii q : Nat, k ≤ 19 ∧ Hid (ii + (tx a p k).length = 21) ∧ i = .int .i64 ii ∧ u = .int .u64 q ∧ Hid (q = a / 10 ^ k) ∧ n = .int .i32 k ∧
      Hid (k ≤ p + 1 ∨ 0 < a / 10 ^ (k - 1)) ∧ Hid (Txt wr w.heap.size) ∧ Hid (Suf wr w.heap.size ii (tx a p k)) ∧ Below w.heap.size w wr) (fun _ _ n _ => 19 - (intOf n).toNat)
  case atStart => exact ⟨0, 21, a, by omega, by rw [tx_zero]; rfl, rfl, rfl, by simp [Hid], rfl, Or.inl (by omega), txt_new w, by rw [tx_zero]; intro j u hu; simp at hu, (Below.refl _ _).alloc (Nat.le_refl _) _⟩
  case round =>
    obtain ⟨k, ii, q, hk, hii, rfl, rfl, hq, rfl, hlast, htxt, hsuf, hnx⟩ := hrel
    have hqb : q < 10000000000000000000 := by have := hq.out; have := Nat.div_le_self a (10 ^ k); omega
    by_cases hstop : p < k ∧ q = 0
    · obtain ⟨hpk, rfl⟩ := hstop
      have hil : isLast a p k := ⟨hpk, hq.out.symm, by have := hlast.out; omega⟩
      obtain ⟨i0, hi, hz0, hz1, hz2⟩ := info_parts Try.info5
      obtain ⟨L, hL⟩ : ∃ L, L = fx (decide (c < 0)) a p k := ⟨_, rfl⟩
      have hfin : ∀ v' w', w'.ownsRow base 5 1 v' (m + L.length) (xs ++ L.map (Value.int .u8)) → Below base w w' → ∃ v'' N, Ending.returned v' = .returned v'' ∧ isLast c.natAbs p N ∧ N ≤ 19 ∧
          w'.ownsRow base 5 1 v'' (m + (fx (decide (c < 0)) c.natAbs p N).length) (xs ++ (fx (decide (c < 0)) c.natAbs p N).map (Value.int .u8)) ∧ Below base w w' := by
        intro v' w' h1 h2
        rw [← HA.out]
        exact ⟨v', k, rfl, hil, hk, by rw [← hL]; exact h1, h2⟩
      have HFIN := hide hfin
      have hl21 : L.length ≤ 21 := by rw [hL]; exact fx_length_le _ _ _ _ hk
      have hrow : ∀ g, v.ownBlock = some g → base ≤ g := fun g hg => (hown.lt g hg).1
      by_cases hc : c < 0
      · obtain ⟨jj, rfl⟩ : ∃ jj, ii = jj + 1 := ⟨ii - 1, by have := hii.out; rw [tx_length] at this; split at this <;> omega⟩
        have hjj : jj < 21 := by have := hii.out; omega
        obtain ⟨⟨x0, hx0⟩, hf0⟩ := htxt.out jj (by omega)
        have hsl := slice_text w.heap.size jj hjj
        have hL' : L = 45 :: tx a p k := by rw [hL]; simp [fx, hc]
        have HLL := hide hL'
        have HLF : Hid (L.length = 21 - jj) := by show _ = _; have := hii.out; rw [hL', List.length_cons]; omega
        clear hL hL' hfin
        go_wp2_with (at_builtin; refine wpList_append_own _ rfl _ _ 22 rfl base 5 i0 (.int .u8 0) 1 1 Try.underlying22 hi hz0 hz1 hz2 rfl (by decide) _ _ _ rfl (ownsRow_below hown (hnx.setCell (Nat.le_refl _) _)) ⟨w.heap.size, jj, none⟩ (21 - jj) (21 - jj) (L.map (Value.int .u8)) rfl ?c0 ?c1 ?c2 ?c3 ?c4 ?c5 ?_)
        case c0 => first | exact HLF.out | rw [List.length_map, HLF.out, Nat.mul_one]
        case c1 =>
          rw [HLL.out]
          first | exact suf_add (hsuf.out.cons htxt.out hjj) | exact hsuf.out.cons htxt.out hjj
        case c2 => first | exact ints_oneCell _ _ | exact fun _ _ => rfl
        case c3 => unfold maxLen; omega
        case c4 => omega
        case c5 => have := hnx.size; simp [World.setCell]; omega
        intro v' w1 hown' hgrow _
        have hB := ((hnx.setCell (p := ⟨w.heap.size, jj, none⟩) (Nat.le_refl _) (.int .u8 45)).mono hb).grown hgrow (by have := hnx.size; simp [World.setCell]; omega) hrow
        rw [← HLF.out] at hown'
        have HO := hide hown'
        have HB := hide hB
        clear hown' hB hgrow hown
        go_wp2
        go_ret
        exact HFIN.out _ _ HO.out HB.out
      · have hjj : ii < 21 := by have := hii.out; rw [tx_length] at this; split at this <;> omega
        have hsl := slice_text w.heap.size ii hjj
        have hL' : L = tx a p k := by rw [hL]; simp [fx, hc]
        have HLL := hide hL'
        have HLF : Hid (L.length = 21 - ii) := by show _ = _; have := hii.out; rw [hL']; omega
        clear hL hL' hfin
        go_wp2_with (at_builtin; refine wpList_append_own _ rfl _ _ 22 rfl base 5 i0 (.int .u8 0) 1 1 Try.underlying22 hi hz0 hz1 hz2 rfl (by decide) _ _ _ rfl (ownsRow_below hown hnx) ⟨w.heap.size, ii, none⟩ (21 - ii) (21 - ii) (L.map (Value.int .u8)) rfl ?c0 ?c1 ?c2 ?c3 ?c4 ?c5 ?_)
        case c0 => first | exact HLF.out | rw [List.length_map, HLF.out, Nat.mul_one]
        case c1 =>
          rw [HLL.out]
          first | exact suf_add hsuf.out | exact hsuf.out
        case c2 => first | exact ints_oneCell _ _ | exact fun _ _ => rfl
        case c3 => unfold maxLen; omega
        case c4 => omega
        case c5 => have := hnx.size; omega
        intro v' w1 hown' hgrow _
        have hB := (hnx.mono hb).grown hgrow (by have := hnx.size; omega) hrow
        rw [← HLF.out] at hown'
        have HO := hide hown'
        have HB := hide hB
        clear hown' hB hgrow hown
        go_wp2
        go_ret
        exact HFIN.out _ _ HO.out HB.out
    · have hk18 : k ≤ 18 := by
        rcases Nat.lt_or_ge p k with h | h
        · exact pow_bound ha10 (by rw [← hq.out]; omega)
        · omega
      obtain ⟨jj, rfl⟩ : ∃ jj, ii = jj + 2 := ⟨ii - 2, by have := hii.out; rw [tx_length] at this; split at this <;> omega⟩
      have hjj : jj < 20 := by have := hii.out; omega
      obtain ⟨⟨x1, hx1⟩, hf1⟩ := htxt.out (jj + 1) (by omega)
      obtain ⟨⟨x0, hx0⟩, hf0⟩ := htxt.out jj (by omega)
      have HQ := step_q hq.out
      have HD := step_d hq.out
      have HL : Hid (k + 1 ≤ p + 1 ∨ 0 < a / 10 ^ (k + 1 - 1)) := by
        show _ ∨ _
        rw [Nat.add_sub_cancel, ← hq.out]; omega
      by_cases hkp : k = p ∧ 0 < p
      · obtain ⟨rfl, hp0⟩ := hkp
        clear hstop
        go_wp2
        go_roundw
        case rel =>
          refine ⟨k + 1, jj, q / 10, by omega, ?_, by go_num, by go_num, HQ, by go_num, HL, (htxt.out.set (by omega)).set (by omega), ?_, (hnx.setCell (Nat.le_refl _) _).setCell (Nat.le_refl _) _⟩
          · have := hii.out; rw [tx_point a k hp0]; show _ = _; simp only [List.length_cons]; omega
          · rw [tx_point a k hp0, ← HD.out]
            exact ((hsuf.out.cons htxt.out (by omega)).cons (htxt.out.set (by omega)) (by omega))
        case measure => simp [intOf]; omega
      · have htp := tx_plain a p k hkp
        have HT : Hid (tx a p (k + 1) = (48 + ((a / 10 ^ k % 10 : Nat) : Int)) :: tx a p k) := htp
        clear htp
        have hlen : jj + 1 + (tx a p (k + 1)).length = 21 := by have := hii.out; rw [HT.out, List.length_cons]; omega
        have HN : Hid (jj + 1 + (tx a p (k + 1)).length = 21) := hlen
        clear hlen
        have hsuf2 : Hid (Suf (wr.setCell ⟨w.heap.size, jj + 1, none⟩ (.int .u8 (48 + (q : Int) % 10))) w.heap.size (jj + 1) (tx a p (k + 1))) := by
          rw [HT.out, ← HD.out]; exact hsuf.out.cons htxt.out (by omega)
        rcases (by omega : (k = 0 ∧ p = 0) ∨ k < p ∨ (p < k ∧ 0 < q)) with h | h | h
        · obtain ⟨rfl, rfl⟩ := h
          clear hkp hstop
          go_wp2
          go_roundw
          case rel =>
            exact ⟨0 + 1, jj + 1, q / 10, by omega, HN, by go_num, by go_num, HQ, by go_num, HL, htxt.out.set (by omega), hsuf2, hnx.setCell (Nat.le_refl _) _⟩
          case measure => simp [intOf]
        · clear hkp hstop
          go_wp2
          go_roundw
          case rel =>
            exact ⟨k + 1, jj + 1, q / 10, by omega, HN, by go_num, by go_num, HQ, by go_num, HL, htxt.out.set (by omega), hsuf2, hnx.setCell (Nat.le_refl _) _⟩
          case measure => simp [intOf]; omega
        · obtain ⟨h, hq0⟩ := h
          clear hkp hstop
          go_wp2
          go_roundw
          case rel =>
            exact ⟨k + 1, jj + 1, q / 10, by omega, HN, by go_num, by go_num, HQ, by go_num, HL, htxt.out.set (by omega), hsuf2, hnx.setCell (Nat.le_refl _) _⟩
          case measure => simp [intOf]; omega

end Go.Proofs.Qxb6603215a
