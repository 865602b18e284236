/-
  The walks of zzBytes.., zzClone, zzIsDigitByte, isDigits, ZZisDigits.
-/
import Derived.Test.Qxb6603215aFixed
import Derived.Laws.CopyOwn
import Derived.Lib.SliceRun
namespace Go.Proofs.Qxb6603215a
open Go.RowKit

theorem ret_bool {a b : Bool} (h : a = b) : Ending.returned (.bool a) = .returned (.bool b) := by rw [h]

/-- Is it an ASCII digit? -/
def isD (c : Int) : Bool := decide (48 ≤ c) && decide (c ≤ 57)

theorem isDigitByte_any (c : Int) (w : World) : Calls Try.prog 11 #[.int .u8 c] w fun e w' => e = .returned (.bool (isD c)) ∧ w' = w := by
  by_cases h1 : c < 48 ∨ 57 < c
  · have hne : isD c = false := by unfold isD; simp; omega
    have H := hide hne
    clear hne
    rcases h1 with h1 | h1
    · go_enter Try.func11, Try.ntmps11
      go_wp2
      go_ret
      exact ⟨ret_bool H.out.symm, rfl⟩
    · go_enter Try.func11, Try.ntmps11
      go_wp2
      go_ret
      exact ⟨ret_bool H.out.symm, rfl⟩
  · have hc : c = 48 ∨ c = 49 ∨ c = 50 ∨ c = 51 ∨ c = 52 ∨ c = 53 ∨ c = 54 ∨ c = 55 ∨ c = 56 ∨ c = 57 := by omega
    rcases hc with rfl | rfl | rfl | rfl | rfl | rfl | rfl | rfl | rfl | rfl
    all_goals
      clear h1
      go_enter Try.func11, Try.ntmps11
      go_wp2
      go_ret
      exact ⟨rfl, rfl⟩

/-- A slice of bytes reads as l. -/
def Bs (w : World) (a : Option Addr) (l : List Int) : Prop := l = [] ∨ ∃ g off, a = some ⟨g, off, none⟩ ∧ ∀ j, j < l.length → w.cell? ⟨g, off + j, none⟩ = some (.int .u8 (l.getD j 0))

def allD (l : List Int) : Bool := l.all isD && decide (0 < l.length)

theorem take_succ' (zs : List Int) (k : Nat) (hk : k < zs.length) : zs.take (k + 1) = zs.take k ++ [zs.getD k 0] := by
  rw [List.take_add_one, List.getElem?_eq_getElem hk, List.getD_eq_getElem?_getD, List.getElem?_eq_getElem hk]; rfl

theorem all_snoc (zs : List Int) (k : Nat) (hk : k < zs.length) (h : (zs.take k).all isD = true) (hd : isD (zs.getD k 0) = true) : (zs.take (k + 1)).all isD = true := by
  rw [take_succ' zs k hk, List.all_append, h]; simp only [List.all_cons, List.all_nil, hd]; rfl

theorem not_all (zs : List Int) (k : Nat) (hk : k < zs.length) (hd : isD (zs.getD k 0) = false) : allD zs = false := by
  unfold allD
  have : zs.all isD = false := by
    rw [List.all_eq_false]
    refine ⟨zs.getD k 0, ?_, by rw [hd]; simp⟩
    rw [List.getD_eq_getElem?_getD, List.getElem?_eq_getElem hk]; exact List.getElem_mem hk
  rw [this]; rfl

set_option maxHeartbeats 400000 in
theorem isDigits_any (a : Option Addr) (cap : Nat) (l : List Int) (w : World) (hb : Bs w a l) (hlen : l.length ≤ 9223372036854775807) :
    Calls Try.prog 20 #[.slice a l.length cap] w fun e w' => e = .returned (.bool (allD l)) ∧ w' = w := by
  rcases hb with rfl | ⟨g, off, rfl, hcell⟩
  · go_enter Try.func20, Try.ntmps20
    go_wp2
    go_loop [7] (fun i => i = .int .i64 0) (fun _ => 0)
    case atStart => rfl
    case round =>
      subst hrel
      go_wp2
      go_ret
      exact ⟨rfl, rfl⟩
  · have HC := hide hcell
    clear hcell
    go_enter Try.func20, Try.ntmps20
    go_wp2
    go_loop [4, 7] (fun _ i => ∃ k : Nat, k ≤ l.length ∧ i = .int .i64 k ∧ Hid ((l.take k).all isD = true)) (fun _ i => l.length - (intOf i).toNat)
    case atStart => exact ⟨0, Nat.zero_le _, rfl, by simp [Hid]⟩
    case round =>
      obtain ⟨k, hk, rfl, hall⟩ := hrel
      by_cases hlt : k < l.length
      · obtain ⟨x, hx⟩ : ∃ x, x = l.getD k 0 := ⟨_, rfl⟩
        have cb := HC.out k hlt
        rw [← hx] at cb
        have HX := hide hx
        clear hx
        by_cases h1 : x < 48
        · go_wp2
          go_ret
          exact ⟨ret_bool (not_all l k hlt (by rw [← HX.out]; unfold isD; simp; omega)).symm, rfl⟩
        · by_cases h2 : 57 < x
          · go_wp2
            go_ret
            exact ⟨ret_bool (not_all l k hlt (by rw [← HX.out]; unfold isD; simp; omega)).symm, rfl⟩
          · go_wp2
            go_round
            case rel => exact ⟨k + 1, by omega, by go_num, all_snoc l k hlt hall.out (by rw [← HX.out]; unfold isD; simp; omega)⟩
            case measure => simp [intOf]; omega
      · have hk' : k = l.length := by omega
        subst hk'
        have ha := hall.out
        rw [List.take_length] at ha
        have HA := hide ha
        clear ha
        go_wp2
        go_ret
        exact ⟨ret_bool (by unfold allD; rw [HA.out]; simp), rfl⟩

theorem zzIsDigits_any (a : Option Addr) (cap : Nat) (l : List Int) (w : World) (hb : Bs w a l) (hlen : l.length ≤ 9223372036854775807) :
    Calls Try.prog 12 #[.slice a l.length cap] w fun e w' => e = .returned (.bool (allD l)) ∧ w' = w := by
  have hcon := hide (isDigits_any a cap l w hb hlen)
  clear hb
  go_enter Try.func12, Try.ntmps12
  go_wp2_with fail
  refine hcon.out.mono ?_
  rintro e w' ⟨rfl, rfl⟩
  go_wp2
  go_ret
  exact ⟨rfl, rfl⟩

theorem owns_bs {w : World} {base n : Nat} {v : Value} {l : List Int} (h : w.ownsRow base 5 1 v n (l.map (Value.int .u8))) :
    l.length = n ∧ ∃ a cap, v = .slice a n cap ∧ Bs w a l := by
  have hl := h.1
  rw [List.length_map, Nat.mul_one] at hl
  have hc := @World.ownsRow.cells _ _ _ _ _ _ _ h
  refine ⟨hl, ?_⟩
  rcases h.2 with ⟨hv, h0⟩ | ⟨g, cap, cur, rfl, hb, hg, hcap, _⟩
  · subst h0
    exact ⟨none, 0, hv, .inl (List.eq_nil_of_length_eq_zero hl)⟩
  · refine ⟨some ⟨g, 0, none⟩, cap, rfl, .inr ⟨g, 0, rfl, fun j hj => ?_⟩⟩
    have := hc (g := g) rfl j (.int .u8 (l.getD j 0)) (by simp [hj])
    rw [Addr.add_lit] at this
    exact this

theorem bytes9_any (a : Option Addr) (n cap : Nat) (w : World) (hn : n ≤ 9223372036854775807) :
    Calls Try.prog 9 #[.slice a n cap] w fun e w' => e = .returned (.bool (decide (n ≤ 1048576))) ∧ w' = w := by
  by_cases h : 1048576 < n
  · have H : Hid (decide (n ≤ 1048576) = false) := decide_eq_false (by omega)
    go_enter Try.func9, Try.ntmps9
    go_wp2
    go_ret
    exact ⟨ret_bool H.out.symm, rfl⟩
  · have H : Hid (decide (n ≤ 1048576) = true) := decide_eq_true (by omega)
    go_enter Try.func9, Try.ntmps9
    go_wp2
    go_ret
    exact ⟨ret_bool H.out.symm, rfl⟩

theorem clone_nil (w : World) : Calls Try.prog 10 #[.slice none 0 0] w fun e w' => e = .returned (.slice none 0 0) ∧ w' = w := by
  have q22 : ∀ (w : World) (a : Option Addr) (n c n' c' : Nat), (binOp .eql 22 (.slice a n c) (.slice none n' c')).run Try.prog w = .ok (.bool a.isNone) w := fun w a n c n' c' => Lib.run_eql_slice_nil w _ _ a n c n' c' Try.underlying22
  go_enter Try.func10, Try.ntmps10
  go_wp2
  go_ret
  exact ⟨rfl, rfl⟩

theorem clone_some (x : Addr) (cap : Nat) (l : List Int) (w : World) (hc : ∀ j, j < l.length → w.cell? (x.add j) = some (.int .u8 (l.getD j 0))) (hlen : l.length ≤ 1048576) :
    Calls Try.prog 10 #[.slice (some x) l.length cap] w fun e w' => ∃ v, e = .returned v ∧ w'.ownsRow w.heap.size 5 1 v l.length (l.map (Value.int .u8)) ∧ Below w.heap.size w w' := by
  have q22 : ∀ (w : World) (a : Option Addr) (n c n' c' : Nat), (binOp .eql 22 (.slice a n c) (.slice none n' c')).run Try.prog w = .ok (.bool a.isNone) w := fun w a n c n' c' => Lib.run_eql_slice_nil w _ _ a n c n' c' Try.underlying22
  obtain ⟨i0, hi, hz0, hz1, hz2⟩ := info_parts Try.info5
  have HC := hide hc
  clear hc
  go_enter Try.func10, Try.ntmps10
  go_wp2_with (at_make; refine wpList_make_full _ rfl _ _ 22 rfl w.heap.size 5 i0 (.int .u8 0) 1 Try.underlying22 hi hz0 hz1 .i64 .i64 _ _ l.length rfl rfl rfl rfl ?b1 ?b2 ?b3 ?_)
  case b1 => rw [hz2]; omega
  case b2 => unfold maxLen; omega
  case b3 => omega
  intro w1 hown hgrow
  have hg : ∃ cur : List Value, cur.length = l.length ∧ w1.heap[w.heap.size]? = some (.cells cur.toArray 5 (0, 0)) := by
    rcases hown.2 with ⟨h, _⟩ | ⟨g, cap', cur, h, _, hgg, _, _, hs, _⟩
    · cases h
    · injection h with h1 h2 h3
      injection h1 with h1
      injection h1 with h1
      subst h1
      exact ⟨cur.toList, by simpa [← h3] using hs, hgg⟩
  obtain ⟨cur, hcur, hg⟩ := hg
  have hbel : Below w.heap.size w w1 := (Below.refl _ _).grown hgrow (Nat.le_refl _) (by intro k hk; cases hk)
  have hsrc : ∀ j u, (l.map (Value.int .u8))[j]? = some u → w1.cell? (x.add j) = some u := by
    intro j u hu
    rw [List.getElem?_map, Option.map_eq_some_iff] at hu
    obtain ⟨y, hy, rfl⟩ := hu
    have hj := (List.getElem?_eq_some_iff.1 hy).1
    have h1 := HC.out j hj
    have h2 : l.getD j 0 = y := by rw [List.getD_eq_getElem?_getD, hy]; rfl
    rw [h2] at h1
    exact (hbel.cell (World.block_lt_of_cell? w _ h1)).trans h1
  obtain ⟨C, hC⟩ : ∃ C, C = l.map (Value.int .u8) := ⟨_, rfl⟩
  rw [← hC] at hsrc
  have hCl : C.length = l.length := by rw [hC, List.length_map]
  have h1c : ∀ u ∈ C, u.oneCell' = true := by rw [hC]; exact ints_oneCell _ _
  have HCl := hide hCl
  have HS := hide hsrc
  have HG := hide hg
  have HB := hide hbel
  have H1 := hide h1c
  have HCE := hide hC
  clear h1c hCl hC hsrc hg hbel hown hgrow
  go_wp2_with (refine wpList_copy_splice rfl _ _ 22 22 rfl 5 Try.underlying22 (by rw [hi]; simp [hz1]) _ _ l.length l.length l.length cap rfl rfl w.heap.size 0 cur 5 HG.out C ?d1 ?d2 ?d3 ?d4 w.heap.size w HB.out (Nat.le_refl _) ?_)
  case d1 => simp [HCl.out]
  case d2 => first | exact fun _ => ⟨rfl, x, rfl, HS.out⟩ | exact fun _ => HS.out
  case d3 => rw [HCl.out]; omega
  case d4 => exact H1.out
  intro w2 HG2 hB2
  have HB2 := hide hB2
  clear hB2
  go_wp2
  go_ret
  rw [← HCE.out]
  refine ⟨_, rfl, ⟨by simpa using HCl.out, .inr ⟨w.heap.size, l.length, _, rfl, Nat.le_refl _, HG2.out, Nat.le_refl _, by unfold maxLen; omega, ?_, ?_⟩⟩, HB2.out⟩
  · rw [List.size_toArray, length_splice _ _ _ (by rw [HCl.out]; omega), hcur, Nat.mul_one]
  · have := HCl.out
    rw [List.toList_toArray, Nat.mul_one, ← this]
    simp [splice]

/-- A slice of bytes that came in: nil, or a row of cells that read as l. -/
def Src (w : World) (a : Option Addr) (n cap : Nat) (l : List Int) : Prop :=
  l.length = n ∧ ((a = none ∧ n = 0 ∧ cap = 0) ∨ ∃ x, a = some x ∧ ∀ j, j < l.length → w.cell? (x.add j) = some (.int .u8 (l.getD j 0)))

theorem clone_any (a : Option Addr) (n cap : Nat) (l : List Int) (w : World) (h : Src w a n cap l) (hlen : n ≤ 1048576) :
    Calls Try.prog 10 #[.slice a n cap] w fun e w' => ∃ v, e = .returned v ∧ w'.ownsRow w.heap.size 5 1 v l.length (l.map (Value.int .u8)) ∧ Below w.heap.size w w' := by
  obtain ⟨rfl, h⟩ := h
  rcases h with ⟨rfl, h0, rfl⟩ | ⟨x, rfl, hc⟩
  · have hl : l = [] := List.eq_nil_of_length_eq_zero h0
    subst hl
    refine (clone_nil w).mono ?_
    rintro e w' ⟨rfl, rfl⟩
    exact ⟨_, rfl, World.ownsRow_nil _ _ _ _, Below.refl _ _⟩
  · exact clone_some x cap l w hc hlen

/-- How many bytes are digits. -/
def cntD (l : List Int) : Nat := l.countP isD

theorem cntD_le (l : List Int) : cntD l ≤ l.length := List.countP_le_length

theorem cntD_yes (l : List Int) (k : Nat) (hk : k < l.length) (h : isD (l.getD k 0) = true) : cntD (l.take (k + 1)) = cntD (l.take k) + 1 := by
  unfold cntD
  rw [take_succ' l k hk, List.countP_append]
  simp only [List.countP_cons, List.countP_nil, h, if_true, Nat.zero_add]

theorem cntD_no (l : List Int) (k : Nat) (hk : k < l.length) (h : isD (l.getD k 0) = false) : cntD (l.take (k + 1)) = cntD (l.take k) := by
  unfold cntD
  rw [take_succ' l k hk, List.countP_append]
  simp only [List.countP_cons, List.countP_nil, h]; rfl

theorem allD_eq (l : List Int) : allD l = (decide (0 < l.length) && decide (cntD l = l.length)) := by
  unfold allD cntD
  rw [Bool.and_comm]
  congr 1
  rw [Bool.eq_iff_iff]
  simp [List.countP_eq_length]

end Go.Proofs.Qxb6603215a
