/-
  The walks of copyU64, copyBools, copyBytes, copyInts.
-/
import Derived.Test.Qxb6603228aMem
import Derived.Lib.SliceRun
namespace Go.Proofs.Qxb6603228a
open Go.RowKit


theorem Try.info34 : (Try.prog.info? 34).map (fun i => (i.zero, i.size, i.bytes)) = some (some (.int .u64 0), 1, 8) := by kernel_rfl

set_option maxHeartbeats 1000000 in
theorem copyU64_any (v : Value) (l : List Int) (w : World) (h : Row w (fun g => g < w.heap.size) v (l.map (Value.int .u64))) (hlen : l.length ≤ 1048576) :
    Calls Try.prog 21 #[v] w fun e w' => ∃ u, e = .returned u ∧ Row w' (fun g => w.heap.size ≤ g ∧ g < w'.heap.size) u (l.map (Value.int .u64)) ∧ Below w.heap.size w w' := by
  have q : ∀ (w : World) (a : Option Addr) (n c n' c' : Nat), (binOp .eql 32 (.slice a n c) (.slice none n' c')).run Try.prog w = .ok (.bool a.isNone) w := fun w a n c n' c' => Lib.run_eql_slice_nil w _ _ a n c n' c' Try.underlying32
  obtain ⟨i0, hi, hz0, hz1, hz2⟩ := info_parts Try.info34
  obtain ⟨_, a, cap, rfl, hrow⟩ := h
  rw [List.length_map]
  cases a with
  | none =>
    have hl : l = [] := by
      rcases hrow with h | ⟨g, off, h, _⟩
      · simpa using h
      · cases h
    subst hl
    clear hrow
    go_enter Try.func21, Try.ntmps21
    go_wp2
    go_ret
    exact ⟨_, rfl, ⟨by simp, none, 0, rfl, .inl rfl⟩, Below.refl _ _⟩
  | some x =>
    have HR : Hid (∀ k, k < l.length → ∃ g off, x = ⟨g, off, none⟩ ∧ g < w.heap.size ∧ w.cell? ⟨g, off + k, none⟩ = some (Value.int .u64 (l.getD k 0))) := by
      intro k hk
      rcases hrow with h | ⟨g, off, h, hg, hc⟩
      · simp at h; rw [h] at hk; simp at hk
      · injection h with h
        exact ⟨g, off, h, hg, by rw [hc k (by simpa using hk), map_getD _ _ 0 _ hk]⟩
    clear hrow
    go_enter Try.func21, Try.ntmps21
    go_wp2_with (at_make; refine wpList_make_full _ rfl _ _ 32 rfl w.heap.size 34 i0 (.int .u64 0) 1 Try.underlying32 hi hz0 hz1 .i64 .i64 _ _ l.length rfl rfl rfl rfl ?b1 ?b2 ?b3 ?_)
    case b1 => rw [hz2]; omega
    case b2 => unfold maxLen; omega
    case b3 => omega
    intro w1 hown hgrow
    have hfree : Free w1 w.heap.size l.length := fun j hj => ⟨⟨_, by rw [hown.cellAt j (by omega), toList_madeCells_one]; exact List.getElem?_replicate_of_lt (by omega)⟩, hown.frozenAt j⟩
    have hbel : Below w.heap.size w w1 := (Below.refl _ _).grown hgrow (Nat.le_refl _) (by intro k hk; cases hk)
    have hsz : w.heap.size < w1.heap.size := (hown.lt w.heap.size rfl).2
    have HF := hide hfree
    have HB := hide hbel
    clear hown hgrow hfree hbel
    go_wp2_with fail
    go_loopw [4, 12] (fun _ i wr => ∃ k : Nat, i = .int .i64 k ∧ k ≤ l.length ∧ Hid (Free wr w.heap.size l.length) ∧ Hid (∀ j, j < k → wr.cell? ⟨w.heap.size, j, none⟩ = some (Value.int .u64 (l.getD j 0))) ∧ Below w.heap.size w wr ∧ w.heap.size < wr.heap.size) (fun _ i _ => l.length - (intOf i).toNat)
    case atStart => exact ⟨0, rfl, Nat.zero_le _, HF.out, fun j hj => by omega, HB.out, hsz⟩
    case round =>
      obtain ⟨k, rfl, hk, hfr, hdone, hnx, hszr⟩ := hrel
      by_cases hlt : k < l.length
      · obtain ⟨g, off, hx, hg, hcell⟩ := HR.out k hlt
        subst hx
        obtain ⟨y, hy⟩ : ∃ y, y = l.getD k 0 := ⟨_, rfl⟩
        have cb : wr.cell? ⟨g, off + k, none⟩ = some (Value.int .u64 y) := by rw [hy]; exact (hnx.cell (p := ⟨g, off + k, none⟩) hg).trans hcell
        obtain ⟨⟨z, hz⟩, hfz⟩ := hfr.out k hlt
        have HY := hide hy
        clear hy hcell
        go_wp2
        go_roundw
        case rel =>
          refine ⟨k + 1, by go_num, by omega, hfr.out.set, fun j hj => ?_, hnx.setCell (Nat.le_refl _) _, by simpa [World.setCell] using hszr⟩
          by_cases hjk : j = k
          · subst hjk; rw [← HY.out]; exact set_same hz
          · rw [set_other hjk]; exact hdone.out j (by omega)
        case measure => simp [intOf]; omega
      · have hkl : k = l.length := by omega
        subst hkl
        go_wp2
        go_ret
        refine ⟨_, rfl, ⟨by simp; omega, some ⟨w.heap.size, 0, none⟩, l.length, by simp, .inr ⟨w.heap.size, 0, rfl, ⟨Nat.le_refl _, hszr⟩, fun j hj => ?_⟩⟩, hnx⟩
        rw [List.length_map] at hj
        rw [Nat.zero_add, map_getD _ _ 0 _ hj]
        exact hdone.out j hj

theorem Try.info4 : (Try.prog.info? 4).map (fun i => (i.zero, i.size, i.bytes)) = some (some (.bool false), 1, 1) := by kernel_rfl

set_option maxHeartbeats 1000000 in
theorem copyBools_any (v : Value) (l : List Bool) (w : World) (h : Row w (fun g => g < w.heap.size) v (l.map (Value.bool))) (hlen : l.length ≤ 1048576) :
    Calls Try.prog 23 #[v] w fun e w' => ∃ u, e = .returned u ∧ Row w' (fun g => w.heap.size ≤ g ∧ g < w'.heap.size) u (l.map (Value.bool)) ∧ Below w.heap.size w w' := by
  have q : ∀ (w : World) (a : Option Addr) (n c n' c' : Nat), (binOp .eql 31 (.slice a n c) (.slice none n' c')).run Try.prog w = .ok (.bool a.isNone) w := fun w a n c n' c' => Lib.run_eql_slice_nil w _ _ a n c n' c' Try.underlying31
  obtain ⟨i0, hi, hz0, hz1, hz2⟩ := info_parts Try.info4
  obtain ⟨_, a, cap, rfl, hrow⟩ := h
  rw [List.length_map]
  cases a with
  | none =>
    have hl : l = [] := by
      rcases hrow with h | ⟨g, off, h, _⟩
      · simpa using h
      · cases h
    subst hl
    clear hrow
    go_enter Try.func23, Try.ntmps23
    go_wp2
    go_ret
    exact ⟨_, rfl, ⟨by simp, none, 0, rfl, .inl rfl⟩, Below.refl _ _⟩
  | some x =>
    have HR : Hid (∀ k, k < l.length → ∃ g off, x = ⟨g, off, none⟩ ∧ g < w.heap.size ∧ w.cell? ⟨g, off + k, none⟩ = some (Value.bool (l.getD k false))) := by
      intro k hk
      rcases hrow with h | ⟨g, off, h, hg, hc⟩
      · simp at h; rw [h] at hk; simp at hk
      · injection h with h
        exact ⟨g, off, h, hg, by rw [hc k (by simpa using hk), map_getD _ _ false _ hk]⟩
    clear hrow
    go_enter Try.func23, Try.ntmps23
    go_wp2_with (at_make; refine wpList_make_full _ rfl _ _ 31 rfl w.heap.size 4 i0 (.bool false) 1 Try.underlying31 hi hz0 hz1 .i64 .i64 _ _ l.length rfl rfl rfl rfl ?b1 ?b2 ?b3 ?_)
    case b1 => rw [hz2]; omega
    case b2 => unfold maxLen; omega
    case b3 => omega
    intro w1 hown hgrow
    have hfree : Free w1 w.heap.size l.length := fun j hj => ⟨⟨_, by rw [hown.cellAt j (by omega), toList_madeCells_one]; exact List.getElem?_replicate_of_lt (by omega)⟩, hown.frozenAt j⟩
    have hbel : Below w.heap.size w w1 := (Below.refl _ _).grown hgrow (Nat.le_refl _) (by intro k hk; cases hk)
    have hsz : w.heap.size < w1.heap.size := (hown.lt w.heap.size rfl).2
    have HF := hide hfree
    have HB := hide hbel
    clear hown hgrow hfree hbel
    go_wp2_with fail
    go_loopw [4, 12] (fun _ i wr => ∃ k : Nat, i = .int .i64 k ∧ k ≤ l.length ∧ Hid (Free wr w.heap.size l.length) ∧ Hid (∀ j, j < k → wr.cell? ⟨w.heap.size, j, none⟩ = some (Value.bool (l.getD j false))) ∧ Below w.heap.size w wr ∧ w.heap.size < wr.heap.size) (fun _ i _ => l.length - (intOf i).toNat)
    case atStart => exact ⟨0, rfl, Nat.zero_le _, HF.out, fun j hj => by omega, HB.out, hsz⟩
    case round =>
      obtain ⟨k, rfl, hk, hfr, hdone, hnx, hszr⟩ := hrel
      by_cases hlt : k < l.length
      · obtain ⟨g, off, hx, hg, hcell⟩ := HR.out k hlt
        subst hx
        obtain ⟨y, hy⟩ : ∃ y, y = l.getD k false := ⟨_, rfl⟩
        have cb : wr.cell? ⟨g, off + k, none⟩ = some (Value.bool y) := by rw [hy]; exact (hnx.cell (p := ⟨g, off + k, none⟩) hg).trans hcell
        obtain ⟨⟨z, hz⟩, hfz⟩ := hfr.out k hlt
        have HY := hide hy
        clear hy hcell
        go_wp2
        go_roundw
        case rel =>
          refine ⟨k + 1, by go_num, by omega, hfr.out.set, fun j hj => ?_, hnx.setCell (Nat.le_refl _) _, by simpa [World.setCell] using hszr⟩
          by_cases hjk : j = k
          · subst hjk; rw [← HY.out]; exact set_same hz
          · rw [set_other hjk]; exact hdone.out j (by omega)
        case measure => simp [intOf]; omega
      · have hkl : k = l.length := by omega
        subst hkl
        go_wp2
        go_ret
        refine ⟨_, rfl, ⟨by simp; omega, some ⟨w.heap.size, 0, none⟩, l.length, by simp, .inr ⟨w.heap.size, 0, rfl, ⟨Nat.le_refl _, hszr⟩, fun j hj => ?_⟩⟩, hnx⟩
        rw [List.length_map] at hj
        rw [Nat.zero_add, map_getD _ _ false _ hj]
        exact hdone.out j hj

theorem Try.info5 : (Try.prog.info? 5).map (fun i => (i.zero, i.size, i.bytes)) = some (some (.int .u8 0), 1, 1) := by kernel_rfl

set_option maxHeartbeats 1000000 in
theorem copyBytes_any (v : Value) (l : List Int) (w : World) (h : Row w (fun g => g < w.heap.size) v (l.map (Value.int .u8))) (hlen : l.length ≤ 1048576) :
    Calls Try.prog 25 #[v] w fun e w' => ∃ u, e = .returned u ∧ Row w' (fun g => w.heap.size ≤ g ∧ g < w'.heap.size) u (l.map (Value.int .u8)) ∧ Below w.heap.size w w' := by
  have q : ∀ (w : World) (a : Option Addr) (n c n' c' : Nat), (binOp .eql 35 (.slice a n c) (.slice none n' c')).run Try.prog w = .ok (.bool a.isNone) w := fun w a n c n' c' => Lib.run_eql_slice_nil w _ _ a n c n' c' Try.underlying35
  obtain ⟨i0, hi, hz0, hz1, hz2⟩ := info_parts Try.info5
  obtain ⟨_, a, cap, rfl, hrow⟩ := h
  rw [List.length_map]
  cases a with
  | none =>
    have hl : l = [] := by
      rcases hrow with h | ⟨g, off, h, _⟩
      · simpa using h
      · cases h
    subst hl
    clear hrow
    go_enter Try.func25, Try.ntmps25
    go_wp2
    go_ret
    exact ⟨_, rfl, ⟨by simp, none, 0, rfl, .inl rfl⟩, Below.refl _ _⟩
  | some x =>
    have HR : Hid (∀ k, k < l.length → ∃ g off, x = ⟨g, off, none⟩ ∧ g < w.heap.size ∧ w.cell? ⟨g, off + k, none⟩ = some (Value.int .u8 (l.getD k 0))) := by
      intro k hk
      rcases hrow with h | ⟨g, off, h, hg, hc⟩
      · simp at h; rw [h] at hk; simp at hk
      · injection h with h
        exact ⟨g, off, h, hg, by rw [hc k (by simpa using hk), map_getD _ _ 0 _ hk]⟩
    clear hrow
    go_enter Try.func25, Try.ntmps25
    go_wp2_with (at_make; refine wpList_make_full _ rfl _ _ 35 rfl w.heap.size 5 i0 (.int .u8 0) 1 Try.underlying35 hi hz0 hz1 .i64 .i64 _ _ l.length rfl rfl rfl rfl ?b1 ?b2 ?b3 ?_)
    case b1 => rw [hz2]; omega
    case b2 => unfold maxLen; omega
    case b3 => omega
    intro w1 hown hgrow
    have hfree : Free w1 w.heap.size l.length := fun j hj => ⟨⟨_, by rw [hown.cellAt j (by omega), toList_madeCells_one]; exact List.getElem?_replicate_of_lt (by omega)⟩, hown.frozenAt j⟩
    have hbel : Below w.heap.size w w1 := (Below.refl _ _).grown hgrow (Nat.le_refl _) (by intro k hk; cases hk)
    have hsz : w.heap.size < w1.heap.size := (hown.lt w.heap.size rfl).2
    have HF := hide hfree
    have HB := hide hbel
    clear hown hgrow hfree hbel
    go_wp2_with fail
    go_loopw [4, 12] (fun _ i wr => ∃ k : Nat, i = .int .i64 k ∧ k ≤ l.length ∧ Hid (Free wr w.heap.size l.length) ∧ Hid (∀ j, j < k → wr.cell? ⟨w.heap.size, j, none⟩ = some (Value.int .u8 (l.getD j 0))) ∧ Below w.heap.size w wr ∧ w.heap.size < wr.heap.size) (fun _ i _ => l.length - (intOf i).toNat)
    case atStart => exact ⟨0, rfl, Nat.zero_le _, HF.out, fun j hj => by omega, HB.out, hsz⟩
    case round =>
      obtain ⟨k, rfl, hk, hfr, hdone, hnx, hszr⟩ := hrel
      by_cases hlt : k < l.length
      · obtain ⟨g, off, hx, hg, hcell⟩ := HR.out k hlt
        subst hx
        obtain ⟨y, hy⟩ : ∃ y, y = l.getD k 0 := ⟨_, rfl⟩
        have cb : wr.cell? ⟨g, off + k, none⟩ = some (Value.int .u8 y) := by rw [hy]; exact (hnx.cell (p := ⟨g, off + k, none⟩) hg).trans hcell
        obtain ⟨⟨z, hz⟩, hfz⟩ := hfr.out k hlt
        have HY := hide hy
        clear hy hcell
        go_wp2
        go_roundw
        case rel =>
          refine ⟨k + 1, by go_num, by omega, hfr.out.set, fun j hj => ?_, hnx.setCell (Nat.le_refl _) _, by simpa [World.setCell] using hszr⟩
          by_cases hjk : j = k
          · subst hjk; rw [← HY.out]; exact set_same hz
          · rw [set_other hjk]; exact hdone.out j (by omega)
        case measure => simp [intOf]; omega
      · have hkl : k = l.length := by omega
        subst hkl
        go_wp2
        go_ret
        refine ⟨_, rfl, ⟨by simp; omega, some ⟨w.heap.size, 0, none⟩, l.length, by simp, .inr ⟨w.heap.size, 0, rfl, ⟨Nat.le_refl _, hszr⟩, fun j hj => ?_⟩⟩, hnx⟩
        rw [List.length_map] at hj
        rw [Nat.zero_add, map_getD _ _ 0 _ hj]
        exact hdone.out j hj

theorem Try.info3 : (Try.prog.info? 3).map (fun i => (i.zero, i.size, i.bytes)) = some (some (.int .i64 0), 1, 8) := by kernel_rfl

set_option maxHeartbeats 1000000 in
theorem copyInts_any (v : Value) (l : List Int) (w : World) (h : Row w (fun g => g < w.heap.size) v (l.map (Value.int .i64))) (hlen : l.length ≤ 1048576) :
    Calls Try.prog 24 #[v] w fun e w' => ∃ u, e = .returned u ∧ Row w' (fun g => w.heap.size ≤ g ∧ g < w'.heap.size) u (l.map (Value.int .i64)) ∧ Below w.heap.size w w' := by
  have q : ∀ (w : World) (a : Option Addr) (n c n' c' : Nat), (binOp .eql 29 (.slice a n c) (.slice none n' c')).run Try.prog w = .ok (.bool a.isNone) w := fun w a n c n' c' => Lib.run_eql_slice_nil w _ _ a n c n' c' Try.underlying29
  obtain ⟨i0, hi, hz0, hz1, hz2⟩ := info_parts Try.info3
  obtain ⟨_, a, cap, rfl, hrow⟩ := h
  rw [List.length_map]
  cases a with
  | none =>
    have hl : l = [] := by
      rcases hrow with h | ⟨g, off, h, _⟩
      · simpa using h
      · cases h
    subst hl
    clear hrow
    go_enter Try.func24, Try.ntmps24
    go_wp2
    go_ret
    exact ⟨_, rfl, ⟨by simp, none, 0, rfl, .inl rfl⟩, Below.refl _ _⟩
  | some x =>
    have HR : Hid (∀ k, k < l.length → ∃ g off, x = ⟨g, off, none⟩ ∧ g < w.heap.size ∧ w.cell? ⟨g, off + k, none⟩ = some (Value.int .i64 (l.getD k 0))) := by
      intro k hk
      rcases hrow with h | ⟨g, off, h, hg, hc⟩
      · simp at h; rw [h] at hk; simp at hk
      · injection h with h
        exact ⟨g, off, h, hg, by rw [hc k (by simpa using hk), map_getD _ _ 0 _ hk]⟩
    clear hrow
    go_enter Try.func24, Try.ntmps24
    go_wp2_with (at_make; refine wpList_make_full _ rfl _ _ 29 rfl w.heap.size 3 i0 (.int .i64 0) 1 Try.underlying29 hi hz0 hz1 .i64 .i64 _ _ l.length rfl rfl rfl rfl ?b1 ?b2 ?b3 ?_)
    case b1 => rw [hz2]; omega
    case b2 => unfold maxLen; omega
    case b3 => omega
    intro w1 hown hgrow
    have hfree : Free w1 w.heap.size l.length := fun j hj => ⟨⟨_, by rw [hown.cellAt j (by omega), toList_madeCells_one]; exact List.getElem?_replicate_of_lt (by omega)⟩, hown.frozenAt j⟩
    have hbel : Below w.heap.size w w1 := (Below.refl _ _).grown hgrow (Nat.le_refl _) (by intro k hk; cases hk)
    have hsz : w.heap.size < w1.heap.size := (hown.lt w.heap.size rfl).2
    have HF := hide hfree
    have HB := hide hbel
    clear hown hgrow hfree hbel
    go_wp2_with fail
    go_loopw [4, 12] (fun _ i wr => ∃ k : Nat, i = .int .i64 k ∧ k ≤ l.length ∧ Hid (Free wr w.heap.size l.length) ∧ Hid (∀ j, j < k → wr.cell? ⟨w.heap.size, j, none⟩ = some (Value.int .i64 (l.getD j 0))) ∧ Below w.heap.size w wr ∧ w.heap.size < wr.heap.size) (fun _ i _ => l.length - (intOf i).toNat)
    case atStart => exact ⟨0, rfl, Nat.zero_le _, HF.out, fun j hj => by omega, HB.out, hsz⟩
    case round =>
      obtain ⟨k, rfl, hk, hfr, hdone, hnx, hszr⟩ := hrel
      by_cases hlt : k < l.length
      · obtain ⟨g, off, hx, hg, hcell⟩ := HR.out k hlt
        subst hx
        obtain ⟨y, hy⟩ : ∃ y, y = l.getD k 0 := ⟨_, rfl⟩
        have cb : wr.cell? ⟨g, off + k, none⟩ = some (Value.int .i64 y) := by rw [hy]; exact (hnx.cell (p := ⟨g, off + k, none⟩) hg).trans hcell
        obtain ⟨⟨z, hz⟩, hfz⟩ := hfr.out k hlt
        have HY := hide hy
        clear hy hcell
        go_wp2
        go_roundw
        case rel =>
          refine ⟨k + 1, by go_num, by omega, hfr.out.set, fun j hj => ?_, hnx.setCell (Nat.le_refl _) _, by simpa [World.setCell] using hszr⟩
          by_cases hjk : j = k
          · subst hjk; rw [← HY.out]; exact set_same hz
          · rw [set_other hjk]; exact hdone.out j (by omega)
        case measure => simp [intOf]; omega
      · have hkl : k = l.length := by omega
        subst hkl
        go_wp2
        go_ret
        refine ⟨_, rfl, ⟨by simp; omega, some ⟨w.heap.size, 0, none⟩, l.length, by simp, .inr ⟨w.heap.size, 0, rfl, ⟨Nat.le_refl _, hszr⟩, fun j hj => ?_⟩⟩, hnx⟩
        rw [List.length_map] at hj
        rw [Nat.zero_add, map_getD _ _ 0 _ hj]
        exact hdone.out j hj

end Go.Proofs.Qxb6603228a
