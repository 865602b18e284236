/-
  From the readings of the arguments to rows in memory.
-/
import Derived.Test.Qxb6603228aMem
import Derived.ProofKit
import Derived.Deep.Slices
namespace Go.Proofs.Qxb6603228a
open Go.RowKit Go.ChangeShapes Go.WideShapes

section
variable {H : Type} {enc : TypeId × Value → H} {W : World} {held : Bool} {fuel : Nat}

theorem range_getD {α : Type} (n : Nat) (f : Nat → α) (d : α) (i : Nat) (hi : i < n) : ((List.range n).map f).getD i d = f i := by
  simp [hi]

/-- A slice whose elements are one cell each. -/
theorem row_of {t e : TypeId} {v : Value} {x : DataW H × List MemPlace} (ht : Try.prog.underlying t = some (.slice e)) (hc : Try.prog.cellsOf e = 1) (h : DataW.trod enc Try.prog W 0 (fun _ => true) held fuel t [v] = some x) :
    ∃ (n : Nat) (V : Nat → Value), Row W (fun g => g < W.heap.size) v ((List.range n).map V) ∧ ∀ i, i < n → ∃ m y, DataW.trod enc Try.prog W 0 (fun _ => true) held m e [V i] = some y := by
  rcases Deep.open_slice1 ht hc h with ⟨hcs, _⟩ | ⟨a, len, cap, m, k, V, D, Pl, hcs, _, hl, hm, hmm, _, hx⟩
  · injection hcs with hcs
    subst hcs
    exact ⟨0, fun _ => undef, ⟨by simp, none, 0, rfl, .inl rfl⟩, fun i hi => by omega⟩
  · injection hcs with hcs
    subst hcs
    unfold maxLen at hm
    have hlm : len ≤ m := by rw [hmm]; simpa using hl
    refine ⟨len, V, ⟨by simp; omega, some a, cap, by simp, ?_⟩, fun i hi => ⟨k, _, (hx i (by omega)).2⟩⟩
    by_cases h0 : len = 0
    · subst h0; exact .inl rfl
    · right
      obtain ⟨g, off, spot⟩ := a
      have hc0 := (hx 0 (by omega)).1
      have hspot : spot = none := by simpa [Addr.add] using World.cell?_spot hc0
      subst hspot
      refine ⟨g, off, rfl, ?_, fun j hj => ?_⟩
      · have := World.block_lt_of_cell? W _ hc0
        simpa [Addr.add] using this
      · rw [List.length_map, List.length_range] at hj
        have := (hx j (by omega)).1
        rw [Addr.add_lit] at this
        rw [this, range_getD _ _ _ _ hj]

theorem ints_of {t e : TypeId} {k : IntKind} {v : Value} {x : DataW H × List MemPlace} (ht : Try.prog.underlying t = some (.slice e)) (he : Try.prog.underlying e = some (.int k)) (hc : Try.prog.cellsOf e = 1) (h : DataW.trod enc Try.prog W 0 (fun _ => true) held fuel t [v] = some x) :
    ∃ l : List Int, Row W (fun g => g < W.heap.size) v (l.map (Value.int k)) ∧ ∀ x ∈ l, (Lit.int k x).wf = true := by
  obtain ⟨n, V, hrow, hV⟩ := row_of ht hc h
  obtain ⟨f, hf⟩ := Deep.choose_lt (n := n) (p := fun i x => V i = .int k x ∧ (Lit.int k x).wf = true) (fun i hi => by
    obtain ⟨m, y, hy⟩ := hV i hi
    obtain ⟨z, hz, _, hw⟩ := DataW.trod_int he hy
    injection hz with hz
    exact ⟨z, hz, hw⟩)
  refine ⟨(List.range n).map f, ?_, ?_⟩
  · have e : ((List.range n).map f).map (Value.int k) = (List.range n).map V := by
      rw [List.map_map]
      exact List.map_congr_left fun i hi => (hf i (List.mem_range.1 hi)).1.symm
    rw [e]; exact hrow
  · intro x hx
    obtain ⟨i, hi, rfl⟩ := List.mem_map.1 hx
    exact (hf i (List.mem_range.1 hi)).2

theorem bools_of {t e : TypeId} {v : Value} {x : DataW H × List MemPlace} (ht : Try.prog.underlying t = some (.slice e)) (he : Try.prog.underlying e = some .bool) (hc : Try.prog.cellsOf e = 1) (h : DataW.trod enc Try.prog W 0 (fun _ => true) held fuel t [v] = some x) :
    ∃ l : List Bool, Row W (fun g => g < W.heap.size) v (l.map Value.bool) := by
  obtain ⟨n, V, hrow, hV⟩ := row_of ht hc h
  obtain ⟨f, hf⟩ := Deep.choose_lt (n := n) (p := fun i x => V i = .bool x) (fun i hi => by
    obtain ⟨m, y, hy⟩ := hV i hi
    obtain ⟨z, hz, _⟩ := DataW.trod_bool he hy
    injection hz with hz
    exact ⟨z, hz⟩)
  refine ⟨(List.range n).map f, ?_⟩
  have e : ((List.range n).map f).map Value.bool = (List.range n).map V := by
    rw [List.map_map]
    exact List.map_congr_left fun i hi => (hf i (List.mem_range.1 hi)).symm
  rw [e]; exact hrow

theorem Try.cells5 : Try.prog.cellsOf 5 = 1 := by kernel_rfl
theorem Try.cells35 : Try.prog.cellsOf 35 = 1 := by kernel_rfl
theorem Try.cells51 : Try.prog.cellsOf 51 = 1 := by kernel_rfl
theorem Try.cells52 : Try.prog.cellsOf 52 = 2 := by kernel_rfl
theorem Try.cells34 : Try.prog.cellsOf 34 = 1 := by kernel_rfl
theorem Try.cells3 : Try.prog.cellsOf 3 = 1 := by kernel_rfl
theorem Try.cells4 : Try.prog.cellsOf 4 = 1 := by kernel_rfl

theorem bs_of {v : Value} {x : DataW H × List MemPlace} (h : DataW.trod enc Try.prog W 0 (fun _ => true) held fuel 35 [v] = some x) : ∃ l : List Int, Bs W (fun g => g < W.heap.size) v l := by
  obtain ⟨l, hl, hw⟩ := ints_of Try.underlying35 Try.underlying5 Try.cells5 h
  exact ⟨l, hl, fun x hx => bounds_u8 (hw x hx)⟩

theorem ps_of {v : Value} {x : DataW H × List MemPlace} (h : DataW.trod enc Try.prog W 0 (fun _ => true) held fuel 51 [v] = some x) : ∃ ps, Ps W (fun g => g < W.heap.size) v ps := by
  rcases Deep.open_slice Try.underlying51 h with ⟨hcs, _⟩ | ⟨a, len, cap, m, k, D, Pl, hcs, _, hl, hm, hmm, _, hx⟩
  · injection hcs with hcs
    subst hcs
    exact ⟨[], by simp, none, 0, rfl, .inl rfl⟩
  · injection hcs with hcs
    subst hcs
    unfold maxLen at hm
    rw [Try.cells52] at hx
    have hlm : len ≤ m := by rw [hmm]; simpa using hl
    have each : ∀ i, i < len → ∃ q : List Int × List Int, ∃ u0 u1, W.cell? (a.add (i * 2)) = some u0 ∧ W.cell? ((a.add (i * 2)).add 1) = some u1 ∧ Bs W (fun g => g < W.heap.size) u0 q.1 ∧ Bs W (fun g => g < W.heap.size) u1 q.2 := by
      intro i hi
      obtain ⟨cs', h1, h2⟩ := hx i (by omega)
      obtain ⟨_, hlen, hcell⟩ := World.cells?_some h1
      match cs', hlen with
      | [u0, u1], _ =>
        obtain ⟨xs, m', _, _, _, hxl, hxs⟩ := DataW.trod_array Try.underlying52 h2
        simp only [Try.cells35] at hxs
        have g0 : xs[0]? = some xs[0] := List.getElem?_eq_getElem (by omega)
        have g1 : xs[1]? = some xs[1] := List.getElem?_eq_getElem (by omega)
        have e0 := (hxs 0 (by omega)).trans g0
        have e1 := (hxs 1 (by omega)).trans g1
        obtain ⟨l0, hl0⟩ := bs_of (v := u0) (by simpa using e0)
        obtain ⟨l1, hl1⟩ := bs_of (v := u1) (by simpa using e1)
        refine ⟨(l0, l1), u0, u1, ?_, ?_, hl0, hl1⟩
        · have := hcell 0 (by omega)
          simpa [Addr.add] using this
        · have := hcell 1 (by omega)
          simpa using this
    obtain ⟨f, hf⟩ := Deep.choose_lt each
    refine ⟨(List.range len).map f, by simp; omega, some a, cap, by simp, ?_⟩
    by_cases h0 : len = 0
    · subst h0; exact .inl rfl
    · right
      obtain ⟨g, off, spot⟩ := a
      obtain ⟨u0, u1, hc0, _⟩ := hf 0 (by omega)
      have hspot : spot = none := by simpa [Addr.add] using World.cell?_spot hc0
      subst hspot
      refine ⟨g, off, rfl, ?_, fun j hj => ?_⟩
      · have := World.block_lt_of_cell? W _ hc0
        simpa [Addr.add] using this
      · rw [List.length_map, List.length_range] at hj
        obtain ⟨v0, v1, c0, c1, b0, b1⟩ := hf j hj
        rw [Addr.add_lit] at c0 c1
        rw [Addr.add_lit] at c1
        rw [range_getD _ _ _ _ hj]
        exact ⟨v0, v1, c0, c1, b0, b1⟩

theorem ws_of {v : Value} {x : DataW H × List MemPlace} (h : DataW.trod enc Try.prog W 0 (fun _ => true) held fuel 33 [v] = some x) : ∃ ws, Ws W (fun g => g < W.heap.size) v ws := by
  obtain ⟨n, V, ⟨hl, a, cap, rfl, hrow⟩, hV⟩ := row_of Try.underlying33 Try.cells51 h
  obtain ⟨f, hf⟩ := Deep.choose_lt (n := n) (p := fun i ps => Ps W (fun g => g < W.heap.size) (V i) ps) (fun i hi => by
    obtain ⟨m, y, hy⟩ := hV i hi
    exact ps_of hy)
  refine ⟨(List.range n).map f, by simpa using hl, a, cap, by simp, ?_⟩
  rcases hrow with h | ⟨g, off, ha, hg, hc⟩
  · left
    simp at h ⊢
    exact h
  · right
    refine ⟨g, off, ha, hg, fun j hj => ?_⟩
    rw [List.length_map, List.length_range] at hj
    refine ⟨V j, ?_, ?_⟩
    · rw [hc j (by simpa using hj), range_getD _ _ _ _ hj]
    · rw [range_getD _ _ _ _ hj]; exact hf j hj
end

end Go.Proofs.Qxb6603228a
