/-
  What a slice in memory reads as: rows of one-cell values, byte slices, slices of pairs of byte slices, slices of those. 'S': the blocks that the reading passes through.
-/
import Derived.Test.Qxb6603228aRows
import Derived.WalkKit
import Derived.WalkSpells
import Derived.WalkSmall
import Derived.OpenShut
namespace Go.Proofs.Qxb6603228a
open Go.RowKit

theorem hide {p : Prop} (h : p) : Hid p := h
theorem ret_int {k : IntKind} {a b : Int} (h : a = b) : Ending.returned (.int k a) = .returned (.int k b) := by rw [h]
theorem ret_bool {a b : Bool} (h : a = b) : Ending.returned (.bool a) = .returned (.bool b) := by rw [h]

/-- It returns a Boolean, whichever. -/
def IsBool (e : Ending) : Prop := ∃ b, e = .returned (.bool b)
theorem isBool (b : Bool) : IsBool (.returned (.bool b)) := ⟨b, rfl⟩

/-- The blocks in S are as they were. -/
def Keeps (S : Nat → Prop) (w w' : World) : Prop := ∀ g, S g → w'.heap[g]? = w.heap[g]?

theorem Keeps.cell {S : Nat → Prop} {w w' : World} (h : Keeps S w w') {g o : Nat} (hg : S g) : w'.cell? ⟨g, o, none⟩ = w.cell? ⟨g, o, none⟩ := World.cell?_of_block (a := ⟨g, o, none⟩) (h g hg)
theorem Keeps.refl (S : Nat → Prop) (w : World) : Keeps S w w := fun _ _ => rfl
theorem Keeps.trans {S : Nat → Prop} {a b c : World} (h : Keeps S a b) (k : Keeps S b c) : Keeps S a c := fun g hg => (k g hg).trans (h g hg)
theorem keeps_below {B : Nat} {w w' : World} (h : Below B w w') : Keeps (fun g => g < B) w w' := h.block
theorem keeps_sub {S T : Nat → Prop} {w w' : World} (h : Keeps S w w') (hs : ∀ g, T g → S g) : Keeps T w w' := fun g hg => h g (hs g hg)

/-- A slice of one-cell values. -/
def Row (w : World) (S : Nat → Prop) (v : Value) (cs : List Value) : Prop :=
  cs.length ≤ 9223372036854775807 ∧ ∃ a cap, v = .slice a cs.length cap ∧ (cs = [] ∨ ∃ g off, a = some ⟨g, off, none⟩ ∧ S g ∧ ∀ j, j < cs.length → w.cell? ⟨g, off + j, none⟩ = some (cs.getD j undef))

theorem Row.keep {w w' : World} {S : Nat → Prop} {v : Value} {cs : List Value} (h : Row w S v cs) (k : Keeps S w w') : Row w' S v cs := by
  obtain ⟨hl, a, cap, rfl, h⟩ := h
  refine ⟨hl, a, cap, rfl, ?_⟩
  rcases h with h | ⟨g, off, rfl, hg, hc⟩
  · exact .inl h
  · exact .inr ⟨g, off, rfl, hg, fun j hj => (k.cell hg).trans (hc j hj)⟩

theorem Row.sub {w : World} {S T : Nat → Prop} {v : Value} {cs : List Value} (h : Row w S v cs) (k : ∀ g, S g → T g) : Row w T v cs := by
  obtain ⟨hl, a, cap, rfl, h⟩ := h
  refine ⟨hl, a, cap, rfl, ?_⟩
  rcases h with h | ⟨g, off, rfl, hg, hc⟩
  · exact .inl h
  · exact .inr ⟨g, off, rfl, k g hg, hc⟩

theorem map_getD {α : Type} (f : α → Value) (l : List α) (d : α) (j : Nat) (hj : j < l.length) : (l.map f).getD j undef = f (l.getD j d) := by
  simp [hj]

/-- A slice of bytes. -/
def Bs (w : World) (S : Nat → Prop) (v : Value) (l : List Int) : Prop := Row w S v (l.map (Value.int .u8)) ∧ ∀ x ∈ l, 0 ≤ x ∧ x ≤ 255

theorem Bs.keep {w w' : World} {S : Nat → Prop} {v : Value} {l : List Int} (h : Bs w S v l) (k : Keeps S w w') : Bs w' S v l := ⟨h.1.keep k, h.2⟩
theorem Bs.sub {w : World} {S T : Nat → Prop} {v : Value} {l : List Int} (h : Bs w S v l) (k : ∀ g, S g → T g) : Bs w T v l := ⟨h.1.sub k, h.2⟩

/-- A slice of pairs of byte slices. -/
def Ps (w : World) (S : Nat → Prop) (v : Value) (ps : List (List Int × List Int)) : Prop :=
  ps.length ≤ 9223372036854775807 ∧ ∃ a cap, v = .slice a ps.length cap ∧ (ps = [] ∨ ∃ g off, a = some ⟨g, off, none⟩ ∧ S g ∧
    ∀ k, k < ps.length → ∃ u0 u1, w.cell? ⟨g, off + k * 2, none⟩ = some u0 ∧ w.cell? ⟨g, off + k * 2 + 1, none⟩ = some u1 ∧ Bs w S u0 (ps.getD k ([], [])).1 ∧ Bs w S u1 (ps.getD k ([], [])).2)

theorem Ps.keep {w w' : World} {S : Nat → Prop} {v : Value} {ps : List (List Int × List Int)} (h : Ps w S v ps) (k : Keeps S w w') : Ps w' S v ps := by
  obtain ⟨hl, a, cap, rfl, h⟩ := h
  refine ⟨hl, a, cap, rfl, ?_⟩
  rcases h with h | ⟨g, off, rfl, hg, hc⟩
  · exact .inl h
  · refine .inr ⟨g, off, rfl, hg, fun j hj => ?_⟩
    obtain ⟨u0, u1, h0, h1, b0, b1⟩ := hc j hj
    exact ⟨u0, u1, (k.cell hg).trans h0, (k.cell hg).trans h1, b0.keep k, b1.keep k⟩

theorem Ps.sub {w : World} {S T : Nat → Prop} {v : Value} {ps : List (List Int × List Int)} (h : Ps w S v ps) (k : ∀ g, S g → T g) : Ps w T v ps := by
  obtain ⟨hl, a, cap, rfl, h⟩ := h
  refine ⟨hl, a, cap, rfl, ?_⟩
  rcases h with h | ⟨g, off, rfl, hg, hc⟩
  · exact .inl h
  · refine .inr ⟨g, off, rfl, k g hg, fun j hj => ?_⟩
    obtain ⟨u0, u1, h0, h1, b0, b1⟩ := hc j hj
    exact ⟨u0, u1, h0, h1, b0.sub k, b1.sub k⟩

/-- A slice of slices of pairs of byte slices. -/
def Ws (w : World) (S : Nat → Prop) (v : Value) (ws : List (List (List Int × List Int))) : Prop :=
  ws.length ≤ 9223372036854775807 ∧ ∃ a cap, v = .slice a ws.length cap ∧ (ws = [] ∨ ∃ g off, a = some ⟨g, off, none⟩ ∧ S g ∧
    ∀ i, i < ws.length → ∃ u, w.cell? ⟨g, off + i, none⟩ = some u ∧ Ps w S u (ws.getD i []))

theorem Ws.keep {w w' : World} {S : Nat → Prop} {v : Value} {ws : List (List (List Int × List Int))} (h : Ws w S v ws) (k : Keeps S w w') : Ws w' S v ws := by
  obtain ⟨hl, a, cap, rfl, h⟩ := h
  refine ⟨hl, a, cap, rfl, ?_⟩
  rcases h with h | ⟨g, off, rfl, hg, hc⟩
  · exact .inl h
  · refine .inr ⟨g, off, rfl, hg, fun j hj => ?_⟩
    obtain ⟨u, h0, b⟩ := hc j hj
    exact ⟨u, (k.cell hg).trans h0, b.keep k⟩

theorem Ws.sub {w : World} {S T : Nat → Prop} {v : Value} {ws : List (List (List Int × List Int))} (h : Ws w S v ws) (k : ∀ g, S g → T g) : Ws w T v ws := by
  obtain ⟨hl, a, cap, rfl, h⟩ := h
  refine ⟨hl, a, cap, rfl, ?_⟩
  rcases h with h | ⟨g, off, rfl, hg, hc⟩
  · exact .inl h
  · refine .inr ⟨g, off, rfl, k g hg, fun j hj => ?_⟩
    obtain ⟨u, h0, b⟩ := hc j hj
    exact ⟨u, h0, b.sub k⟩

/-- A block of the call's own: n cells that may be written. -/
def Free (w : World) (g n : Nat) : Prop := ∀ j, j < n → (∃ x, w.cell? ⟨g, j, none⟩ = some x) ∧ w.frozen? ⟨g, j, none⟩ = false

theorem Free.set {w : World} {g n i : Nat} {x : Value} (h : Free w g n) : Free (w.setCell ⟨g, i, none⟩ x) g n := by
  intro j hj
  obtain ⟨⟨y, hy⟩, hf⟩ := h j hj
  refine ⟨?_, by rw [World.frozen?_setCell]; exact hf⟩
  by_cases e : j = i
  · subst e; exact ⟨x, World.cell?_setCell_same _ _ _ hy⟩
  · exact ⟨y, (World.cell?_setCell_other _ _ _ _ (by simp)).trans hy⟩

theorem Free.keep {w w' : World} {g n : Nat} (h : Free w g n) (k : w'.heap[g]? = w.heap[g]?) : Free w' g n := by
  intro j hj
  obtain ⟨⟨y, hy⟩, hf⟩ := h j hj
  exact ⟨⟨y, (World.cell?_of_block (a := ⟨g, j, none⟩) k).trans hy⟩, (World.frozen?_of_block (a := ⟨g, j, none⟩) k).trans hf⟩

theorem set_same {w : World} {g i : Nat} {x y : Value} (h : w.cell? ⟨g, i, none⟩ = some y) : (w.setCell ⟨g, i, none⟩ x).cell? ⟨g, i, none⟩ = some x := World.cell?_setCell_same _ _ _ h
theorem set_other {w : World} {g i j : Nat} {x : Value} (h : j ≠ i) : (w.setCell ⟨g, i, none⟩ x).cell? ⟨g, j, none⟩ = w.cell? ⟨g, j, none⟩ := World.cell?_setCell_other _ _ _ _ (by simp)
theorem keeps_set {S : Nat → Prop} {w : World} {g i : Nat} {x : Value} (h : ¬ S g) : Keeps S w (w.setCell ⟨g, i, none⟩ x) :=
  fun k hk => heap_setCell_other w ⟨g, i, none⟩ k x (fun e => h (by subst e; exact hk))
theorem keeps_alloc {S : Nat → Prop} {w : World} {o : Obj} (h : ∀ g, S g → g < w.heap.size) : Keeps S w (w.alloc o) :=
  fun k hk => Below.heap_alloc w o k (h k hk)

end Go.Proofs.Qxb6603228a
