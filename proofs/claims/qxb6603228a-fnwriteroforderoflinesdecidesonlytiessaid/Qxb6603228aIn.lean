/-
  The five slices that a law takes, together.
-/
import Derived.Test.Qxb6603228aZz
import Derived.Test.Qxb6603228aDom
import Derived.Test.Qxb6603228aPlain
namespace Go.Proofs.Qxb6603228a
open Go.RowKit

def In (w : World) (S : Nat → Prop) (v0 v1 v2 v3 v7 : Value) (st : List Int) (ws : List (List (List Int × List Int))) (tk : List Bool) (ls vl : List Int) : Prop :=
  Row w S v0 (st.map (Value.int .u64)) ∧ Ws w S v1 ws ∧ Row w S v2 (tk.map Value.bool) ∧ Row w S v3 (ls.map (Value.int .i64)) ∧ Bs w S v7 vl

theorem In.keep {w w' : World} {S : Nat → Prop} {v0 v1 v2 v3 v7 : Value} {st : List Int} {ws : List (List (List Int × List Int))} {tk : List Bool} {ls vl : List Int} (h : In w S v0 v1 v2 v3 v7 st ws tk ls vl) (k : Keeps S w w') : In w' S v0 v1 v2 v3 v7 st ws tk ls vl :=
  ⟨h.1.keep k, h.2.1.keep k, h.2.2.1.keep k, h.2.2.2.1.keep k, h.2.2.2.2.keep k⟩
theorem In.sub {w : World} {S T : Nat → Prop} {v0 v1 v2 v3 v7 : Value} {st : List Int} {ws : List (List (List Int × List Int))} {tk : List Bool} {ls vl : List Int} (h : In w S v0 v1 v2 v3 v7 st ws tk ls vl) (k : ∀ g, S g → T g) : In w T v0 v1 v2 v3 v7 st ws tk ls vl :=
  ⟨h.1.sub k, h.2.1.sub k, h.2.2.1.sub k, h.2.2.2.1.sub k, h.2.2.2.2.sub k⟩

/-- Carried over to a later world. -/
theorem In.on {w w' : World} {v0 v1 v2 v3 v7 : Value} {st : List Int} {ws : List (List (List Int × List Int))} {tk : List Bool} {ls vl : List Int} (h : In w (fun g => g < w.heap.size) v0 v1 v2 v3 v7 st ws tk ls vl) (b : Below w.heap.size w w') : In w' (fun g => g < w'.heap.size) v0 v1 v2 v3 v7 st ws tk ls vl :=
  (h.keep (keeps_below b)).sub (fun g hg => by have := b.size; omega)
theorem Row.on {w w' : World} {v : Value} {cs : List Value} {lo : Nat} (h : Row w (fun g => lo ≤ g ∧ g < w.heap.size) v cs) (b : Below w.heap.size w w') : Row w' (fun g => g < w'.heap.size) v cs :=
  (h.keep (keeps_sub (keeps_below b) (fun g hg => hg.2))).sub (fun g hg => by have := b.size; omega)
theorem Ws.on {w w' : World} {v : Value} {cs : List (List (List Int × List Int))} {lo : Nat} (h : Ws w (fun g => lo ≤ g ∧ g < w.heap.size) v cs) (b : Below w.heap.size w w') : Ws w' (fun g => g < w'.heap.size) v cs :=
  (h.keep (keeps_sub (keeps_below b) (fun g hg => hg.2))).sub (fun g hg => by have := b.size; omega)

end Go.Proofs.Qxb6603228a
