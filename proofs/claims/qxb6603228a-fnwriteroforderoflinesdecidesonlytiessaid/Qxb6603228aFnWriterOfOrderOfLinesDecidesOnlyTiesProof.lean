/-
  'Rows.FnWriterOfOrderOfLinesDecidesOnlyTiesSaid', proved: the guide's frame round the walk of Qxb6603228aLaw7.lean.
-/
import Derived.Test.Qxb6603228aRows
import Derived.Test.Qxb6603228aLaw7
import Derived.Test.Qxb6603228aOpen
import Derived.WalkKit
import Derived.ProofKit
import Derived.OpenShut
import Derived.ShutString
namespace Go.Proofs.Qxb6603228a.fnWriterOfOrderOfLinesDecidesOnlyTies
open Go.ChangeShapes Go.WideShapes Go.ChangeAt Go.RowKit
open Go.ChangeMaps (open_string shut_string)

theorem own : ownKnob Try.prog.godebug = none := by kernel_rfl
theorem laidOut : laidOutB Try.prog = true := by kernel_rfl

set_option maxRecDepth 100000 in
theorem lifted (os : Os) (started : os.Started) (H : Type) (enc : TypeId × Value → H) :
    ReturnsInHanded {} Try.checked os 7 .any (Rows.fnWriterOfOrderOfLinesDecidesOnlyTiesSpec.pre6 enc Try.prog Try.f7 Rows.fnWriterOfOrderOfLinesDecidesOnlyTiesRow.domain false) (Rows.fnWriterOfOrderOfLinesDecidesOnlyTiesSpec.post enc Try.prog Try.f7 false true false false) := by
  refine returnsInHanded_of_change (C := Try.checked) own started (by kernel_rfl) Try.func7
    (ChangeSpec.witness6 (enc := enc) (C := Try.checked) false ⟨#[], #[.slice none 0 0, .slice none 0 0, .slice none 0 0, .slice none 0 0, .string ByteArray.empty, .int .u64 0, .slice none 0 0], []⟩ 8 (by kernel_rfl) (by kernel_rfl) (by kernel_rfl) (by kernel_rfl)) ?_
  intro W base args ds gs before hval0 hW hcnd _
  have hval : ∀ (j : Nat) t v, Try.f7.params[j]? = some t → args[j]? = some v → Value.okWide Try.prog W .any base t v := hval0
  have hW' := hW
  obtain ⟨p, q, hA0, hV, rfl, hfz, hnd⟩ := hW
  have hA : DataW.TrodAll enc Try.prog W 0 (fun _ => true) true Try.f7.params.toList args.toList ds p := hA0
  rw [Try.params7] at hA hval
  obtain ⟨v0, vs0, d0, ds0, p0, q0, hargs, rfl, rfl, h0, r0⟩ := trodAll_cons hA
  obtain ⟨v1, vs1, d1, ds1, p1, q1, rfl, rfl, rfl, h1, r1⟩ := trodAll_cons r0
  obtain ⟨v2, vs2, d2, ds2, p2, q2, rfl, rfl, rfl, h2, r2⟩ := trodAll_cons r1
  obtain ⟨v3, vs3, d3, ds3, p3, q3, rfl, rfl, rfl, h3, r3⟩ := trodAll_cons r2
  obtain ⟨v4, vs4, d4, ds4, p4, q4, rfl, rfl, rfl, h4, r4⟩ := trodAll_cons r3
  obtain ⟨v5, vs5, d5, ds5, p5, q5, rfl, rfl, rfl, h5, r5⟩ := trodAll_cons r4
  obtain ⟨v6, vs6, d6, ds6, p6, q6, rfl, rfl, rfl, h6, r6⟩ := trodAll_cons r5
  obtain ⟨rfl, rfl, rfl⟩ := trodAll_nil r6
  obtain rfl : args = #[v0, v1, v2, v3, v4, v5, v6] := by cases args; simp_all
  obtain ⟨rfl, rfl⟩ := trodVars_none hV
  obtain ⟨a0, len0, cap0, rfl⟩ := okWide_slice Try.underlying32 (hval 0 32 v0 rfl rfl)
  have k0 := h0
  have lt0 : ∀ x ∈ p0, x.block < W.heap.size := by obtain ⟨m, hm⟩ := k0; exact DataW.trod_lt m _ _ _ hm
  obtain ⟨st, hr0, _⟩ : ∃ l : List Int, Row W (fun g => g < W.heap.size) (.slice a0 len0 cap0) (l.map (Value.int .u64)) ∧ ∀ x ∈ l, (Lit.int .u64 x).wf = true := by
    obtain ⟨fuel, hf⟩ := h0
    exact ints_of Try.underlying32 Try.underlying34 Try.cells34 (by simpa [Value.cells] using hf)
  obtain ⟨a1, len1, cap1, rfl⟩ := okWide_slice Try.underlying33 (hval 1 33 v1 rfl rfl)
  have k1 := h1
  have lt1 : ∀ x ∈ p1, x.block < W.heap.size := by obtain ⟨m, hm⟩ := k1; exact DataW.trod_lt m _ _ _ hm
  obtain ⟨ws, hr1⟩ : ∃ l, Ws W (fun g => g < W.heap.size) (.slice a1 len1 cap1) l := by
    obtain ⟨fuel, hf⟩ := h1
    exact ws_of (by simpa [Value.cells] using hf)
  obtain ⟨a2, len2, cap2, rfl⟩ := okWide_slice Try.underlying31 (hval 2 31 v2 rfl rfl)
  have k2 := h2
  have lt2 : ∀ x ∈ p2, x.block < W.heap.size := by obtain ⟨m, hm⟩ := k2; exact DataW.trod_lt m _ _ _ hm
  obtain ⟨tk, hr2⟩ : ∃ l : List Bool, Row W (fun g => g < W.heap.size) (.slice a2 len2 cap2) (l.map Value.bool) := by
    obtain ⟨fuel, hf⟩ := h2
    exact bools_of Try.underlying31 Try.underlying4 Try.cells4 (by simpa [Value.cells] using hf)
  obtain ⟨a3, len3, cap3, rfl⟩ := okWide_slice Try.underlying29 (hval 3 29 v3 rfl rfl)
  have k3 := h3
  have lt3 : ∀ x ∈ p3, x.block < W.heap.size := by obtain ⟨m, hm⟩ := k3; exact DataW.trod_lt m _ _ _ hm
  obtain ⟨ls, hr3, _⟩ : ∃ l : List Int, Row W (fun g => g < W.heap.size) (.slice a3 len3 cap3) (l.map (Value.int .i64)) ∧ ∀ x ∈ l, (Lit.int .i64 x).wf = true := by
    obtain ⟨fuel, hf⟩ := h3
    exact ints_of Try.underlying29 Try.underlying3 Try.cells3 (by simpa [Value.cells] using hf)
  obtain ⟨key, rfl, rfl, rfl, hkey⟩ := open_string Try.underlying9 (hval 4 9 v4 rfl rfl) h4
  obtain ⟨c_5, rfl, rfl, rfl, w5⟩ := open_int Try.underlying34 (hval 5 34 v5 rfl rfl) h5
  obtain ⟨a6, len6, cap6, rfl⟩ := okWide_slice Try.underlying35 (hval 6 35 v6 rfl rfl)
  have k6 := h6
  have lt6 : ∀ x ∈ p6, x.block < W.heap.size := by obtain ⟨m, hm⟩ := k6; exact DataW.trod_lt m _ _ _ hm
  obtain ⟨vl, hr6⟩ : ∃ l, Bs W (fun g => g < W.heap.size) (.slice a6 len6 cap6) l := by
    obtain ⟨fuel, hf⟩ := h6
    exact bs_of (by simpa [Value.cells] using hf)
  clear hA0 hval0
  unfold maxLen at hkey
  refine (law7_any _ _ _ _ _ key c_5 st ws tk ls vl W ⟨hr0, hr1, hr2, hr3, hr6⟩ hkey).mono fun e W' ⟨he, bel⟩ => ?_
  subst he
  exact ⟨_, rfl, _, _, _, [], _, [], hW', trodAll_mk1 (shut_bool Try.underlying4 _), (trodAll_cons_mk (Below.trod laidOut (by kernel_rfl) (of_decide_eq_true (by kernel_rfl)) k0 bel lt0) (trodAll_cons_mk (Below.trod laidOut (by kernel_rfl) (of_decide_eq_true (by kernel_rfl)) k1 bel lt1) (trodAll_cons_mk (Below.trod laidOut (by kernel_rfl) (of_decide_eq_true (by kernel_rfl)) k2 bel lt2) (trodAll_cons_mk (Below.trod laidOut (by kernel_rfl) (of_decide_eq_true (by kernel_rfl)) k3 bel lt3) (trodAll_cons_mk (shut_string Try.underlying9 hkey) (trodAll_cons_mk (shut_int Try.underlying34 w5) (trodAll_cons_mk (Below.trod laidOut (by kernel_rfl) (of_decide_eq_true (by kernel_rfl)) k6 bel lt6) trodAll_mk0))))))), rfl, bel.frame _, fun h => by cases h⟩

theorem over : Rows.fnWriterOfOrderOfLinesDecidesOnlyTiesRow.holds Try.pinned (OpenSpec.ofChange Rows.fnWriterOfOrderOfLinesDecidesOnlyTiesSpec) :=
  OpenClaim.holds_of_wide 7 Try.f7 rfl rfl rfl rfl rfl rfl rfl ⟨rfl, rfl, rfl, rfl, rfl⟩ rfl rfl rfl rfl rfl (by kernel_rfl) Try.func7 (by kernel_rfl)
    (of_decide_eq_true (by kernel_rfl)) (by unfold Func.isWrapper; first | (rw [if_pos (by decide +kernel)]; kernel_rfl) | (rw [if_neg (by decide +kernel)]; exact ⟨rfl, rfl⟩))
    (fun os started H enc _ => lifted os started H enc)

theorem proved : Rows.FnWriterOfOrderOfLinesDecidesOnlyTiesSaid := over
#print axioms proved
end Go.Proofs.Qxb6603228a.fnWriterOfOrderOfLinesDecidesOnlyTies
