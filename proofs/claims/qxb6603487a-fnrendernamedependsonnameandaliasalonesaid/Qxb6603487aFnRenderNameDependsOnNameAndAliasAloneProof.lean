/-
  'Rows.FnRenderNameDependsOnNameAndAliasAloneSaid', proved: the guide's frame round the walk of Qxb6603487aLaw.lean.
-/
import Derived.Test.Qxb6603487aRows
import Derived.Test.Qxb6603487aLaw
import Derived.WalkKit
import Derived.ProofKit
import Derived.OpenShut
import Derived.ShutString
import Derived.Deep.Slices
namespace Go.Proofs.Qxb6603487a.fnRenderNameDependsOnNameAndAliasAlone
open Go.ChangeShapes Go.WideShapes Go.ChangeAt Go.RowKit
open Go.ChangeMaps (open_string shut_string)

theorem own : ownKnob Try.prog.godebug = none := by kernel_rfl
theorem laidOut : laidOutB Try.prog = true := by kernel_rfl
theorem cells9 : Try.prog.cellsOf 9 = 1 := by kernel_rfl

theorem ss_of {H : Type} {enc : TypeId × Value → H} {W : World} {fuel : Nat} {a : Option Addr} {n cap : Nat} {x : DataW H × List MemPlace} (h : DataW.trod enc Try.prog W 0 (fun _ => true) true fuel 22 [.slice a n cap] = some x) :
    ∃ ts, Ss W a n ts := by
  rcases Deep.open_slice1 Try.underlying22 cells9 h with ⟨hcs, _⟩ | ⟨ad, len, cap', m, k, V, D, Pl, hcs, _, hl, hm, hmm, _, hx⟩
  · injection hcs with hcs
    injection hcs with h1 h2 h3
    subst h1 h2
    exact ⟨[], rfl, by omega, fun k hk => by omega⟩
  · injection hcs with hcs
    injection hcs with h1 h2 h3
    subst h1 h2 h3
    unfold maxLen at hm
    have hlm : n ≤ m := by rw [hmm]; simpa using hl
    obtain ⟨f, hf⟩ := Deep.choose_lt (n := n) (p := fun i s => V i = .string s ∧ s.size ≤ 9223372036854775807) (fun i hi => by
      obtain ⟨s, hs, _, hz⟩ := DataW.trod_string Try.underlying9 (hx i (by omega)).2
      injection hs with hs
      unfold maxLen at hz
      exact ⟨s, hs, by omega⟩)
    refine ⟨(List.range n).map f, by simp, by omega, fun i hi => ?_⟩
    obtain ⟨g, off, spot⟩ := ad
    have hc := (hx i (by omega)).1
    have hc0 := (hx 0 (by omega)).1
    have hspot : spot = none := by simpa [Addr.add] using World.cell?_spot hc0
    subst hspot
    have e : ((List.range n).map f).getD i ByteArray.empty = f i := by simp [hi]
    rw [e]
    refine ⟨g, off, rfl, ?_, ?_, (hf i hi).2⟩
    · have := World.block_lt_of_cell? W _ hc0
      simpa [Addr.add] using this
    · rw [Addr.add_lit] at hc
      rw [hc, (hf i hi).1]

set_option maxRecDepth 100000 in
theorem lifted (os : Os) (started : os.Started) (H : Type) (enc : TypeId × Value → H) :
    ReturnsInHanded {} Try.checked os 3 .any (Rows.fnRenderNameDependsOnNameAndAliasAloneSpec.pre6 enc Try.prog Try.f3 Rows.fnRenderNameDependsOnNameAndAliasAloneRow.domain false) (Rows.fnRenderNameDependsOnNameAndAliasAloneSpec.post enc Try.prog Try.f3 false true false false) := by
  refine returnsInHanded_of_change (C := Try.checked) own started (by kernel_rfl) Try.func3
    (ChangeSpec.witness6 (enc := enc) (C := Try.checked) false ⟨#[], #[.string ByteArray.empty, .string ByteArray.empty, .string ByteArray.empty, .string ByteArray.empty, .slice none 0 0, .bool false, .string ByteArray.empty], []⟩ 8 (by kernel_rfl) (by kernel_rfl) (by kernel_rfl) (by kernel_rfl)) ?_
  intro W base args ds gs before hval0 hW hcnd _
  have hval : ∀ (j : Nat) t v, Try.f3.params[j]? = some t → args[j]? = some v → Value.okWide Try.prog W .any base t v := hval0
  have hW' := hW
  obtain ⟨p, q, hA0, hV, rfl, hfz, hnd⟩ := hW
  have hA : DataW.TrodAll enc Try.prog W 0 (fun _ => true) true Try.f3.params.toList args.toList ds p := hA0
  rw [Try.params3] at hA hval
  obtain ⟨v0, vs0, d0, ds0, p0, q0, hargs, rfl, rfl, h0, r0⟩ := trodAll_cons hA
  obtain ⟨v1, vs1, d1, ds1, p1, q1, rfl, rfl, rfl, h1, r1⟩ := trodAll_cons r0
  obtain ⟨v2, vs2, d2, ds2, p2, q2, rfl, rfl, rfl, h2, r2⟩ := trodAll_cons r1
  obtain ⟨v3, vs3, d3, ds3, p3, q3, rfl, rfl, rfl, h3, r3⟩ := trodAll_cons r2
  obtain ⟨v4, vs4, d4, ds4, p4, q4, rfl, rfl, rfl, h4, r4⟩ := trodAll_cons r3
  obtain ⟨v5, vs5, d5, ds5, p5, q5, rfl, rfl, rfl, h5, r5⟩ := trodAll_cons r4
  obtain ⟨v6, vs6, d6, ds6, p6, q6, rfl, rfl, rfl, h6, r6⟩ := trodAll_cons r5
  obtain ⟨rfl, rfl, rfl⟩ := trodAll_nil r6
  obtain rfl : args = #[v0, v1, v2, v3, v4, v5, v6] := by cases args; simp_all
  obtain ⟨rfl, rfl⟩ := trodVars_none hV
  obtain ⟨s0, rfl, rfl, rfl, z0⟩ := open_string Try.underlying9 (hval 0 9 v0 rfl rfl) h0
  obtain ⟨s1, rfl, rfl, rfl, z1⟩ := open_string Try.underlying9 (hval 1 9 v1 rfl rfl) h1
  obtain ⟨s2, rfl, rfl, rfl, z2⟩ := open_string Try.underlying9 (hval 2 9 v2 rfl rfl) h2
  obtain ⟨s3, rfl, rfl, rfl, z3⟩ := open_string Try.underlying9 (hval 3 9 v3 rfl rfl) h3
  obtain ⟨a4, len4, cap4, rfl⟩ := okWide_slice Try.underlying22 (hval 4 22 v4 rfl rfl)
  have k4 := h4
  have lt4 : ∀ x ∈ p4, x.block < W.heap.size := by obtain ⟨m, hm⟩ := k4; exact DataW.trod_lt m _ _ _ hm
  obtain ⟨ts, hts⟩ : ∃ ts, Ss W a4 len4 ts := by
    obtain ⟨fuel, hf⟩ := h4
    exact ss_of (by simpa [Value.cells] using hf)
  obtain ⟨b5, rfl, rfl, rfl⟩ := open_bool Try.underlying4 (hval 5 4 v5 rfl rfl) h5
  obtain ⟨s6, rfl, rfl, rfl, z6⟩ := open_string Try.underlying9 (hval 6 9 v6 rfl rfl) h6
  clear hA0 hval0
  have y0 := z0
  have y1 := z1
  have y2 := z2
  have y3 := z3
  have y6 := z6
  unfold maxLen at y0 y1 y2 y3 y6
  refine (law3_any s0 s1 s2 s3 s6 a4 len4 cap4 b5 ts W (by omega) (by omega) (by omega) (by omega) (by omega) hts).mono fun e W' ⟨he, bel⟩ => ?_
  subst he
  exact ⟨_, rfl, _, _, _, [], _, [], hW', trodAll_mk1 (shut_bool Try.underlying4 _), (trodAll_cons_mk (shut_string Try.underlying9 z0) (trodAll_cons_mk (shut_string Try.underlying9 z1) (trodAll_cons_mk (shut_string Try.underlying9 z2) (trodAll_cons_mk (shut_string Try.underlying9 z3) (trodAll_cons_mk (Below.trod laidOut (by kernel_rfl) (of_decide_eq_true (by kernel_rfl)) k4 bel lt4) (trodAll_cons_mk (shut_bool Try.underlying4 b5) (trodAll_cons_mk (shut_string Try.underlying9 z6) trodAll_mk0))))))), rfl, bel.frame _, fun h => by cases h⟩

theorem over : Rows.fnRenderNameDependsOnNameAndAliasAloneRow.holds Try.pinned (OpenSpec.ofChange Rows.fnRenderNameDependsOnNameAndAliasAloneSpec) :=
  OpenClaim.holds_of_wide 3 Try.f3 rfl rfl rfl rfl rfl rfl rfl ⟨rfl, rfl, rfl, rfl, rfl⟩ rfl rfl rfl rfl rfl (by kernel_rfl) Try.func3 (by kernel_rfl)
    (of_decide_eq_true (by kernel_rfl)) (by unfold Func.isWrapper; first | (rw [if_pos (by decide +kernel)]; kernel_rfl) | (rw [if_neg (by decide +kernel)]; exact ⟨rfl, rfl⟩))
    (fun os started H enc _ => lifted os started H enc)

theorem proved : Rows.FnRenderNameDependsOnNameAndAliasAloneSaid := over
#print axioms proved
end Go.Proofs.Qxb6603487a.fnRenderNameDependsOnNameAndAliasAlone
