/-
  Plain laws of 'writer': which line it finds.
-/
import Derived.Test.Qxb6603228aWr
namespace Go.Proofs.Qxb6603228a

/-- Line l is untaken, started below ts and wrote value to key. -/
def qual (st : List Int) (ws : List (List (List Int × List Int))) (tk : List Bool) (key : ByteArray) (ts : Int) (vl : List Int) (l : Int) : Prop :=
  tk.getD l.toNat false = false ∧ st.getD l.toNat 0 < ts ∧ (ws.getD l.toNat []).any (hits key vl) = true

/-- What is known of the writer W when the lines pre have been looked at. -/
def Inv (st : List Int) (q : Int → Prop) (pre : List Int) (W : Int) : Prop :=
  (W = -1 ∧ ∀ l ∈ pre, ¬ q l) ∨ (0 ≤ W ∧ q W ∧ (∀ l ∈ pre, q l → st.getD l.toNat 0 ≤ st.getD W.toNat 0) ∧ ∃ p1 p2, pre = p1 ++ W :: p2 ∧ ∀ l ∈ p1, q l → st.getD l.toNat 0 < st.getD W.toNat 0)

theorem inv_skip {st : List Int} {q : Int → Prop} {pre : List Int} {W l : Int} (h : Inv st q pre W) (hs : q l → 0 ≤ W ∧ st.getD l.toNat 0 ≤ st.getD W.toNat 0) : Inv st q (pre ++ [l]) W := by
  rcases h with ⟨hW, hno⟩ | ⟨h0, hq, hmax, p1, p2, rfl, hf⟩
  · refine .inl ⟨hW, fun x hx hqx => ?_⟩
    rcases List.mem_append.1 hx with hx | hx
    · exact hno x hx hqx
    · obtain rfl := List.mem_singleton.1 hx
      have := (hs hqx).1
      omega
  · refine .inr ⟨h0, hq, fun x hx hqx => ?_, p1, p2 ++ [l], by simp, hf⟩
    rcases List.mem_append.1 hx with hx | hx
    · exact hmax x hx hqx
    · obtain rfl := List.mem_singleton.1 hx
      exact (hs hqx).2

theorem inv_take {st : List Int} {q : Int → Prop} {pre : List Int} {W l : Int} (h : Inv st q pre W) (hl : 0 ≤ l) (hq : q l) (hs : ¬ (0 ≤ W ∧ st.getD l.toNat 0 ≤ st.getD W.toNat 0)) : Inv st q (pre ++ [l]) l := by
  have hless : ∀ x ∈ pre, q x → st.getD x.toNat 0 < st.getD l.toNat 0 := by
    intro x hx hqx
    rcases h with ⟨_, hno⟩ | ⟨h0, _, hmax, _⟩
    · exact absurd hqx (hno x hx)
    · have := hmax x hx hqx; omega
  refine .inr ⟨hl, hq, fun x hx hqx => ?_, pre, [], rfl, hless⟩
  rcases List.mem_append.1 hx with hx | hx
  · exact Int.le_of_lt (hless x hx hqx)
  · obtain rfl := List.mem_singleton.1 hx
    exact Int.le_refl _

theorem inv_step (st : List Int) (ws : List (List (List Int × List Int))) (tk : List Bool) (key : ByteArray) (ts : Int) (vl pre : List Int) (W l : Int) (hl : 0 ≤ l) (h : Inv st (qual st ws tk key ts vl) pre W) :
    Inv st (qual st ws tk key ts vl) (pre ++ [l]) (wstep st ws tk key ts vl W l) := by
  unfold wstep
  split
  · next hc =>
    refine inv_skip h fun hq => ?_
    obtain ⟨q1, q2, _⟩ := hq
    rcases hc with hc | hc | hc
    · rw [q1] at hc; cases hc
    · omega
    · exact hc
  · next hc =>
    have hno : ¬ (0 ≤ W ∧ st.getD l.toNat 0 ≤ st.getD W.toNat 0) := fun hh => hc (.inr (.inr hh))
    split
    · next ha =>
      refine inv_take h hl ⟨?_, ?_, ha⟩ hno
      · cases hb : tk.getD l.toNat false with
        | true => exact absurd (Or.inl hb) hc
        | false => rfl
      · have : ¬ ts ≤ st.getD l.toNat 0 := fun hh => hc (.inr (.inl hh))
        omega
    · next ha => exact inv_skip h fun hq => absurd hq.2.2 ha

theorem writer_inv (st : List Int) (ws : List (List (List Int × List Int))) (tk : List Bool) (key : ByteArray) (ts : Int) (vl ls : List Int) (h : ∀ x ∈ ls, 0 ≤ x) :
    Inv st (qual st ws tk key ts vl) ls (writer st ws tk key ts vl ls) := by
  have gen : ∀ (ls pre : List Int) (W : Int), (∀ x ∈ ls, 0 ≤ x) → Inv st (qual st ws tk key ts vl) pre W → Inv st (qual st ws tk key ts vl) (pre ++ ls) (ls.foldl (wstep st ws tk key ts vl) W) := by
    intro ls
    induction ls with
    | nil => intro pre W _ h; simpa using h
    | cons l ls ih =>
      intro pre W hl hW
      have := ih (pre ++ [l]) _ (fun x hx => hl x (List.mem_cons_of_mem _ hx)) (inv_step st ws tk key ts vl pre W l (hl l List.mem_cons_self) hW)
      simpa using this
  exact gen ls [] (-1) h (.inl ⟨rfl, fun l hl => by cases hl⟩)

/-- Raising the commit timestamp never loses the writer found, nor finds one that started earlier. -/
theorem later (st : List Int) (ws : List (List (List Int × List Int))) (tk : List Bool) (key : ByteArray) (c1 c2 : Int) (vl ls : List Int) (h : ∀ x ∈ ls, 0 ≤ x) (hc : c1 ≤ c2) (h1 : writer st ws tk key c1 vl ls ≠ -1) :
    writer st ws tk key c2 vl ls ≠ -1 ∧ st.getD (writer st ws tk key c1 vl ls).toNat 0 ≤ st.getD (writer st ws tk key c2 vl ls).toNat 0 := by
  rcases writer_inv st ws tk key c1 vl ls h with ⟨hw, _⟩ | ⟨_, ⟨q1, q2, q3⟩, _, p1, p2, hp, _⟩
  · exact absurd hw h1
  · have hmem : writer st ws tk key c1 vl ls ∈ ls := by
      have : writer st ws tk key c1 vl ls ∈ p1 ++ writer st ws tk key c1 vl ls :: p2 := by simp
      rw [← hp] at this; exact this
    have hq : qual st ws tk key c2 vl (writer st ws tk key c1 vl ls) := ⟨q1, by omega, q3⟩
    rcases writer_inv st ws tk key c2 vl ls h with ⟨hw, hno⟩ | ⟨h0, _, hmax, _⟩
    · exact absurd hq (hno _ hmem)
    · exact ⟨by omega, hmax _ hmem hq⟩

/-- With the list of lines in another order a writer is found just when one was, and one of the same start. -/
theorem order (st : List Int) (ws : List (List (List Int × List Int))) (tk : List Bool) (key : ByteArray) (ts : Int) (vl ls rs : List Int) (h : ∀ x ∈ ls, 0 ≤ x) (hm : ∀ x, x ∈ rs ↔ x ∈ ls) :
    (writer st ws tk key ts vl ls = -1 ↔ writer st ws tk key ts vl rs = -1) ∧ (writer st ws tk key ts vl ls ≠ -1 → st.getD (writer st ws tk key ts vl ls).toNat 0 = st.getD (writer st ws tk key ts vl rs).toNat 0) := by
  have h' : ∀ x ∈ rs, 0 ≤ x := fun x hx => h x ((hm x).1 hx)
  rcases writer_inv st ws tk key ts vl ls h with ⟨hw, hno⟩ | ⟨h0, hq, hmax, p1, p2, hp, _⟩
  · rcases writer_inv st ws tk key ts vl rs h' with ⟨hw', hno'⟩ | ⟨h0', hq', hmax', p1', p2', hp', _⟩
    · exact ⟨⟨fun _ => hw', fun _ => hw⟩, fun hh => absurd hw hh⟩
    · have hmem : writer st ws tk key ts vl rs ∈ rs := by
        have : writer st ws tk key ts vl rs ∈ p1' ++ writer st ws tk key ts vl rs :: p2' := by simp
        rw [← hp'] at this; exact this
      exact absurd hq' (hno _ ((hm _).1 hmem))
  · have hmem : writer st ws tk key ts vl ls ∈ ls := by
      have : writer st ws tk key ts vl ls ∈ p1 ++ writer st ws tk key ts vl ls :: p2 := by simp
      rw [← hp] at this; exact this
    rcases writer_inv st ws tk key ts vl rs h' with ⟨hw', hno'⟩ | ⟨h0', hq', hmax', p1', p2', hp', _⟩
    · exact absurd hq (hno' _ ((hm _).2 hmem))
    · have hmem' : writer st ws tk key ts vl rs ∈ rs := by
        have : writer st ws tk key ts vl rs ∈ p1' ++ writer st ws tk key ts vl rs :: p2' := by simp
        rw [← hp'] at this; exact this
      have e1 := hmax _ ((hm _).1 hmem') hq'
      have e2 := hmax' _ ((hm _).2 hmem) hq
      exact ⟨⟨fun hh => by omega, fun hh => by omega⟩, fun _ => by omega⟩

end Go.Proofs.Qxb6603228a
