/-
  bytes to string; bytes.Equal.
-/
import Derived.Test.Qxb6603228aMem
import Derived.Laws.BytesArg
namespace Go.Proofs.Qxb6603228a
open Go.RowKit

theorem conv_bytes (src : TypeId) (hs : Try.prog.underlying src = some (.slice 5)) {w : World} {S : Nat → Prop} {u : Value} {l : List Int} (h : Bs w S u l) :
    (convert src 9 u).run Try.prog w = .ok (.string (strOfNums l)) w := by
  obtain ⟨⟨_, a, c, rfl, h⟩, _⟩ := h
  rw [List.length_map] at h ⊢
  rcases h with h | ⟨g, off, rfl, _, hc⟩
  · have hl : l = [] := by simpa using h
    subst hl
    cases a with
    | none => exact run_convert_bytes_nil w src 5 hs Try.underlying5 _ _ 9 Try.underlying9
    | some x =>
      have hl : (loadCells x 0).run Try.prog w = .ok (([] : List Int).map (Value.int .u8)).toArray w := by
        have := run_loadCells_list (P := Try.prog) w x [] (fun j v hj => by simp at hj)
        exact this
      rw [run_convert_bytes_string w src 9 5 _ _ c hs Try.underlying5 Try.underlying9]
      exact run_bytesToString w x 0 c [] hl
  · exact run_convert_bytes_arg w src 5 hs Try.underlying5 g off l.length c l rfl (fun i hi => by rw [hc i hi, map_getD _ _ 0 _ hi]) 9 Try.underlying9

theorem ofNat_toNat (b : UInt8) : UInt8.ofNat b.toNat = b := by simp

/-- A string's bytes as numbers. -/
def keyL (s : ByteArray) : List Int := s.data.toList.map fun b => (b.toNat : Int)

theorem map_inj : ∀ (l k : List Int), (∀ x ∈ l, 0 ≤ x ∧ x ≤ 255) → (∀ x ∈ k, 0 ≤ x ∧ x ≤ 255) → (l.map fun n => UInt8.ofNat n.toNat) = (k.map fun n => UInt8.ofNat n.toNat) → l = k
  | [], [], _, _, _ => rfl
  | [], _ :: _, _, _, h => by simp at h
  | _ :: _, [], _, _, h => by simp at h
  | x :: l, y :: k, hl, hk, h => by
    simp only [List.map_cons, List.cons.injEq] at h
    have hx := hl x (List.mem_cons_self)
    have hy := hk y (List.mem_cons_self)
    have h1 : x.toNat = y.toNat := by
      have := congrArg UInt8.toNat h.1
      simp only [UInt8.toNat_ofNat'] at this
      omega
    rw [map_inj l k (fun z hz => hl z (List.mem_cons_of_mem _ hz)) (fun z hz => hk z (List.mem_cons_of_mem _ hz)) h.2]
    congr 1; omega

theorem keyL_bytes (s : ByteArray) : ∀ x ∈ keyL s, 0 ≤ x ∧ x ≤ 255 := by
  intro x hx
  obtain ⟨b, _, rfl⟩ := List.mem_map.1 hx
  have := b.toNat_lt
  omega

theorem keyL_back (s : ByteArray) : ((keyL s).map fun n => UInt8.ofNat n.toNat) = s.data.toList := by
  unfold keyL
  rw [List.map_map]
  conv => rhs; rw [← List.map_id s.data.toList]
  refine List.map_congr_left fun b _ => ?_
  simp

theorem eq_strs (l k : List Int) (hl : ∀ x ∈ l, 0 ≤ x ∧ x ≤ 255) (hk : ∀ x ∈ k, 0 ≤ x ∧ x ≤ 255) : ((strOfNums l).toList == (strOfNums k).toList) = decide (l = k) := by
  rw [ByteArray.toList_eq, ByteArray.toList_eq, strOfNums_data, strOfNums_data, Bool.eq_iff_iff]
  simp only [beq_iff_eq, decide_eq_true_eq]
  exact ⟨map_inj l k hl hk, fun h => by rw [h]⟩

theorem eq_key (l : List Int) (s : ByteArray) (hl : ∀ x ∈ l, 0 ≤ x ∧ x ≤ 255) : ((strOfNums l).toList == s.toList) = decide (l = keyL s) := by
  rw [ByteArray.toList_eq, ByteArray.toList_eq, strOfNums_data, Bool.eq_iff_iff]
  simp only [beq_iff_eq, decide_eq_true_eq]
  rw [← keyL_back s]
  exact ⟨map_inj l _ hl (keyL_bytes s), fun h => by rw [h]⟩

theorem equal_any (u v : Value) (l k : List Int) (S T : Nat → Prop) (w : World) (hu : Bs w S u l) (hv : Bs w T v k) :
    Calls Try.prog 38 #[u, v] w fun e w' => e = .returned (.bool (decide (l = k))) ∧ w' = w := by
  have c1 := conv_bytes 35 Try.underlying35 hu
  have c2 := conv_bytes 35 Try.underlying35 hv
  have HU := hide hu
  have HV := hide hv
  clear hu hv
  go_enter Try.func38, Try.ntmps38
  go_wp2
  go_ret
  exact ⟨ret_bool (eq_strs l k HU.out.2 HV.out.2), rfl⟩

end Go.Proofs.Qxb6603228a
