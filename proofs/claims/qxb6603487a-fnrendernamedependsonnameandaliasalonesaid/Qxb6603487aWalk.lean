/-
  The walks of RenderName, zzBytes_.. and the law.
-/
import Derived.Test.Qxb6603487aRows
import Derived.WalkKit
import Derived.WalkSpells
import Derived.WalkSmall
import Derived.WalkLawsBesides
import Derived.OpenShut
import Derived.Lib.SliceRun
import Derived.Deep.DeepCutAuto
namespace Go.Proofs.Qxb6603487a
open Go.RowKit

theorem hide {p : Prop} (h : p) : Hid p := h
/-- It returns a Boolean; where that is true, P holds. -/
def BoolIf (e : Ending) (P : Prop) : Prop := ∃ b, e = .returned (.bool b) ∧ (b = true → P)
theorem boolIf_false (P : Prop) : BoolIf (.returned (.bool false)) P := ⟨false, rfl, fun h => by cases h⟩
theorem boolIf_true {P : Prop} (h : P) : BoolIf (.returned (.bool true)) P := ⟨true, rfl, fun _ => h⟩

def smallTs (n : Nat) (ts : List ByteArray) : Prop := ∀ k, k < n → (ts.getD k ByteArray.empty).size ≤ 1048576

/-- A slice of strings: its address where there is an element; each element's cell. -/
def Ss (w : World) (a : Option Addr) (n : Nat) (ts : List ByteArray) : Prop :=
  ts.length = n ∧ n ≤ 9223372036854775807 ∧ ∀ k, k < n → ∃ g off, a = some ⟨g, off, none⟩ ∧ g < w.heap.size ∧ w.cell? ⟨g, off + k, none⟩ = some (.string (ts.getD k ByteArray.empty)) ∧ (ts.getD k ByteArray.empty).size ≤ 9223372036854775807

theorem render_yes (b : Nat) (alias_ : ByteArray) (w : World) (h7 : w.cell? ⟨b, 7, none⟩ = some (.string alias_)) (ha : alias_.toList.isEmpty = false) :
    Calls Try.prog 5 #[.pointer (some ⟨b, 0, none⟩)] w fun e w' => e = .returned (.string alias_) ∧ w' = w := by
  go_enter Try.func5, Try.ntmps5
  go_wp2
  go_ret
  exact ⟨rfl, rfl⟩

theorem render_no (b : Nat) (name alias_ : ByteArray) (w : World) (h0 : w.cell? ⟨b, 0, none⟩ = some (.string name)) (h7 : w.cell? ⟨b, 7, none⟩ = some (.string alias_)) (ha : alias_.toList.isEmpty = true) :
    Calls Try.prog 5 #[.pointer (some ⟨b, 0, none⟩)] w fun e w' => e = .returned (.string name) ∧ w' = w := by
  go_enter Try.func5, Try.ntmps5
  go_wp2
  go_ret
  exact ⟨rfl, rfl⟩

set_option maxRecDepth 20000 in
set_option maxHeartbeats 1000000 in
theorem bytes4_any (s0 s1 s2 s3 s6 : ByteArray) (a : Option Addr) (n cap : Nat) (b : Bool) (ts : List ByteArray) (w : World) (h0 : s0.size ≤ 9223372036854775807) (h1 : s1.size ≤ 9223372036854775807) (h2 : s2.size ≤ 9223372036854775807) (h3 : s3.size ≤ 9223372036854775807) (h6 : s6.size ≤ 9223372036854775807) (hs : Ss w a n ts) :
    Calls Try.prog 4 #[.string s0, .string s1, .string s2, .string s3, .slice a n cap, .bool b, .string s6] w fun e w' => BoolIf e (smallTs n ts) ∧ w' = w := by
  obtain ⟨_, hn, hs⟩ := hs
  have HS := hide hs
  clear hs
  by_cases b0 : 1048576 < s0.size
  · go_enter Try.func4, Try.ntmps4
    go_wp2
    go_ret
    exact ⟨boolIf_false _, rfl⟩
  by_cases b1 : 1048576 < s1.size
  · go_enter Try.func4, Try.ntmps4
    go_wp2
    go_ret
    exact ⟨boolIf_false _, rfl⟩
  by_cases c1 : 1048576 < s0.size + s1.size
  · go_enter Try.func4, Try.ntmps4
    go_wp2
    go_ret
    exact ⟨boolIf_false _, rfl⟩
  by_cases b2 : 1048576 < s2.size
  · go_enter Try.func4, Try.ntmps4
    go_wp2
    go_ret
    exact ⟨boolIf_false _, rfl⟩
  by_cases c2 : 1048576 < s0.size + s1.size + s2.size
  · go_enter Try.func4, Try.ntmps4
    go_wp2
    go_ret
    exact ⟨boolIf_false _, rfl⟩
  by_cases b3 : 1048576 < s3.size
  · go_enter Try.func4, Try.ntmps4
    go_wp2
    go_ret
    exact ⟨boolIf_false _, rfl⟩
  by_cases c3 : 1048576 < s0.size + s1.size + s2.size + s3.size
  · go_enter Try.func4, Try.ntmps4
    go_wp2
    go_ret
    exact ⟨boolIf_false _, rfl⟩
  by_cases b4 : 1048576 < n
  · go_enter Try.func4, Try.ntmps4
    go_wp2
    go_ret
    exact ⟨boolIf_false _, rfl⟩
  by_cases c4 : 1048576 < s0.size + s1.size + s2.size + s3.size + n
  · go_enter Try.func4, Try.ntmps4
    go_wp2
    go_ret
    exact ⟨boolIf_false _, rfl⟩
  go_enter Try.func4, Try.ntmps4
  go_wp2
  go_loop [15, 16] (fun z i => ∃ zz k : Nat, z = .int .i64 zz ∧ zz ≤ 1048576 ∧ i = .int .i64 k ∧ k ≤ n ∧ Hid (∀ j, j < k → (ts.getD j ByteArray.empty).size ≤ 1048576)) (fun _ i => n - (intOf i).toNat)
  case atStart => exact ⟨s0.size + s1.size + s2.size + s3.size + n, 0, by go_num, by omega, rfl, Nat.zero_le _, fun j hj => by omega⟩
  case round =>
    obtain ⟨zz, k, rfl, hzz, rfl, hk, hok⟩ := hrel
    by_cases hlt : k < n
    · obtain ⟨g, off, rfl, hg, hcell, hsz⟩ := HS.out k hlt
      obtain ⟨t, ht⟩ : ∃ t, t = ts.getD k ByteArray.empty := ⟨_, rfl⟩
      rw [← ht] at hcell hsz
      have HT := hide ht
      clear ht
      by_cases d0 : 1048576 < t.size
      · go_wp2
        go_ret
        exact ⟨boolIf_false _, rfl⟩
      by_cases d1 : 1048576 < zz + t.size
      · go_wp2
        go_ret
        exact ⟨boolIf_false _, rfl⟩
      go_wp2
      go_round
      case rel =>
        refine ⟨zz + t.size, k + 1, by go_num, by omega, by go_num, by omega, fun j hj => ?_⟩
        by_cases e : j = k
        · subst e; rw [← HT.out]; omega
        · exact hok.out j (by omega)
      case measure => simp [intOf]; omega
    · have hkn : k = n := by omega
      subst hkn
      by_cases d0 : 1048576 < s6.size
      · go_wp2
        go_ret
        exact ⟨boolIf_false _, rfl⟩
      by_cases d1 : 1048576 < zz + s6.size
      · go_wp2
        go_ret
        exact ⟨boolIf_false _, rfl⟩
      go_wp2
      go_ret
      exact ⟨boolIf_true hok.out, rfl⟩

theorem Try.info9 : (Try.prog.info? 9).map (fun i => (i.zero, i.size, i.bytes)) = some (some (.string ByteArray.empty), 1, 16) := by kernel_rfl

def Free (w : World) (g n : Nat) : Prop := ∀ j, j < n → (∃ x, w.cell? ⟨g, j, none⟩ = some x) ∧ w.frozen? ⟨g, j, none⟩ = false

theorem Free.set {w : World} {g n i : Nat} {x : Value} (h : Free w g n) : Free (w.setCell ⟨g, i, none⟩ x) g n := by
  intro j hj
  obtain ⟨⟨y, hy⟩, hf⟩ := h j hj
  refine ⟨?_, by rw [World.frozen?_setCell]; exact hf⟩
  by_cases e : j = i
  · subst e; exact ⟨x, World.cell?_setCell_same _ _ _ hy⟩
  · exact ⟨y, (World.cell?_setCell_other _ _ _ _ (by simp)).trans hy⟩

end Go.Proofs.Qxb6603487a
