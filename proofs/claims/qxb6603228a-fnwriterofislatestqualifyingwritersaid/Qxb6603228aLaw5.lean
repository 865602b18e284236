/-
  The walk of law 5.
-/
import Derived.Test.Qxb6603228aIn
import Derived.Test.Qxb6603228aModel
import Derived.Test.Qxb6603228aBytes18
namespace Go.Proofs.Qxb6603228a
open Go.RowKit

set_option maxRecDepth 20000 in
set_option maxHeartbeats 1000000 in
theorem law5_any (v0 v1 v2 v3 v7 : Value) (key : ByteArray) (c1 : Int) (st : List Int) (ws : List (List (List Int × List Int))) (tk : List Bool) (ls vl : List Int) (w : World)
    (hin : In w (fun g => g < w.heap.size) v0 v1 v2 v3 v7 st ws tk ls vl) (hkey : key.size ≤ 9223372036854775807) :
    Calls Try.prog 5 #[v0, v1, v2, v3, .string key, .int .u64 c1, v7] w fun e w' => e = .returned (.bool true) ∧ Below w.heap.size w w' := by
  have hin' := hin
  obtain ⟨⟨l0, a0, cap0, e0, _⟩, ⟨l1, a1, cap1, e1, _⟩, ⟨l2, a2, cap2, e2, _⟩, ⟨l3, a3, cap3, e3, _⟩, ⟨⟨l7, a7, cap7, e7, _⟩, _⟩⟩ := hin'
  rw [List.length_map] at l0 l2 l3 l7 e0 e2 e3 e7
  subst e0 e1 e2 e3 e7
  have hbytes := hide (bytes18_any a0 a2 a3 a7 st.length cap0 tk.length cap2 ls.length cap3 vl.length cap7 _ key c1 ws _ w l0 l2 l3 hkey l7 hin.2.1)
  have hsmall := hide (wrSmall_any a0 a2 a3 a7 st.length cap0 tk.length cap2 ls.length cap3 vl.length cap7 _ key ws w l0 l2 l3 hkey l7 hin.2.1)
  have HIN := hide hin
  clear hin
  go_enter Try.func5, Try.ntmps5
  go_wp2_with fail
  refine hbytes.out.mono ?_
  rintro e w' ⟨⟨b, rfl⟩, hw⟩
  subst hw
  clear hbytes
  cases b with
  | false =>
    go_wp2
    go_ret
    exact ⟨rfl, Below.refl _ _⟩
  | true =>
  go_wp2_with fail
  refine hsmall.out.mono ?_
  rintro e w1 ⟨⟨b, rfl, hsm⟩, bel1⟩
  have HSM := hide hsm
  clear hsm hsmall
  cases b with
  | false =>
    clear HSM
    go_wp2
    go_ret
    exact ⟨rfl, bel1⟩
  | true =>
  obtain ⟨s0, s2, s3, s7, sws⟩ := HSM.out rfl
  have HSW := hide sws
  clear sws HSM
  have HIN1 := hide (HIN.out.on bel1)
  have hdom := hide (wrDomain_any a0 a1 a2 st.length cap0 ws.length cap1 tk.length cap2 _ ls _ w1 l0 l1 l2 HIN1.out.2.2.2.1)
  go_wp2_with fail
  refine hdom.out.mono ?_
  rintro e w1' ⟨⟨b, rfl, hd⟩, hw⟩
  subst hw
  have HD := hide hd
  clear hd hdom
  cases b with
  | false =>
    clear HD
    go_wp2
    go_ret
    exact ⟨rfl, bel1⟩
  | true =>
  obtain ⟨d1, d2, d3⟩ := HD.out rfl
  have HD1 := hide d1
  have HD2 := hide d2
  have HD3 := hide d3
  clear d1 d2 d3 HD
  go_wp2_with fail
  refine (copyU64_any _ st w1' HIN1.out.1 s0).mono ?_
  rintro e w2 ⟨u0, rfl, r0, bel2⟩
  have R0 := hide r0
  have HIN2 := hide (HIN1.out.on bel2)
  clear r0
  go_wp2_with fail
  refine (copyWrites_any _ ws w2 HIN2.out.2.1 HSW.out).mono ?_
  rintro e w3 ⟨u1, rfl, r1, bel3⟩
  have R1 := hide r1
  have HIN3 := hide (HIN2.out.on bel3)
  clear r1
  go_wp2_with fail
  refine (copyBools_any _ tk w3 HIN3.out.2.2.1 s2).mono ?_
  rintro e w4 ⟨u2, rfl, r2, bel4⟩
  have R2 := hide r2
  have HIN4 := hide (HIN3.out.on bel4)
  clear r2
  go_wp2_with fail
  refine (copyInts_any _ ls w4 HIN4.out.2.2.2.1 s3).mono ?_
  rintro e w5 ⟨u3, rfl, r3, bel5⟩
  have R3 := hide r3
  have HIN5 := hide (HIN4.out.on bel5)
  clear r3
  go_wp2_with fail
  refine (copyBytes_any _ vl w5 HIN5.out.2.2.2.2.1 s7).mono ?_
  rintro e w6 ⟨u7, rfl, r7, bel6⟩
  have z1 := bel1.size
  have z2 := bel2.size
  have z3 := bel3.size
  have z4 := bel4.size
  have z5 := bel5.size
  have z6 := bel6.size
  have b56 : Below w5.heap.size w5 w6 := bel6
  have b46 : Below w4.heap.size w4 w6 := bel5.trans (b56.mono z5)
  have b36 : Below w3.heap.size w3 w6 := bel4.trans (b46.mono z4)
  have b26 : Below w2.heap.size w2 w6 := bel3.trans (b36.mono z3)
  have b16 : Below w1'.heap.size w1' w6 := bel2.trans (b26.mono z2)
  have b06 : Below w'.heap.size w' w6 := bel1.trans (b16.mono z1)
  have hin6 : In w6 (fun g => g < w6.heap.size) u0 u1 u2 u3 u7 st ws tk ls vl := ⟨R0.out.on b26, R1.out.on b36, R2.out.on b46, R3.out.on b56, r7.on (Below.refl _ _), HIN.out.2.2.2.2.2⟩
  have HIN6 := hide hin6
  have HB6 := hide b06
  clear hin6 b06 b16 b26 b36 b46 b56 r7 R0 R1 R2 R3 HIN HIN1 HIN2 HIN3 HIN4 HIN5 bel1 bel2 bel3 bel4 bel5 bel6
  go_wp2_with fail
  refine (zzWriterOf_any u0 u1 u2 u3 u7 st ws tk ls vl key c1 w6 HIN6.out.1 HIN6.out.2.1 HIN6.out.2.2.1 HIN6.out.2.2.2.1 HIN6.out.2.2.2.2 s0 HD1.out HD2.out HSW.out HD3.out).mono ?_
  rintro e w7 ⟨rfl, b7⟩
  have HIN7 := hide (HIN6.out.on b7)
  go_wp2_with fail
  refine (model_any u0 u1 u2 u3 u7 key c1 st ws tk ls vl w7 HIN7.out hkey HD1.out HD2.out HD3.out s3).mono ?_
  rintro e w8 ⟨rfl, b8⟩
  have HB : Hid (Below w'.heap.size w' w8) := HB6.out.trans ((b7.trans (b8.mono b7.size)).mono HB6.out.size)
  clear HIN6 HIN7 b7 b8 HB6
  go_wp2
  go_ret
  exact ⟨ret_bool (by simp), HB.out⟩

end Go.Proofs.Qxb6603228a
