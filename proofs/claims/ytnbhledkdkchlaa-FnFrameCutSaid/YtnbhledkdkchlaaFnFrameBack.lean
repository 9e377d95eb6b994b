/- FnFrameBack, FnFrameCut: the walks. (seat r2) -/
import Derived.Test.YtnbhledkdkchlaaFr6
import Derived.OpenShut
import Derived.WalkSpells
namespace Go.Proofs.Ytnbhledkdkchlaa
set_option linter.unusedVariables false
set_option linter.unusedSimpArgs false
open Go.RowKit Go.Proofs.YtnbhledkdkchlaaW.PrintWords

set_option maxHeartbeats 4000000 in
set_option maxRecDepth 100000 in
theorem FnFrameBack_walk (kind : Int) (data behind : ByteArray) (w : World) (hk0 : -2147483648 ≤ kind) (hk1 : kind ≤ 2147483647) :
    Calls Try.prog 13 #[.int .i32 kind, .string data, .string behind] w fun e w' => e = .returned (.bool true) ∧ Below w.heap.size w w' := by
  have HM := Aside0.mk (fun (hd : data.size ≤ 300) (wi : World) => framed_any kind data wi hk0 hk1 (by omega))
  have HF := Aside0.mk (fun (hd : data.size ≤ 300) (hb : behind.size ≤ 300) (wi : World) => fr_frame kind data behind wi hk0 hk1 hd (by omega))
  have HR := Aside0.mk (fun (hd : data.size ≤ 300) (hb : behind.size ≤ 300) (wi : World) => fr_resp kind data behind wi hd (by omega))
  have HU := Aside0.mk (fun (hd : data.size ≤ 300) (wi : World) => fr_unpack kind data wi hk0 hk1 hd)
  have HSZ := Aside0.mk (frameS_size kind data)
  have hwk : IntKind.i64.wrap kind = kind := by rw [IntKind.wrap_i64]; omega
  unfold frameS at *
  generalize strOfNums (frameL kind data.size) ++ data = fs at *
  have HUZ := Aside0.mk (show (strOfNums (bigL (kind % 4294967296) 4) ++ data).size = 4 + data.size by rw [ByteArray.size_append, fr_size, bigL_length])
  generalize strOfNums (bigL (kind % 4294967296) 4) ++ data = us at *
  go_enter Try.func13, Try.ntmps13
  by_cases h1 : (data.size : Int) > 2147483647
  · go_wp2_with fail
    go_ret
    exact ⟨rfl, Below.refl _ _⟩
  by_cases h2 : (behind.size : Int) > 2147483647
  · go_wp2_with fail
    go_ret
    exact ⟨rfl, Below.refl _ _⟩
  by_cases h3 : (data.size : Int) > 300
  · go_wp2_with fail
    go_ret
    exact ⟨rfl, Below.refl _ _⟩
  by_cases h4 : (behind.size : Int) > 300
  · go_wp2_with fail
    go_ret
    exact ⟨rfl, Below.refl _ _⟩
  have HK := Aside0.mk (show data.size ≤ 300 ∧ behind.size ≤ 300 by omega)
  have hfz : fs.size ≤ 308 := by have := HSZ.out; have := HK.out; omega
  have hbz : behind.size ≤ 300 := HK.out.2
  have hdz : data.size ≤ 300 := HK.out.1
  clear h1 h2 HSZ
  go_wp2_with fail
  refine (HM.out HK.out.1 _).mono ?_
  rintro e w1 ⟨rfl, hb⟩
  have HB1 := Aside0.mk hb
  clear hb
  go_wp2_with fail
  refine (HF.out HK.out.1 HK.out.2 _).mono ?_
  rintro e w2 ⟨rfl, hb⟩
  have HB2 := Aside0.mk (HB1.out.trans (hb.mono HB1.out.size))
  clear hb HB1 HF
  go_wp2_with fail
  refine (HM.out HK.out.1 _).mono ?_
  rintro e w3 ⟨rfl, hb⟩
  have HB3 := Aside0.mk (HB2.out.trans (hb.mono HB2.out.size))
  clear hb HB2 HM
  go_wp2_with fail
  refine (HR.out HK.out.1 HK.out.2 _).mono ?_
  rintro e w4 ⟨rfl, hb⟩
  have HB4 := Aside0.mk (HB3.out.trans (hb.mono HB3.out.size))
  clear hb HB3 HR
  go_wp2_with fail
  refine (HU.out HK.out.1 _).mono ?_
  rintro e w5 ⟨rfl, hb⟩
  have HB5 := Aside0.mk (HB4.out.trans (hb.mono HB4.out.size))
  clear hb HB4 HU
  go_wp2_with fail
  refine (alive_any _).mono ?_
  rintro e w6 ⟨rfl, hb⟩
  have HB6 := Aside0.mk (HB5.out.trans (hb.mono HB5.out.size))
  clear hb HB5
  go_wp2_with fail
  go_ret
  exact ⟨rfl, HB6.out⟩
theorem FnFrameBack_row (kind : Int) (data behind : ByteArray) (w : World) (hk : (Lit.int IntKind.i32 kind).wf = true) (hd : data.size ≤ 140737488351232) (hb : behind.size ≤ 140737488351232) :
    Calls Try.prog 13 #[.int .i32 kind, .string data, .string behind] w fun e w' => e = .returned (.bool true) ∧ Below w.heap.size w w' := by
  have h := Go.bounds_i32 hk
  exact FnFrameBack_walk kind data behind w (by omega) (by omega)

set_option maxHeartbeats 4000000 in
set_option maxRecDepth 100000 in
theorem FnFrameCut_walk (kind : Int) (data : ByteArray) (n : Int) (w : World) (hk0 : -2147483648 ≤ kind) (hk1 : kind ≤ 2147483647) :
    Calls Try.prog 12 #[.int .i32 kind, .string data, .int .i64 n] w fun e w' => e = .returned (.bool true) ∧ Below w.heap.size w w' := by
  have HM := Aside0.mk (fun (hd : data.size ≤ 2147483647) (wi : World) => framed_any kind data wi hk0 hk1 hd)
  have HF := Aside0.mk (fun (hd : data.size ≤ 300) (m : Nat) (hm : m < (frameS kind data).size) (wi : World) => fr_cutF kind data m wi hd hm)
  have HR := Aside0.mk (fun (hd : data.size ≤ 300) (m : Nat) (hm : m < (frameS kind data).size) (wi : World) => fr_cutR kind data m wi hd hm)
  have HSZ := Aside0.mk (frameS_size kind data)
  unfold frameS at *
  generalize strOfNums (frameL kind data.size) ++ data = fs at *
  go_enter Try.func12, Try.ntmps12
  by_cases h1 : (data.size : Int) > 2147483647
  · go_wp2_with fail
    go_ret
    exact ⟨rfl, Below.refl _ _⟩
  have HD := Aside0.mk (show data.size ≤ 2147483647 by omega)
  go_wp2_with fail
  refine (HM.out HD.out _).mono ?_
  rintro e w1 ⟨rfl, hb⟩
  have HB1 := Aside0.mk hb
  clear hb HM
  by_cases h3 : (data.size : Int) > 300
  · go_wp2_with fail
    go_ret
    exact ⟨rfl, HB1.out⟩
  by_cases hn0 : n < 0
  · go_wp2_with fail
    go_ret
    exact ⟨rfl, HB1.out⟩
  by_cases hn1 : (fs.size : Int) ≤ n
  · go_wp2_with fail
    go_ret
    exact ⟨rfl, HB1.out⟩
  obtain ⟨m, rfl⟩ : ∃ m : Nat, n = m := ⟨n.toNat, by omega⟩
  have hm : m < fs.size := by omega
  have HK := Aside0.mk (show data.size ≤ 300 ∧ m < fs.size by omega)
  have h2 : decide ((m : Int) ≥ (fs.size : Int)) = false := decide_eq_false (by omega)
  have h5 : decide (fs.size ≤ m) = false := decide_eq_false (by omega)
  have h6 : decide ((m : Int) < 0) = false := decide_eq_false (by omega)
  have hmi : (m : Int) ≤ (fs.size : Int) := by omega
  clear h1 HSZ hn1 hn0 HD
  go_wp2_with fail
  refine (HF.out HK.out.1 m HK.out.2 _).mono ?_
  rintro e w2 ⟨⟨k, left, rfl⟩, hb⟩
  have HB2 := Aside0.mk (HB1.out.trans (hb.mono HB1.out.size))
  clear hb HB1 HF
  go_wp2_with fail
  refine (HR.out HK.out.1 m HK.out.2 _).mono ?_
  rintro e w4 ⟨⟨left2, rfl⟩, hb⟩
  have HB4 := Aside0.mk (HB2.out.trans (hb.mono HB2.out.size))
  clear hb HB2 HR
  go_wp2_with fail
  refine (alive_any _).mono ?_
  rintro e w6 ⟨rfl, hb⟩
  have HB6 := Aside0.mk (HB4.out.trans (hb.mono HB4.out.size))
  clear hb HB4
  go_wp2_with fail
  go_ret
  exact ⟨rfl, HB6.out⟩
theorem FnFrameCut_row (kind : Int) (data : ByteArray) (n : Int) (w : World) (hk : (Lit.int IntKind.i32 kind).wf = true) (hd : data.size ≤ 140737488351232) (hn : (Lit.int IntKind.i64 n).wf = true) :
    Calls Try.prog 12 #[.int .i32 kind, .string data, .int .i64 n] w fun e w' => e = .returned (.bool true) ∧ Below w.heap.size w w' := by
  have h := Go.bounds_i32 hk
  exact FnFrameCut_walk kind data n w (by omega) (by omega)
end Go.Proofs.Ytnbhledkdkchlaa
