/- spec.token: whatever the bytes. (seat r1) -/
import Derived.Test.YtjnookhdiolhgaaTok1
import Derived.Test.YtjnookhdiolhgaaTok2
import Derived.Test.YtjnookhdiolhgaaTok3
import Derived.Test.YtjnookhdiolhgaaTok4
import Derived.Test.YtjnookhdiolhgaaTok5
import Derived.Test.YtjnookhdiolhgaaTok6
import Derived.Test.YtjnookhdiolhgaaTok7
import Derived.Test.YtjnookhdiolhgaaTok8
namespace Go.Proofs.Ytjnookhdiolhgaa
set_option linter.unusedVariables false
set_option linter.unusedSimpArgs false
open Go.RowKit Go.Proofs.YtjnookhdiolhgaaW.PrintWords

theorem token_any (s : ByteArray) (w : World) (hs : s.size ≤ 1000000000) : Calls Try.prog 58 #[.string s] w fun e w' => TokR (tks (bytesOf s)) w e w' := by
 by_cases hz : s.size = 0
 ·obtain rfl : s = ⟨#[]⟩ := by
   obtain ⟨⟨l⟩⟩ := s
   have : l = [] := List.length_eq_zero_iff.1 hz
   rw [this]
  exact token_nil w
 ·have h0 : 0 < s.size := by omega
  obtain ⟨m, hm⟩ : ∃ m : Int, ((s[0]'h0).toNat : Int) = m := ⟨_, rfl⟩
  obtain ⟨s1, hs1⟩ : ∃ s1, s.extract 1 s.size = s1 := ⟨_, rfl⟩
  have hm0 : 0 ≤ m := by omega
  have hm1 : m ≤ 255 := by have := (s[0]'h0).toNat_lt; omega
  have hl : bytesOf s = m :: bytesOf s1 := by rw [← hs1, bytes_extract, ← hm]; exact bytes_first s h0
  rw [hl]
  show Calls _ _ _ _ fun e w' => TokR (tksM (mark m).1 (mark m).2.1 (mark m).2.2 (bytesOf s1)) w e w'
  by_cases k0 : m < 128
  ·exact token_c0 s s1 m w h0 hs hm hs1 hm0 hm1 k0
  by_cases k1 : m < 144
  ·exact token_c1 s s1 m w h0 hs hm hs1 hm0 hm1 k0 k1
  by_cases k2 : m < 160
  ·exact token_c2 s s1 m w h0 hs hm hs1 hm0 hm1 k0 k1 k2
  by_cases k3 : m < 176
  ·exact token_c3 s s1 m w h0 hs hm hs1 hm0 hm1 k0 k1 k2 k3
  by_cases k4 : m < 192
  ·exact token_c4 s s1 m w h0 hs hm hs1 hm0 hm1 k0 k1 k2 k3 k4
  by_cases k5 : 240 ≤ m
  ·exact token_c5 s s1 m w h0 hs hm hs1 hm0 hm1 k0 k1 k2 k3 k4 k5
  by_cases k6 : m = 192
  ·exact token_c6 s s1 m w h0 hs hm hs1 hm0 hm1 k0 k1 k2 k3 k4 k5 k6
  by_cases k7 : m = 193
  ·exact token_c7 s s1 m w h0 hs hm hs1 hm0 hm1 k0 k1 k2 k3 k4 k5 k6 k7
  by_cases k8 : m = 194
  ·exact token_c8 s s1 m w h0 hs hm hs1 hm0 hm1 k0 k1 k2 k3 k4 k5 k6 k7 k8
  by_cases k9 : m = 195
  ·exact token_c9 s s1 m w h0 hs hm hs1 hm0 hm1 k0 k1 k2 k3 k4 k5 k6 k7 k8 k9
  by_cases k10 : m = 200
  ·exact token_c10 s s1 m w h0 hs hm hs1 hm0 hm1 k0 k1 k2 k3 k4 k5 k6 k7 k8 k9 k10
  by_cases k11 : m = 201
  ·exact token_c11 s s1 m w h0 hs hm hs1 hm0 hm1 k0 k1 k2 k3 k4 k5 k6 k7 k8 k9 k10 k11
  by_cases k12 : m = 202
  ·exact token_c12 s s1 m w h0 hs hm hs1 hm0 hm1 k0 k1 k2 k3 k4 k5 k6 k7 k8 k9 k10 k11 k12
  by_cases k13 : m = 203
  ·exact token_c13 s s1 m w h0 hs hm hs1 hm0 hm1 k0 k1 k2 k3 k4 k5 k6 k7 k8 k9 k10 k11 k12 k13
  by_cases k14 : m = 204
  ·exact token_c14 s s1 m w h0 hs hm hs1 hm0 hm1 k0 k1 k2 k3 k4 k5 k6 k7 k8 k9 k10 k11 k12 k13 k14
  by_cases k15 : m = 205
  ·exact token_c15 s s1 m w h0 hs hm hs1 hm0 hm1 k0 k1 k2 k3 k4 k5 k6 k7 k8 k9 k10 k11 k12 k13 k14 k15
  by_cases k16 : m = 206
  ·exact token_c16 s s1 m w h0 hs hm hs1 hm0 hm1 k0 k1 k2 k3 k4 k5 k6 k7 k8 k9 k10 k11 k12 k13 k14 k15 k16
  by_cases k17 : m = 208
  ·exact token_c17 s s1 m w h0 hs hm hs1 hm0 hm1 k0 k1 k2 k3 k4 k5 k6 k7 k8 k9 k10 k11 k12 k13 k14 k15 k16 k17
  by_cases k18 : m = 209
  ·exact token_c18 s s1 m w h0 hs hm hs1 hm0 hm1 k0 k1 k2 k3 k4 k5 k6 k7 k8 k9 k10 k11 k12 k13 k14 k15 k16 k17 k18
  by_cases k19 : m = 210
  ·exact token_c19 s s1 m w h0 hs hm hs1 hm0 hm1 k0 k1 k2 k3 k4 k5 k6 k7 k8 k9 k10 k11 k12 k13 k14 k15 k16 k17 k18 k19
  by_cases k20 : m = 212
  ·exact token_c20 s s1 m w h0 hs hm hs1 hm0 hm1 k0 k1 k2 k3 k4 k5 k6 k7 k8 k9 k10 k11 k12 k13 k14 k15 k16 k17 k18 k19 k20
  by_cases k21 : m = 213
  ·exact token_c21 s s1 m w h0 hs hm hs1 hm0 hm1 k0 k1 k2 k3 k4 k5 k6 k7 k8 k9 k10 k11 k12 k13 k14 k15 k16 k17 k18 k19 k20 k21
  by_cases k22 : m = 214
  ·exact token_c22 s s1 m w h0 hs hm hs1 hm0 hm1 k0 k1 k2 k3 k4 k5 k6 k7 k8 k9 k10 k11 k12 k13 k14 k15 k16 k17 k18 k19 k20 k21 k22
  by_cases k23 : m = 216
  ·exact token_c23 s s1 m w h0 hs hm hs1 hm0 hm1 k0 k1 k2 k3 k4 k5 k6 k7 k8 k9 k10 k11 k12 k13 k14 k15 k16 k17 k18 k19 k20 k21 k22 k23
  by_cases k24 : m = 217
  ·exact token_c24 s s1 m w h0 hs hm hs1 hm0 hm1 k0 k1 k2 k3 k4 k5 k6 k7 k8 k9 k10 k11 k12 k13 k14 k15 k16 k17 k18 k19 k20 k21 k22 k23 k24
  by_cases k25 : m = 218
  ·exact token_c25 s s1 m w h0 hs hm hs1 hm0 hm1 k0 k1 k2 k3 k4 k5 k6 k7 k8 k9 k10 k11 k12 k13 k14 k15 k16 k17 k18 k19 k20 k21 k22 k23 k24 k25
  exact token_c26 s s1 m w h0 hs hm hs1 hm0 hm1 k0 k1 k2 k3 k4 k5 k6 k7 k8 k9 k10 k11 k12 k13 k14 k15 k16 k17 k18 k19 k20 k21 k22 k23 k24 k25
end Go.Proofs.Ytjnookhdiolhgaa
