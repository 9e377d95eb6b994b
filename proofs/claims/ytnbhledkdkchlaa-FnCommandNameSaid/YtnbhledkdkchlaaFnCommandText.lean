/- FnCommandText: the walk. (seat r2) -/
import Derived.Test.YtnbhledkdkchlaaCmdText
namespace Go.Proofs.Ytnbhledkdkchlaa
set_option linter.unusedVariables false
set_option linter.unusedSimpArgs false
open Go.RowKit Go.Proofs.YtnbhledkdkchlaaW.PrintWords
open PAll (info5)

theorem fits1_any (A : Option Addr) (c : Nat) (name body : ByteArray) (hb : Bool) (l : List ByteArray) (w : World) (hC : Kd.C Kd.string w A l.length l) (hc : l.length ≤ c) :
    Calls Try.prog 25 #[.agg #[.string name, .slice A l.length c, .string body, .bool hb]] w fun e w' => ∃ r : Bool, e = .returned (.bool r) ∧ Below w.heap.size w w' := by
  obtain ⟨k, r, hr⟩ := fits2_ex l hC.2.1
  obtain ⟨q, hq⟩ : ∃ q, PAll.laws_zzFits1.f k name l body hb = some q := by
    unfold PAll.laws_zzFits1.f
    rw [hr]
    simp only [Option.bind_some]
    repeat' split
    all_goals exact ⟨_, rfl⟩
  exact (PAll.laws_zzFits1.calls k name A c l body hb q w hC hc hq).mono fun e w' h => ⟨q, h⟩
theorem bytes_blank (s : ByteArray) : bytesOf ((⟨#[32]⟩ : ByteArray) ++ s) = 32 :: bytesOf s := by rw [fr_bytes_append]; rfl
theorem str_of_bytes {l : List Int} {s : ByteArray} (h : bytesOf s = l) : strOfNums l = s := by rw [← h, fr_str_bytesOf]
/-- The argument in its box. -/
structure BX (w wx : World) (arg : Array Value) : Prop where
  bel : Below w.heap.size w wx
  box : wx.heap[w.heap.size]? = some (.cells arg 35 (0, 0))
theorem BX.new (w : World) (arg : Array Value) : BX w (w.alloc (.cells arg 35)) arg := ⟨below_alloc (Below.refl _ _) _, heap_alloc_new w _⟩
theorem BX.step {w wx w1 : World} {arg : Array Value} (h : BX w wx arg) (hb : Below wx.heap.size wx w1) : BX w w1 arg := ⟨h.bel.trans (hb.mono h.bel.size), blk_below h.box hb⟩

set_option maxHeartbeats 4000000 in
set_option maxRecDepth 100000 in
theorem FnCommandText_walk (name body : ByteArray) (hb : Bool) (A : Option Addr) (c : Nat) (l : List ByteArray) (w : World) (hC : Kd.C Kd.string w A l.length l) (hlc : l.length ≤ c) :
    Calls Try.prog 8 #[.agg #[.string name, .slice A l.length c, .string body, .bool hb]] w fun e w' => e = .returned (.bool true) ∧ Below w.heap.size w w' := by
  have HX0 := Aside0.mk (BX.new w #[.string name, .slice A l.length c, .string body, .bool hb])
  have HF := Aside0.mk (fits1_any A c name body hb l _ (Kd.C_below hC HX0.out.bel) hlc)
  have HC := Aside0.mk hC
  clear hC hlc
  go_enter Try.func8, Try.ntmps8
  go_wp2_with fail
  refine (HF.out).mono ?_
  rintro e w1 ⟨r, rfl, hbel⟩
  have HX := Aside0.mk (HX0.out.step hbel)
  clear HX0 HF hbel
  cases r
  case false =>
    go_wp2_with fail
    go_ret
    exact ⟨rfl, HX.out.bel⟩
  have e0 := blk_cell HX.out.box 0
  have e1 := blk_cell HX.out.box 1
  have e2 := blk_cell HX.out.box 2
  have e3 := blk_cell HX.out.box 3
  by_cases h1 : (name.size : Int) > 60
  · go_wp2_with fail
    go_ret
    exact ⟨rfl, HX.out.bel⟩
  by_cases h2 : (l.length : Int) > 8
  · go_wp2_with fail
    go_ret
    exact ⟨rfl, HX.out.bel⟩
  by_cases h3 : (body.size : Int) > 300
  · go_wp2_with fail
    go_ret
    exact ⟨rfl, HX.out.bel⟩
  have hn60 : name.size ≤ 60 := by omega
  have hl8 : l.length ≤ 8 := by omega
  have hb300 : body.size ≤ 300 := by omega
  have h4 : (hb = true) ∨ (hb = false ∧ body.toList.isEmpty = false) ∨ (hb = false ∧ body.toList.isEmpty = true) := by
    cases hb
    · cases h : body.toList.isEmpty
      · exact .inr (.inl ⟨rfl, rfl⟩)
      · exact .inr (.inr ⟨rfl, rfl⟩)
    · exact .inl rfl
  have HZ := Aside0.mk (And.intro hn60 (And.intro hl8 hb300))
  rcases h4 with rfl | ⟨rfl, h5⟩ | ⟨rfl, h5⟩
  rotate_left
  · go_wp2_with fail
    go_ret
    exact ⟨rfl, HX.out.bel⟩
  · go_wp2_with fail
    go_loopg [3, 42] l.length (fun gk v3 v42 wr => ∃ (j : Nat) (sa : ByteArray), v3 = .string sa ∧ v42 = .int .i64 j ∧ sa.size ≤ 60 + 61 * j ∧ Aside0 (bytesOf sa = bytesOf name ++ parL (l.take j)) ∧ Aside0 (j ≤ l.length ∧ gk = l.length - j) ∧ Aside0 (∀ d ∈ l.take j, d.size ≤ 60) ∧ wr = w1)
    case atStart => exact ⟨0, _, rfl, rfl, by omega, ⟨by simp [parL]⟩, ⟨by omega⟩, ⟨by simp⟩, rfl⟩
    case round =>
      obtain ⟨j, sa, rfl, rfl, hsa, HS, HJ, HD, rfl⟩ := hrel
      by_cases hj : j < l.length
      · obtain ⟨d, hd⟩ : ∃ d, l[j]? = some d := ⟨_, List.getElem?_eq_getElem hj⟩
        obtain ⟨ad, hA, hcd⟩ := at_enc HC.out hd
        have hcd2 := pw_cell_below HX.out.bel hcd
        subst hA
        have HDD := Aside0.mk hd
        clear hd hcd
        by_cases hz : (d.size : Int) > 60
        · go_wp2_with fail
          go_ret
          exact ⟨rfl, HX.out.bel⟩
        · have HDZ := Aside0.mk (show d.size ≤ 60 by omega)
          have hd60 : d.size ≤ 60 := by omega
          have hsa8 : sa.size ≤ 1000 := by omega
          have hdz : ((⟨#[32]⟩ : ByteArray) ++ d).size ≤ 61 := by rw [ByteArray.size_append]; show 1 + d.size ≤ 61; omega
          go_wp2_with fail
          go_roundg (l.length - (j + 1))
          case measure => have := HJ.out.2; omega
          case rel =>
            refine ⟨j + 1, sa ++ ((⟨#[32]⟩ : ByteArray) ++ d), rfl, by go_num, ?_, ⟨?_⟩, ⟨by omega⟩, ⟨?_⟩, rfl⟩
            · rw [ByteArray.size_append]
              omega
            · rw [fr_bytes_append, bytes_blank, HS.out, parL_snoc l j d HDD.out]
              simp
            · intro x hx
              rw [List.take_add_one, HDD.out] at hx
              simp only [Option.toList_some, List.mem_append, List.mem_singleton] at hx
              rcases hx with hx | rfl
              · exact HD.out x hx
              · exact HDZ.out
      · have hje : j = l.length := by have := HJ.out.1; omega
        subst hje
        have HD2 := Aside0.mk (show ∀ d ∈ l, d.size ≤ 60 by have := HD.out; rwa [List.take_length] at this)
        have HS2 := Aside0.mk (show bytesOf sa = bytesOf name ++ parL l by have := HS.out; rwa [List.take_length] at this)
        have hsa8 : sa.size ≤ 1000 := by omega
        clear HD HS HJ
        have hlf : (sa ++ (⟨#[10]⟩ : ByteArray)).size ≤ 1001 := by rw [ByteArray.size_append]; show sa.size + 1 ≤ 1001; omega
        have HCT := Aside0.mk (fun (wi : World) (hb : Below w.heap.size w wi) => commandText_any name body false A c l wi (Kd.C_below HC.out hb) ⟨hl8, by omega, fun s hs => by have := HD2.out s hs; omega, by omega⟩)
        have HE := Aside0.mk (show strOfNums (cmdL name l (if false = true then some body else none)) = sa ++ (⟨#[10]⟩ : ByteArray) from str_of_bytes (by rw [fr_bytes_append, HS2.out]; simp [cmdL]; rfl))
        go_wp2_with fail
        refine (HCT.out _ HX.out.bel).mono ?_
        rintro e w5 ⟨rfl, hb5⟩
        rw [HE.out]
        have HB5 := Aside0.mk (HX.out.bel.trans (hb5.mono HX.out.bel.size))
        clear hb5 HCT HE
        go_wp2_with fail
        refine (alive_any _).mono ?_
        rintro e w6 ⟨rfl, hb⟩
        have HB6 := Aside0.mk (HB5.out.trans (hb.mono HB5.out.size))
        clear hb
        go_wp2_with fail
        go_ret
        exact ⟨rfl, HB6.out⟩
  · go_wp2_with fail
    go_loopg [3, 42] l.length (fun gk v3 v42 wr => ∃ (j : Nat) (sa : ByteArray), v3 = .string sa ∧ v42 = .int .i64 j ∧ sa.size ≤ 60 + 61 * j ∧ Aside0 (bytesOf sa = bytesOf name ++ parL (l.take j)) ∧ Aside0 (j ≤ l.length ∧ gk = l.length - j) ∧ Aside0 (∀ d ∈ l.take j, d.size ≤ 60) ∧ wr = w1)
    case atStart => exact ⟨0, _, rfl, rfl, by omega, ⟨by simp [parL]⟩, ⟨by omega⟩, ⟨by simp⟩, rfl⟩
    case round =>
      obtain ⟨j, sa, rfl, rfl, hsa, HS, HJ, HD, rfl⟩ := hrel
      by_cases hj : j < l.length
      · obtain ⟨d, hd⟩ : ∃ d, l[j]? = some d := ⟨_, List.getElem?_eq_getElem hj⟩
        obtain ⟨ad, hA, hcd⟩ := at_enc HC.out hd
        have hcd2 := pw_cell_below HX.out.bel hcd
        subst hA
        have HDD := Aside0.mk hd
        clear hd hcd
        by_cases hz : (d.size : Int) > 60
        · go_wp2_with fail
          go_ret
          exact ⟨rfl, HX.out.bel⟩
        · have HDZ := Aside0.mk (show d.size ≤ 60 by omega)
          have hd60 : d.size ≤ 60 := by omega
          have hsa8 : sa.size ≤ 1000 := by omega
          have hdz : ((⟨#[32]⟩ : ByteArray) ++ d).size ≤ 61 := by rw [ByteArray.size_append]; show 1 + d.size ≤ 61; omega
          go_wp2_with fail
          go_roundg (l.length - (j + 1))
          case measure => have := HJ.out.2; omega
          case rel =>
            refine ⟨j + 1, sa ++ ((⟨#[32]⟩ : ByteArray) ++ d), rfl, by go_num, ?_, ⟨?_⟩, ⟨by omega⟩, ⟨?_⟩, rfl⟩
            · rw [ByteArray.size_append]
              omega
            · rw [fr_bytes_append, bytes_blank, HS.out, parL_snoc l j d HDD.out]
              simp
            · intro x hx
              rw [List.take_add_one, HDD.out] at hx
              simp only [Option.toList_some, List.mem_append, List.mem_singleton] at hx
              rcases hx with hx | rfl
              · exact HD.out x hx
              · exact HDZ.out
      · have hje : j = l.length := by have := HJ.out.1; omega
        subst hje
        have HD2 := Aside0.mk (show ∀ d ∈ l, d.size ≤ 60 by have := HD.out; rwa [List.take_length] at this)
        have HS2 := Aside0.mk (show bytesOf sa = bytesOf name ++ parL l by have := HS.out; rwa [List.take_length] at this)
        have hsa8 : sa.size ≤ 1000 := by omega
        clear HD HS HJ
        have hlf : (sa ++ (⟨#[10]⟩ : ByteArray)).size ≤ 1001 := by rw [ByteArray.size_append]; show sa.size + 1 ≤ 1001; omega
        have HCT := Aside0.mk (fun (wi : World) (hb : Below w.heap.size w wi) => commandText_any name body true A c l wi (Kd.C_below HC.out hb) ⟨hl8, by omega, fun s hs => by have := HD2.out s hs; omega, by omega⟩)
        have HE := Aside0.mk (show strOfNums (cmdL name l (if true = true then some body else none)) = (sa ++ (⟨#[10]⟩ : ByteArray)) ++ (strOfNums (bigL body.size 4) ++ body) from str_of_bytes (by rw [fr_bytes_append, fr_bytes_append, fr_bytes_append, HS2.out, fr_bytes_str (bigL_rng _ _)]; simp [cmdL]; rfl))
        have HBG : Aside0 (∀ wi : World, Calls Try.prog 27 #[.int .u64 (body.size : Int), .int .i64 4] wi fun e w' => e = .returned (.string (strOfNums (bigL (body.size : Int) 4))) ∧ Below wi.heap.size wi w') := ⟨fun wi => big_any _ 4 (by omega) wi⟩
        have hgz : (strOfNums (bigL (body.size : Int) 4)).size = 4 := by rw [fr_size, bigL_length]
        generalize strOfNums (bigL (body.size : Int) 4) = bg at *
        have hgz2 : (bg ++ body).size ≤ 304 := by rw [ByteArray.size_append]; omega
        have hu1 : IntKind.u64.wrap (body.size : Int) = (body.size : Int) := by rw [IntKind.wrap_u64]; omega
        go_upto_region 15 with fail
        go_cut [3] (fun v3 wc => v3 = .string ((sa ++ (⟨#[10]⟩ : ByteArray)) ++ (bg ++ body)) ∧ Aside0 (BX w wc #[.string name, .slice A l.length c, .string body, .bool true]))
        case first =>
          go_region_with (go_at_call 27; (with_reducible refine (HBG.out _).mono ?_); rintro e w5 ⟨rfl, hb5⟩; first | (have HX5 := Aside0.mk (HX.out.step hb5)) | (have HX5 := Aside0.mk (HX.out.step ((below_drew (Below.refl _ _)).trans hb5))); have e25 := blk_cell HX5.out.box 2)
          all_goals
            clear hb5
            go_wp2_with fail
            go_meet
            exact ⟨rfl, HX5⟩
        case rest =>
          obtain ⟨rfl, HX5⟩ := hcut
          have f0 := blk_cell HX5.out.box 0
          have f1 := blk_cell HX5.out.box 1
          have f2 := blk_cell HX5.out.box 2
          have f3 := blk_cell HX5.out.box 3
          go_wp2_with fail
          refine (HCT.out _ HX5.out.bel).mono ?_
          rintro e w5 ⟨rfl, hb5⟩
          rw [HE.out]
          have HB5 := Aside0.mk (HX5.out.bel.trans (hb5.mono HX5.out.bel.size))
          clear hb5 HCT HE
          go_wp2_with fail
          refine (alive_any _).mono ?_
          rintro e w6 ⟨rfl, hb⟩
          have HB6 := Aside0.mk (HB5.out.trans (hb.mono HB5.out.size))
          clear hb
          go_wp2_with fail
          go_ret
          exact ⟨rfl, HB6.out⟩
theorem FnCommandText_row (name : ByteArray) (A : Option Addr) (c : Nat) (l : List ByteArray) (body : ByteArray) (hb : Bool) (w : World) (hlc : l.length ≤ c) (hC : Kd.C Kd.string w A l.length l) :
    Calls Try.prog 8 #[.agg #[.string name, .slice A l.length c, .string body, .bool hb]] w fun e w' => e = .returned (.bool true) ∧ Below w.heap.size w w' := FnCommandText_walk name body hb A c l w hC hlc
end Go.Proofs.Ytnbhledkdkchlaa
