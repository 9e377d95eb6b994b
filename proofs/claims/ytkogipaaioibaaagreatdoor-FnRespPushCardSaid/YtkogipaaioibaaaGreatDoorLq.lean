/- Replies that came in, as data: every argument that can be read as a Reply is one, with its rows in memory. (seat r3.ZD) The laid variables of the three Resp rows: a world that meets them; the tables that a walk needs. (seat r3.ZD) FnRespPeek: the walk. (seat r3.ZD) -/
import Derived.Test.YtkogipaaioibaaaGreatDoorWa
import Derived.ProofKit
import Derived.Deep.Slices
import Derived.Deep.Fields
import Derived.ChangeSame
import Derived.SliceStrings
import Derived.OpenShut
import Derived.Test.YtkogipaaioibaaaGreatDoorRows
import Derived.Test.YtkogipaaioibaaaGreatDoorFa
import Derived.Lay
import Derived.MakeChecks
import Derived.LaidHandle
import Derived.LaidLaws
import Derived.Stop.LaidErr
import Derived.Lib.LaidTab
import Derived.ChangeArms
import Derived.Handed
import Derived.SizedLaws
import Derived.Test.YtkogipaaioibaaaGreatDoorAlive
import Derived.Test.YtkogipaaioibaaaGreatDoorPlawszzFits5
import Derived.Test.YtkogipaaioibaaaGreatDoorWc
import Derived.Test.YtkogipaaioibaaaGreatDoorWd
namespace Go.Proofs.YtkogipaaioibaaaGreatDoor
open Go.RowKit Go.Proofs.YtkogipaaioibaaaGreatDoorW.PrintWords
open Go.ChangeShapes Go.WideShapes Go.Deep
open PAll (info5 S25 k25 z25)

section
variable {H : Type} {enc : TypeId × Value → H} {w : World} {base : Nat} {spare : Nat → Bool} {held : Bool}

theorem cells25 : Tryz.prog.cellsOf 25 = 5 := by kernel_rfl
theorem cells2 : Tryz.prog.cellsOf 2 = 1 := by kernel_rfl
theorem cells3 : Tryz.prog.cellsOf 3 = 1 := by kernel_rfl
theorem cells22 : Tryz.prog.cellsOf 22 = 1 := by kernel_rfl
theorem cells24 : Tryz.prog.cellsOf 23 = 1 := by kernel_rfl
theorem cells9 : Tryz.prog.cellsOf 9 = 1 := by kernel_rfl

set_option maxRecDepth 100000 in
theorem open_val (fuel : Nat) : ∀ (cs : List Value) (x : DataW H × List MemPlace), DataW.trod enc Tryz.prog w base spare held fuel 25 cs = some x → ∃ S : S25, k25.K w S cs ∧ wfR S := by
  induction fuel using Nat.strongRecOn with
  | _ fuel ih =>
    intro cs x h
    obtain ⟨xs, n, hfu, _, hlen, hxl, hf⟩ := DataW.trod_struct Tryz.underlying25 h
    rw [cells25] at hlen
    match cs, hlen with
    | [c0, c1, c2, c3, c4], _ =>
      match xs, hxl with
      | [y0, y1, y2, y3, y4], _ =>
        have g0 : DataW.trod enc Tryz.prog w base spare held n 3 [c0] = some y0 := by simpa [cells3] using hf 0 _ rfl
        have g1 : DataW.trod enc Tryz.prog w base spare held n 2 [c1] = some y1 := by simpa [cells2] using hf 1 _ rfl
        have g2 : DataW.trod enc Tryz.prog w base spare held n 22 [c2] = some y2 := by simpa [cells22] using hf 2 _ rfl
        have g3 : DataW.trod enc Tryz.prog w base spare held n 9 [c3] = some y3 := by simpa [cells9] using hf 3 _ rfl
        have g4 : DataW.trod enc Tryz.prog w base spare held n 23 [c4] = some y4 := by simpa [cells24] using hf 4 _ rfl
        clear hf
        obtain ⟨k, e0, _, wk0⟩ := DataW.trod_int Tryz.underlying3 g0
        obtain ⟨i, e1, _, wi⟩ := DataW.trod_int Tryz.underlying2 g1
        obtain ⟨f, e2, _, wf⟩ := DataW.trod_int Tryz.underlying22 g2
        obtain ⟨s, e3, _, _⟩ := DataW.trod_string Tryz.underlying9 g3
        simp only [List.cons.injEq, and_true] at e0 e1 e2 e3
        subst e0 e1 e2 e3
        have wk' : -9223372036854775808 ≤ k ∧ k < 9223372036854775808 := by have := Go.bounds_i64 wk0; omega
        have wi' : -9223372036854775808 ≤ i ∧ i < 9223372036854775808 := by have := Go.bounds_i64 wi; omega
        have wf' : 0 ≤ f ∧ f < 18446744073709551616 := by have := Go.bounds_u64 wf; omega
        have hk : ∃ (A6 : Option Addr) (d6 : Nat) (kids : List S25), c4 = .slice A6 kids.length d6 ∧ kids.length ≤ d6 ∧ Kd.C k25 w A6 kids.length kids ∧ wfAll kids := by
          rcases DataW.trod_slice Tryz.underlying23 g4 with ⟨e6, _⟩ | ⟨a, len, cap, elems, rest, m, hm, e6, _, hb, hl, hmax, hlen, hel, _⟩
          · simp only [List.cons.injEq, and_true] at e6
            subst e6
            exact ⟨none, 0, [], rfl, Nat.le_refl _, ⟨rfl, by decide, fun h => absurd h (by decide)⟩, trivial⟩
          · simp only [List.cons.injEq, and_true] at e6
            subst e6
            have hall : ∀ j, j < len → ∃ (S : S25) (cs : List Value), k25.K w S cs ∧ wfR S ∧ cs.length = 5 ∧ ∀ t u, cs[t]? = some u → w.cell? (a.add (j * 5 + t)) = some u := by
              intro j hj
              have h1 := hel j hj
              rw [List.getElem?_eq_getElem (by omega)] at h1
              obtain ⟨cs', hc, ht⟩ := Option.bind_eq_some_iff.1 h1
              rw [cells25] at hc
              obtain ⟨S, hS, hw⟩ := ih m (by omega) _ _ ht
              obtain ⟨_, hcl, hat⟩ := World.cells?_some hc
              refine ⟨S, cs', hS, hw, hcl, fun t u hu => ?_⟩
              have htl : t < 5 := by have := (List.getElem?_eq_some_iff.1 hu).1; omega
              rw [← Go.Deep.add_add, hat t htl]
              exact hu
            haveI : Inhabited (S25 × List Value) := ⟨(z25, [])⟩
            obtain ⟨F, hF⟩ := choose_lt (α := S25 × List Value) (n := len) (p := fun j q => k25.K w q.1 q.2 ∧ wfR q.1 ∧ q.2.length = 5 ∧ ∀ t u, q.2[t]? = some u → w.cell? (a.add (j * 5 + t)) = some u)
              (fun j hj => by obtain ⟨S, cs, h⟩ := hall j hj; exact ⟨(S, cs), h⟩)
            have hlenk : ((List.range len).map fun j => (F j).1).length = len := by simp
            refine ⟨some a, cap, (List.range len).map fun j => (F j).1, by rw [hlenk], by omega, ⟨rfl, by rw [hlenk]; simp only [maxLen] at hmax; omega, fun _ => ⟨a, rfl, fun j p hj => ?_⟩⟩, ?_⟩
            · obtain ⟨hjl, hjp⟩ := List.getElem?_eq_some_iff.1 hj
              rw [hlenk] at hjl
              have hp : (F j).1 = p := by simpa using hjp
              obtain ⟨h1, h2, h3, h4⟩ := hF j hjl
              exact ⟨(F j).2, h3, hp ▸ h1, h4⟩
            · have hw : ∀ l : List S25, (∀ S ∈ l, wfR S) → wfAll l := by
                intro l
                induction l with
                | nil => intro _; trivial
                | cons y r ihr => intro h; exact ⟨h y (by simp), ihr (fun S hS => h S (by simp [hS]))⟩
              refine hw _ (fun S hS => ?_)
              obtain ⟨j, hj, rfl⟩ := List.mem_map.1 hS
              exact (hF j (List.mem_range.1 hj)).2.1
        obtain ⟨A6, d6, kids, rfl, l6, q6, wk⟩ := hk
        exact ⟨⟨k, i, f, s, kids⟩, PAll.k25_mk w ⟨k, i, f, s, kids⟩ l6 q6, ⟨⟨wk'.1, wk'.2, wi'.1, wi'.2, wf'.1, wf'.2⟩, wk⟩⟩

set_option maxRecDepth 100000 in
/-- An argument that is a Reply. -/
theorem open_replyArg {r : Reach} {b0 : Nat} {v : Value} {d : DataW H} {p : List MemPlace} (hv : Value.okWide Tryz.prog w r b0 25 v) (h : DataW.Trod enc Tryz.prog w base spare held 25 v d p) :
    ∃ (k i f : Int) (s : ByteArray) (kids : List RP) (A : Option Addr) (c : Nat), v = .agg #[.int .i64 k, .int .i64 i, .int .u64 f, .string s, .slice A kids.length c] ∧ wfR ⟨k, i, f, s, kids⟩ ∧ kids.length ≤ c ∧ Kd.C kR w A kids.length kids := by
  obtain ⟨cs, rfl, hsz⟩ := okWide_struct Tryz.underlying25 hv
  obtain ⟨fuel, hf⟩ := h
  obtain ⟨⟨k, i, f, s, kids⟩, hS, hw⟩ := open_val fuel _ _ hf
  obtain ⟨A6, c6, he, l6, q6⟩ := PAll.k25_open hS
  refine ⟨k, i, f, s, kids, A6, c6, ?_, hw, l6, q6⟩
  have : cs.toList = _ := he
  obtain ⟨l⟩ := cs
  simp only at this
  rw [this]
end
end Go.Proofs.YtkogipaaioibaaaGreatDoor

namespace Go.Proofs.YtkogipaaioibaaaGreatDoor
open Go.ChangeShapes Go.WideShapes Go.RowKit
set_option linter.unusedVariables false
theorem gP : Tryz.prog.globalNamed "internal/strconv.uint64pow10" = some 1 := by kernel_rfl
theorem gPType : (Tryz.prog.globals[1]?).map (·.type) = some 134 := by kernel_rfl
theorem cells_P : Tryz.prog.cellsOf 134 = 20 := by kernel_rfl
theorem cells_e : Tryz.prog.cellsOf 22 = 1 := by kernel_rfl
theorem under_P : Tryz.prog.underlying 134 = some (.array 20 22) := by kernel_rfl
theorem under_e : Tryz.prog.underlying 22 = some (.int .u64) := by kernel_rfl
theorem gT : Tryz.prog.globalNamed "internal/strconv.pow10Tab" = some 8 := by kernel_rfl
/-- The laid variables. -/
def LD : List (String × DataW Unit) := Rows.fnRespPeekRow.laid
theorem laid_met (os : Os) (args : Array Value) : laidMetH Tryz.prog LD ((World.laidAll Tryz.prog os LD).forCall (fun _ _ => 0) ⟨#[], args, []⟩).memory := by
  rw [MakeChecks.laidMetH_plain _ _ _ (by kernel_rfl)]
  exact laidMet_laidAll args (by kernel_rfl) (by kernel_rfl)
theorem laid_shaped (os : Os) (args : Array Value) : ((World.laidAll Tryz.prog os LD).forCall (fun _ _ => 0) ⟨#[], args, []⟩).Shaped Tryz.prog :=
  World.shaped_of_ZipB (by kernel_rfl) (by kernel_rfl)
theorem var_below {w w' : World} {n : String} {g B : Nat} {cs : Array Value} (h : w.var? Tryz.prog n = some cs) (hg : Tryz.prog.globalNamed n = some g) (hb : Below B w w') (hlt : g < B) : w'.var? Tryz.prog n = some cs := by
  unfold World.var? at h ⊢
  rw [hg] at h ⊢
  simp only [Option.bind_some] at h ⊢
  rw [hb.block g hlt]
  exact h
theorem var_lt {w : World} {n : String} {g : Nat} {cs : Array Value} (h : w.var? Tryz.prog n = some cs) (hg : Tryz.prog.globalNamed n = some g) : g < w.heap.size := by
  apply Classical.byContradiction
  intro hn
  unfold World.var? at h
  rw [hg] at h
  simp only [Option.bind_some] at h
  rw [Array.getElem?_eq_none (by omega)] at h
  simp at h
theorem gTType : (Tryz.prog.globals[8]?).map (·.type) = some 185 := by kernel_rfl
theorem under_T : Tryz.prog.underlying 185 = some (.array 696 184) := by kernel_rfl
theorem cells_pm : Tryz.prog.cellsOf 184 = 2 := by kernel_rfl
theorem cells_T : Tryz.prog.cellsOf 185 = 1392 := by kernel_rfl
theorem under_pm : (Tryz.prog.underlying 184).map (fun x => match x with | .struct fs => fs.toList.map (fun f => (f.type, f.offset)) | _ => []) = some [(22, 0), (22, 1)] := by kernel_rfl
theorem tabs_of_head {W : World} {d : DataW Unit} {r : List (String × DataW Unit)} (h : laidMet Tryz.prog (("internal/strconv.pow10Tab", d) :: r) W) :
    8 < W.heap.size ∧ ∀ i : Nat, i < 696 → ∃ h l : Int, 0 ≤ h ∧ h < 18446744073709551616 ∧ 0 ≤ l ∧ l < 18446744073709551616 ∧ W.cell? ⟨8, i * 2, none⟩ = some (.int .u64 h) ∧ W.cell? ⟨8, i * 2 + 1, none⟩ = some (.int .u64 l) := by
  obtain ⟨ps, ⟨g, t, cs, fuel, p, q, hg, hty, hvar, hd, _, _⟩, _⟩ := h
  obtain rfl := Option.some.inj (gT.symm.trans hg)
  obtain rfl := Option.some.inj (gTType.symm.trans hty)
  refine ⟨var_lt hvar gT, fun i hi => ?_⟩
  obtain ⟨xs, m, _, _, hlen, hxl, hel⟩ := DataW.trod_array under_T hd
  rw [cells_T] at hlen
  have h1 := hel i hi
  rw [cells_pm, List.getElem?_eq_getElem (by omega)] at h1
  cases hu : Tryz.prog.underlying 184 with
  | none => have := under_pm; rw [hu] at this; simp at this
  | some u =>
    have hp := under_pm
    rw [hu] at hp
    simp only [Option.map_some, Option.some.injEq] at hp
    cases u with
    | struct fs =>
      simp only at hp
      obtain ⟨ys, n, _, _, _, hyl, hf⟩ := DataW.trod_struct hu h1
      have hl2 : fs.toList.length = 2 := by have := congrArg List.length hp; simpa using this
      match hfs : fs.toList, hl2 with
      | [f0, f1], _ =>
        rw [hfs] at hp
        simp only [List.map_cons, List.map_nil, List.cons.injEq, Prod.mk.injEq, and_true] at hp
        obtain ⟨⟨t0, o0⟩, t1, o1⟩ := hp
        have e0 : fs[0]? = some f0 := by rw [← Array.getElem?_toList, hfs]; rfl
        have e1 : fs[1]? = some f1 := by rw [← Array.getElem?_toList, hfs]; rfl
        have g0 := hf 0 f0 e0
        have g1 := hf 1 f1 e1
        have hy : ys.length = 2 := by rw [hyl, ← Array.length_toList, hfs]; rfl
        rw [t0, o0, cells_e, List.getElem?_eq_getElem (by omega)] at g0
        rw [t1, o1, cells_e, List.getElem?_eq_getElem (by omega)] at g1
        obtain ⟨z0, q0, _, w0⟩ := DataW.trod_int under_e g0
        obtain ⟨z1, q1, _, w1⟩ := DataW.trod_int under_e g1
        have c0 : cs[i * 2]? = some (.int .u64 z0) := by
          have := congrArg (·[0]?) q0
          simpa [List.getElem?_take, List.getElem?_drop] using this
        have c1 : cs[i * 2 + 1]? = some (.int .u64 z1) := by
          have := congrArg (·[0]?) q1
          simpa [List.getElem?_take, List.getElem?_drop] using this
        have b0 := Go.bounds_u64 w0
        have b1 := Go.bounds_u64 w1
        exact ⟨z0, z1, by omega, by omega, by omega, by omega, (World.var?_cell gT hvar _).trans c0, (World.var?_cell gT hvar _).trans c1⟩
    | _ => simp at hp
theorem tb_of_laid {W : World} (h : laidMetH Tryz.prog LD W) : Tb W := by
  rw [MakeChecks.laidMetH_plain _ _ _ (by kernel_rfl)] at h
  have h2 : laidMet Tryz.prog (("internal/strconv.uint64pow10", Lib.tabData .u64 Lib.pow10Tab) :: [("strconv.ErrRange", Rows.laid_strconv_ErrRange), ("strconv.ErrSyntax", Rows.laid_strconv_ErrSyntax), ("internal/strconv.leftcheats", Rows.laid_internal_strconv_leftcheats), ("internal/strconv.pow10Tab", Rows.laid_internal_strconv_pow10Tab)]) W := laidMet.tail (laidMet.tail (laidMet.tail h))
  have h3 := Lib.tabIs_of_head gP gPType under_P under_e cells_e cells_P h2
  have h4 := laidMet.tail (laidMet.tail (laidMet.tail (laidMet.tail h2)))
  obtain ⟨h5, h6⟩ := tabs_of_head h4
  exact ⟨fun wi hb => var_below h3 gP hb (var_lt h3 gP), h6, h5⟩
/-- A call to begin with: the laid world. -/
theorem witness_laid {H : Type} {enc : TypeId × Value → H} {f : FuncId} {fn : Func} {s : ChangeSpec} {X : World → Array Value → Prop} (os : Os) (args : Array Value)
    (hok : Input.okWideB Tryz.prog ((World.laidAll Tryz.prog os LD).forCall (fun _ _ => 0) ⟨#[], args, []⟩) f ⟨#[], args, []⟩ = true)
    (hpre : s.preB enc Tryz.prog fn [] false ((World.laidAll Tryz.prog os LD).forCall (fun _ _ => 0) ⟨#[], args, []⟩).memory args 16 = true)
    (hsz : s.sizedB enc Tryz.prog fn false ((World.laidAll Tryz.prog os LD).forCall (fun _ _ => 0) ⟨#[], args, []⟩).memory args 16 = true)
    (hx : X ((World.laidAll Tryz.prog os LD).forCall (fun _ _ => 0) ⟨#[], args, []⟩).memory args) :
    ∃ (w : World) (tape : Tape) (i : Input), w.os = os ∧ (w.forCall tape i).Shaped Tryz.checked.prog ∧ i.vars = [] ∧ Input.okWide Tryz.checked.prog (w.forCall tape i) .any w.heap.size f i ∧
      ((s.pre enc Tryz.checked.prog fn [] false (w.forCall tape i).memory i.args ∧ X (w.forCall tape i).memory i.args) ∧ sizedMet enc Tryz.checked.prog fn (OpenSpec.ofChange s) false (w.forCall tape i).memory i.args) ∧ ({ modest := false } : Assume).holds Tryz.checked.prog (lone (Frame.enter Tryz.checked.prog f i.args .normal) [] (w.forCall tape i)) :=
  ⟨World.laidAll Tryz.prog os LD, fun _ _ => 0, ⟨#[], args, []⟩, World.laidAll_os _ _ _, laid_shaped os _, (Input.okWide_of_okWideB (base := 0) hok).1, (Input.okWide_of_okWideB hok).2, ⟨⟨ChangeSpec.pre_of_preB hpre, hx⟩, sizedMet_of_sizedB hsz⟩, by
    simp only [Assume.holds]
    exact ⟨by simp, by simp, fun _ => Modest.zero, by simp, by simp⟩⟩
end Go.Proofs.YtkogipaaioibaaaGreatDoor

namespace Go.Proofs.YtkogipaaioibaaaGreatDoor
set_option linter.unusedVariables false
set_option linter.unusedSimpArgs false
open Go.RowKit Go.Proofs.YtkogipaaioibaaaGreatDoorW.PrintWords
theorem fits_any (x : RP) (A : Option Addr) (c : Nat) (w0 w : World) (hc : x.f4.length ≤ c) (hk : Kd.C kR w0 A x.f4.length x.f4) (hw : Below w0.heap.size w0 w) :
    Calls Tryz.prog 6 #[.agg #[.int .i64 x.f0, .int .i64 x.f1, .int .u64 x.f2, .string x.f3, .slice A x.f4.length c]] w fun e w' => ∃ r : Bool, e = .returned (.bool r) ∧ Below w.heap.size w w' := by
  obtain ⟨r, hr⟩ : ∃ r, PAll.laws_zzFits5.f x.f0 x.f1 x.f2 x.f3 x.f4 = some r := by
    unfold PAll.laws_zzFits5.f
    split
    · exact ⟨_, rfl⟩
    · split
      · exact ⟨_, rfl⟩
      · exact ⟨_, rfl⟩
  exact (PAll.laws_zzFits5.calls x.f0 x.f1 x.f2 x.f3 A c x.f4 r w (Kd.C_below hk hw) hc hr).mono fun e w' h => ⟨r, h⟩
theorem wire_kind {x : RP} {l : List Int} (h : wire x l) : 0 ≤ x.f0 ∧ x.f0 < 256 := by
  obtain ⟨k, i, f, s, kids⟩ := x
  rw [wire] at h
  show 0 ≤ k ∧ k < 256
  rcases h with ⟨h, _⟩ | ⟨h, _⟩ | ⟨h, _⟩ | ⟨h, _⟩
  · unfold lineK at h; omega
  · unfold blobK at h; omega
  · omega
  · unfold aggK at h; omega
theorem wire_size {x : RP} {t : ByteArray} (h : wire x (bytesOf t)) (hn : nodes x ≤ 60) : t.size ≤ 12600 := by
  have h1 := wire_len (nodes x) x (Nat.le_refl _) _ h
  rw [bytesOf_length] at h1
  omega
set_option maxHeartbeats 4000000 in
set_option maxRecDepth 100000 in
theorem FnRespPeek_walk (k i f : Int) (s : ByteArray) (kids : List RP) (A : Option Addr) (c : Nat) (w : World) (hc : kids.length ≤ c) (hk : Kd.C kR w A kids.length kids) (hwf : wfR ⟨k, i, f, s, kids⟩) (ht : Tb w) :
    Calls Tryz.prog 5 #[.agg #[.int .i64 k, .int .i64 i, .int .u64 f, .string s, .slice A kids.length c]] w fun e w' => e = .returned (.bool true) ∧ Below w.heap.size w w' := by
  have HZ := Lib.hid (fun W hw => fits_any ⟨k, i, f, s, kids⟩ A c w W hc hk hw)
  have HLT := Lib.hid (fun W hw => lettered_any ⟨k, i, f, s, kids⟩ A c w W hc hwf hk hw ht)
  unfold valR at HLT
  clear hc hk hwf ht
  go_enter Tryz.func5, Tryz.ntmps5
  go_wp2_with fail
  refine (HZ.out _ (below_alloc (Below.refl _ _) _)).mono ?_
  rintro e w1 ⟨r, rfl, hb1⟩
  have h1 : Below w.heap.size w w1 := (below_alloc (Below.refl _ _) _).trans (hb1.mono (by simp))
  have HB := Lib.hid h1
  have hbx : w1.heap[w.heap.size]? = _ := (hb1.block _ (by simp)).trans (heap_alloc_new w _)
  have HBX := Lib.hid hbx
  obtain ⟨b0, b1, b2, b3, b4⟩ := box5 hbx
  clear hb1 h1 hbx HZ
  cases r
  · go_wp2_with fail
    go_ret
    exact ⟨rfl, HB.out⟩
  go_wp2_with fail
  refine (HLT.out _ HB.out).mono ?_
  rintro e w2 ⟨t, b, rfl, hlt, hb2⟩
  have HB2 := Lib.hid (HB.out.trans (hb2.mono HB.out.size))
  have hbx := (hb2.block _ (blk_lt HBX.out)).trans HBX.out
  obtain ⟨d0, d1, d2, d3, d4⟩ := box5 hbx
  have HLR := Lib.hid hlt
  clear hlt hb2 hbx HLT b0 b1 b2 b3 b4
  cases b
  · go_wp2_with fail
    go_ret
    exact ⟨rfl, HB2.out⟩
  by_cases h124 : k = 124
  · go_wp2_with fail
    go_ret
    exact ⟨rfl, HB2.out⟩
  obtain ⟨hwi, hno, hsh⟩ := HLR.out (by trivial)
  obtain ⟨r, hr⟩ := wire_head hwi
  have hkr := wire_kind hwi
  have HPK := Lib.hid (fun W => peekKind_any t k r hr (beq_eq_false_iff_ne.2 h124) hkr.1 hkr.2 (by have := wire_size hwi hno; omega) W)
  have HAL := Lib.hid (fun W => alive_any W)
  clear hwi hno hsh hr hkr
  go_wp2_with fail
  refine (HPK.out _).mono ?_
  rintro e w3 ⟨rfl, hb3⟩
  have HB3 := Lib.hid (HB2.out.trans (hb3.mono HB2.out.size))
  have hc0 := pw_cell_below hb3 d0
  clear hb3 d0 d1 d2 d3 d4 HPK
  go_wp2_with fail
  refine (HAL.out _).mono ?_
  rintro e w4 ⟨rfl, hb4⟩
  have HB4 := Lib.hid (HB3.out.trans (hb4.mono HB3.out.size))
  clear hb4
  go_wp2_with fail
  go_ret
  exact ⟨rfl, HB4.out⟩
end Go.Proofs.YtkogipaaioibaaaGreatDoor
