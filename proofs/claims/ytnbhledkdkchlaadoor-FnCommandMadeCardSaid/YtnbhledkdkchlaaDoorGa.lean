/- FnCommandMade: what it speaks of. (seat r2.D) FnCommandMade: commands in memory. (seat r2.D) FnCommandMade: the makers of commands. (seat r2.D) -/
import Derived.Test.YtnbhledkdkchlaaDoorCore
import Derived.Test.YtnbhledkdkchlaaDoorPspecdecimal
import Derived.Lib.ItoaNum
import Derived.Deep.LoopGhost
import Derived.Lib.BufferWrite
import Derived.Test.YtnbhledkdkchlaaDoorShelf
import Derived.Laws.OwnMore
import Derived.Lib.SmallJoins
import Derived.Deep.WholeRow
namespace Go.Proofs.YtnbhledkdkchlaaDoor
set_option linter.unusedVariables false
set_option linter.unusedSimpArgs false
open Go.RowKit Go.Proofs.YtnbhledkdkchlaaDoorW.PrintWords

/-- A number's decimal digits. -/
def dec (n : Nat) : ByteArray := ⟨(Lib.decDigits n).toArray⟩
theorem dec_lt {n : Nat} (h : n < 10) : Lib.decDigits n = [UInt8.ofNat (48 + n)] := by rw [Lib.decDigits, dif_pos h]
theorem dec_ge {n : Nat} (h : ¬ n < 10) : Lib.decDigits n = Lib.decDigits (n / 10) ++ [UInt8.ofNat (48 + n % 10)] := by rw [Lib.decDigits, dif_neg h]
theorem dec_len : ∀ (d n : Nat), n < 10 ^ (d + 1) → (Lib.decDigits n).length ≤ d + 1 := by
  intro d
  induction d with
  | zero => intro n h; rw [dec_lt (by simpa using h)]; simp
  | succ d ih =>
    intro n h
    by_cases h1 : n < 10
    · rw [dec_lt h1]; simp
    · rw [dec_ge h1, List.length_append]
      have := ih (n / 10) (by rw [Nat.div_lt_iff_lt_mul (by omega)]; rw [Nat.pow_succ] at h; omega)
      simp
      omega
theorem dec_size (n : Nat) (h : n < 18446744073709551616) : (dec n).size ≤ 20 := dec_len 19 n (Nat.lt_of_lt_of_le h (by decide))
theorem dig_str : ∀ n : Fin 10, strOfNums [(48 + (n.val : Int)) % 256] = ⟨#[UInt8.ofNat (48 + n.val)]⟩ := by decide +kernel
theorem u64_self {n : Int} (h0 : 0 ≤ n) (h1 : n < 18446744073709551616) : IntKind.u64.wrap n = n := by rw [IntKind.wrap_u64]; omega
theorem ba_append (a b : List UInt8) : (⟨a.toArray⟩ : ByteArray) ++ ⟨b.toArray⟩ = ⟨(a ++ b).toArray⟩ := by
  apply ByteArray.ext
  rw [ByteArray.data_append]
  simp
theorem decOf_f : ∀ (n : Nat), n < 18446744073709551616 → ∀ k, n + 1 ≤ k → PAll.spec_decimalOf.f k (n : Int) = some (dec n) := by
  intro n
  induction n using Nat.strongRecOn with
  | _ n ih =>
    intro hn k hk
    obtain ⟨k, rfl⟩ : ∃ k', k = k' + 1 := ⟨k - 1, by omega⟩
    simp only [PAll.spec_decimalOf.f]
    by_cases h : n < 10
    · rw [if_pos (by omega), u64_self (by omega) (by omega), dig_str ⟨n, h⟩]
      unfold dec
      rw [dec_lt h]
    · have e1 : Int.tdiv (n : Int) 10 = ((n / 10 : Nat) : Int) := by rw [Int.tdiv_eq_ediv_of_nonneg (by omega)]; omega
      have e2 : Int.tmod (n : Int) 10 = ((n % 10 : Nat) : Int) := by rw [Int.tmod_eq_emod_of_nonneg (by omega)]; omega
      have hz := dec_size (n / 10) (by omega)
      have hz2 : (strOfNums [(48 + ((n % 10 : Nat) : Int)) % 256]).size = 1 := by rw [dig_str ⟨n % 10, by omega⟩]; rfl
      rw [if_neg (by omega), e1, e2, u64_self (by omega) (by omega), ih (n / 10) (by omega) (by omega) k (by omega), u64_self (by omega) (by omega)]
      simp only [Option.bind_some]
      rw [if_pos (by rw [hz2]; omega), dig_str ⟨n % 10, by omega⟩]
      unfold dec
      rw [dec_ge h]
      exact congrArg some (ba_append _ [_])
theorem dec_f (n : Nat) (hn : n < 9223372036854775808) : PAll.spec_decimal.f (n + 1) (n : Int) = some (dec n) := by
  unfold PAll.spec_decimal.f
  rw [if_neg (by omega), u64_self (by omega) (by omega), decOf_f n (by omega) _ (Nat.le_refl _)]
  rfl
theorem decimal_any (n : Nat) (hn : n < 9223372036854775808) (w : World) : Calls Tryd.prog 10 #[.int .i64 (n : Int)] w fun e w' => e = .returned (.string (dec n)) ∧ Below w.heap.size w w' :=
  PAll.spec_decimal.calls (n + 1) n (dec n) w (dec_f n hn)

/-- A list's text at a place, or none. -/
def tx (l : List ByteArray) (i : Nat) : ByteArray := l.getD i ⟨#[]⟩
theorem tx_at {l : List ByteArray} {i : Nat} (h : i < l.length) : l[i]? = some (tx l i) := by unfold tx; rw [List.getD_eq_getElem?_getD, List.getElem?_eq_getElem h]; rfl
theorem tx_no {l : List ByteArray} {i : Nat} (h : ¬ i < l.length) : tx l i = ⟨#[]⟩ := by unfold tx; rw [List.getD_eq_getElem?_getD, List.getElem?_eq_none (by omega)]; rfl
theorem at_enc {α : Type} {enc : α → Value} {h1 : ∀ x, (enc x).oneCell' = true} {w : World} {A : Option Addr} {xs : List α} (h : (Kd.scalar enc h1).C w A xs.length xs) {j : Nat} {x : α} (hx : xs[j]? = some x) : ∃ ad, A = some ad ∧ w.cell? (ad.add j) = some (enc x) := by
  have hj := (List.getElem?_eq_some_iff.1 hx).1
  obtain ⟨ad, e, hc⟩ := ReadsOf.at_ (Kd.reads_of_C (enc := enc) (d := x) (h1 := h1) h) (j : Int) (by omega) (by omega)
  refine ⟨ad, e, ?_⟩
  have e2 : rdOf x xs (j : Int) = x := by unfold rdOf; rw [Int.toNat_natCast, List.getD_eq_getElem?_getD, hx]; rfl
  rw [e2] at hc
  simpa using hc
set_option maxRecDepth 100000 in
theorem txt9_any (i b : Nat) (A : Option Addr) (c : Nat) (l : List ByteArray) (w : World) (hi : i ≤ 3) (hb : w.heap[b]? = some (.cells #[.slice A l.length c] 22 (0, 0))) (hC : Kd.C Kd.string w A l.length l) (hl : l.length ≤ 4) :
    Calls Tryd.prog 9 #[.int .i64 i, .pointer (some ⟨b, 0, none⟩)] w fun e w' => e = .returned (.string (tx l i)) ∧ w' = w := by
  have c0 : w.cell? ⟨b, 0, none⟩ = some (.slice A l.length c) := blk_cell hb 0
  by_cases h : i < l.length
  · obtain ⟨ad, hA, hcx⟩ := at_enc hC (tx_at h)
    subst hA
    generalize tx l i = T at *
    clear hC
    go_enter Tryd.func9, Tryd.ntmps9
    go_wp2_with fail
    go_ret
    exact ⟨rfl, rfl⟩
  · rw [tx_no h]
    clear hC
    go_enter Tryd.func9, Tryd.ntmps9
    go_wp2_with fail
    go_ret
    exact ⟨rfl, rfl⟩
set_option maxRecDepth 100000 in
theorem txt13_any (i b : Nat) (A : Option Addr) (c : Nat) (l : List ByteArray) (w : World) (hi : i ≤ 3) (hb : w.heap[b]? = some (.cells #[.slice A l.length c] 22 (0, 0))) (hC : Kd.C Kd.string w A l.length l) (hl : l.length ≤ 4) :
    Calls Tryd.prog 13 #[.int .i64 i, .pointer (some ⟨b, 0, none⟩)] w fun e w' => e = .returned (.string (tx l i)) ∧ w' = w := by
  have c0 : w.cell? ⟨b, 0, none⟩ = some (.slice A l.length c) := blk_cell hb 0
  by_cases h : i < l.length
  · obtain ⟨ad, hA, hcx⟩ := at_enc hC (tx_at h)
    subst hA
    generalize tx l i = T at *
    clear hC
    go_enter Tryd.func13, Tryd.ntmps13
    go_wp2_with fail
    go_ret
    exact ⟨rfl, rfl⟩
  · rw [tx_no h]
    clear hC
    go_enter Tryd.func13, Tryd.ntmps13
    go_wp2_with fail
    go_ret
    exact ⟨rfl, rfl⟩
end Go.Proofs.YtnbhledkdkchlaaDoor

namespace Go.Proofs.YtnbhledkdkchlaaDoor
set_option linter.unusedVariables false
set_option linter.unusedSimpArgs false
open Go.RowKit Go.Proofs.YtnbhledkdkchlaaDoorW.PrintWords

/-- A row of bytes that reads as a text. -/
def TA (w : World) (b : Nat) (s : ByteArray) : Prop := ReadsInt w .u8 (some ⟨b, 0, none⟩) s.size (bytesOf s) ∧ b < w.heap.size
theorem TA.below {w w' : World} {b : Nat} {s : ByteArray} (h : TA w b s) (hb : Below w.heap.size w w') : TA w' b s :=
  ⟨reads_keep h.1 (fun ad he hl => by injection he with he; subst he; exact hb.block _ h.2), Nat.lt_of_lt_of_le h.2 hb.size⟩
theorem TA.new (w : World) (s : ByteArray) (hs : s.size ≤ 9223372036854775807) : TA (Lib.bytesWorld w 5 s) w.heap.size s := ⟨bytes_reads w 5 s hs, by rw [Lib.bytesWorld_size]; omega⟩
/-- What a literal's cells are. -/
def litC (s : ByteArray) : Array Value := (Lib.byteCells s.data.toList).toArray
theorem TA.lit (w : World) (s : ByteArray) (fr : Nat × Nat) (t : Nat) (hs : s.size ≤ 1000000) : TA (w.alloc (.cells (litC s) t fr)) w.heap.size s := by
  refine ⟨⟨bytesOf_length s, by omega, fun _ => ⟨_, rfl, fun j hj => ?_⟩⟩, by rw [World.size_alloc]; omega⟩
  have hb := heap_alloc_new w (.cells (litC s) t fr)
  have hj' : j < s.data.toList.length := hj
  have h1 : (litC s)[j]? = some (.int .u8 ((s.data.toList[j]).toNat : Int)) := by
    unfold litC Lib.byteCells
    rw [List.getElem?_toArray, List.getElem?_map, List.getElem?_eq_getElem hj']
    rfl
  rw [add_plain]
  refine (cell_of_row _ _ j _ _ _ hb).trans ?_
  rw [h1]
  congr 2
  unfold bytesOf
  rw [List.getD_eq_getElem?_getD, List.getElem?_map, List.getElem?_eq_getElem hj']
  rfl
theorem litC_16 (s : ByteArray) (hs : s.size = 16) : ∃ a0 a1 a2 a3 a4 a5 a6 a7 a8 a9 a10 a11 a12 a13 a14 a15 : Int, litC s = #[.int .u8 a0, .int .u8 a1, .int .u8 a2, .int .u8 a3, .int .u8 a4, .int .u8 a5, .int .u8 a6, .int .u8 a7, .int .u8 a8, .int .u8 a9, .int .u8 a10, .int .u8 a11, .int .u8 a12, .int .u8 a13, .int .u8 a14, .int .u8 a15] := by
  have hl : s.data.toList.length = 16 := hs
  unfold litC
  match s.data.toList, hl with
  | [b0, b1, b2, b3, b4, b5, b6, b7, b8, b9, b10, b11, b12, b13, b14, b15], _ => exact ⟨_, _, _, _, _, _, _, _, _, _, _, _, _, _, _, _, rfl⟩
/-- A command in memory, as its readers see it. -/
def CR (w : World) (cp : Nat) (name : ByteArray) (ps : List ByteArray) (body : Option ByteArray) : Prop :=
  ∃ nb nc Ap cc vb, w.heap[cp]? = some (.cells #[.slice (some ⟨nb, 0, none⟩) name.size nc, .slice Ap ps.length cc, vb] 70 (0, 0)) ∧ TA w nb name ∧
    (∀ (j : Nat) s, ps[j]? = some s → ∃ pb sb sc, Ap = some ⟨pb, 0, none⟩ ∧ pb < w.heap.size ∧ w.cell? ⟨pb, j, none⟩ = some (.slice (some ⟨sb, 0, none⟩) s.size sc) ∧ TA w sb s) ∧
    match body with
    | none => vb = .slice none 0 0
    | some s => ∃ bb bc, vb = .slice (some ⟨bb, 0, none⟩) s.size bc ∧ TA w bb s
/-- What a maker of commands answers. -/
def MkC (w : World) (name : ByteArray) (ps : List ByteArray) (body : Option ByteArray) (e : Ending) (w' : World) : Prop :=
  ∃ cp, e = .returned (.pointer (some ⟨cp, 0, none⟩)) ∧ Below w.heap.size w w' ∧ CR w' cp name ps body
/-- No parameters, or some that lie in a row of one block. -/
def PsAt (w : World) (Ap : Option Addr) (ps : List ByteArray) : Prop :=
  ∀ (j : Nat) s, ps[j]? = some s → ∃ pb sb sc, Ap = some ⟨pb, 0, none⟩ ∧ pb < w.heap.size ∧ w.cell? ⟨pb, j, none⟩ = some (.slice (some ⟨sb, 0, none⟩) s.size sc) ∧ TA w sb s
theorem PsAt.below {w w' : World} {Ap : Option Addr} {ps : List ByteArray} (h : PsAt w Ap ps) (hb : Below w.heap.size w w') : PsAt w' Ap ps := fun j s hj => by
  obtain ⟨pb, sb, sc, h1, h2, h3, h4⟩ := h j s hj
  exact ⟨pb, sb, sc, h1, Nat.lt_of_lt_of_le h2 hb.size, pw_cell_below hb h3, h4.below hb⟩
theorem PsAt.nil (w : World) (Ap : Option Addr) : PsAt w Ap [] := fun j s h => by simp at h
theorem PsAt.one {w : World} {pb sb sc t : Nat} {s : ByteArray} (hb : w.heap[pb]? = some (.cells #[.slice (some ⟨sb, 0, none⟩) s.size sc] t (0, 0))) (h : TA w sb s) : PsAt w (some ⟨pb, 0, none⟩) [s] := fun j x hj => by
  cases j with
  | zero => simp at hj; subst hj; exact ⟨pb, sb, sc, rfl, blk_lt hb, blk_cell hb 0, h⟩
  | succ j => simp at hj
theorem PsAt.two {w : World} {pb sb sc sb2 sc2 t : Nat} {s s2 : ByteArray} (hb : w.heap[pb]? = some (.cells #[.slice (some ⟨sb, 0, none⟩) s.size sc, .slice (some ⟨sb2, 0, none⟩) s2.size sc2] t (0, 0))) (h : TA w sb s) (h2 : TA w sb2 s2) : PsAt w (some ⟨pb, 0, none⟩) [s, s2] := fun j x hj => by
  match j, hj with
  | 0, hj => simp at hj; subst hj; exact ⟨pb, sb, sc, rfl, blk_lt hb, blk_cell hb 0, h⟩
  | 1, hj => simp at hj; subst hj; exact ⟨pb, sb2, sc2, rfl, blk_lt hb, blk_cell hb 1, h2⟩
  | j + 2, hj => simp at hj
theorem PsAt.oneL {w : World} {pb sb n sc t : Nat} {s : ByteArray} (hb : w.heap[pb]? = some (.cells #[.slice (some ⟨sb, 0, none⟩) n sc] t (0, 0))) (h : TA w sb s) (hn : n = s.size) : PsAt w (some ⟨pb, 0, none⟩) [s] := by
  subst hn
  exact PsAt.one hb h
theorem PsAt.twoL {w : World} {pb sb n sc sb2 n2 sc2 t : Nat} {s s2 : ByteArray} (hb : w.heap[pb]? = some (.cells #[.slice (some ⟨sb, 0, none⟩) n sc, .slice (some ⟨sb2, 0, none⟩) n2 sc2] t (0, 0))) (h : TA w sb s) (h2 : TA w sb2 s2) (hn : n = s.size) (hn2 : n2 = s2.size) : PsAt w (some ⟨pb, 0, none⟩) [s, s2] := by
  subst hn
  subst hn2
  exact PsAt.two hb h h2
theorem alloc_new_at {w : World} {o : Obj} {n : Nat} (hn : n = w.heap.size) : (w.alloc o).heap[n]? = some o := by subst hn; exact heap_alloc_new w o
theorem nat_i64 (q : Nat) (h : q < 9223372036854775808) : IntKind.i64.wrap (q : Int) = q ∧ wrap64 (q : Int) = q := by
  have h0 : (0 : Int) ≤ q := by omega
  have h1 : (q : Int) ≤ 9223372036854775807 := by omega
  generalize (q : Int) = z at *
  exact ⟨by rw [IntKind.wrap_i64]; omega, by unfold wrap64; omega⟩
/-- The command's box is laid. -/
theorem CR.mk {w : World} {nb nc n m cc : Nat} {Ap : Option Addr} {vb : Value} {name : ByteArray} {ps : List ByteArray} {body : Option ByteArray} (hn : TA w nb name) (hnz : n = name.size) (hm : m = ps.length) (hp : PsAt w Ap ps)
    (hbd : match body with
    | none => vb = .slice none 0 0
    | some s => ∃ bb bc, vb = .slice (some ⟨bb, 0, none⟩) s.size bc ∧ TA w bb s) :
    CR (w.alloc (.cells #[.slice (some ⟨nb, 0, none⟩) n nc, .slice Ap m cc, vb] 70)) w.heap.size name ps body := by
  subst hnz
  subst hm
  have hb : Below w.heap.size w (w.alloc (.cells #[.slice (some ⟨nb, 0, none⟩) name.size nc, .slice Ap ps.length cc, vb] 70)) := below_alloc (Below.refl _ _) _
  refine ⟨nb, nc, Ap, cc, vb, heap_alloc_new w _, hn.below hb, hp.below hb, ?_⟩
  cases body with
  | none => exact hbd
  | some s => obtain ⟨bb, bc, e, h⟩ := hbd; exact ⟨bb, bc, e, h.below hb⟩
theorem CR.below {w w' : World} {cp : Nat} {name : ByteArray} {ps : List ByteArray} {body : Option ByteArray} (h : CR w cp name ps body) (hb : Below w.heap.size w w') : CR w' cp name ps body := by
  obtain ⟨nb, nc, Ap, cc, vb, h1, h2, h3, h4⟩ := h
  refine ⟨nb, nc, Ap, cc, vb, blk_below h1 hb, h2.below hb, PsAt.below h3 hb, ?_⟩
  cases body with
  | none => exact h4
  | some s => obtain ⟨bb, bc, e, h⟩ := h4; exact ⟨bb, bc, e, h.below hb⟩

/-- The literal name and the command's box are laid behind what the parameters are. -/
theorem MkC.lit {w P : World} {cp nb n nc m cc : Nat} {Ap : Option Addr} {vb : Value} {C : Array Value} {fr : Nat × Nat} {name : ByteArray} {ps : List ByteArray} {body : Option ByteArray} (hb : Below w.heap.size w P) (hcp : cp = P.heap.size + 1) (hnb : nb = P.heap.size)
    (hC : C = litC name) (hn : n = name.size) (hnz : name.size ≤ 1000000) (hm : m = ps.length) (hp : PsAt P Ap ps)
    (hbd : match body with
    | none => vb = .slice none 0 0
    | some s => ∃ bb bc, vb = .slice (some ⟨bb, 0, none⟩) s.size bc ∧ TA P bb s) :
    MkC w name ps body (.returned (.pointer (some ⟨cp, 0, none⟩))) ((P.alloc (.cells C 5 fr)).alloc (.cells #[.slice (some ⟨nb, 0, none⟩) n nc, .slice Ap m cc, vb] 70)) := by
  subst hcp
  subst hnb
  subst hC
  have hb2 : Below P.heap.size P (P.alloc (.cells (litC name) 5 fr)) := below_alloc (Below.refl _ _) _
  have hz : (P.alloc (.cells (litC name) 5 fr)).heap.size = P.heap.size + 1 := by rw [World.size_alloc]
  refine ⟨P.heap.size + 1, rfl, below_alloc (below_alloc hb _) _, ?_⟩
  have h := CR.mk (w := P.alloc (.cells (litC name) 5 fr)) (nc := nc) (cc := cc) (vb := vb) (body := body) (TA.lit P name fr 5 hnz) hn hm (hp.below hb2) (by
    cases body with
    | none => exact hbd
    | some s => obtain ⟨bb, bc, e, h⟩ := hbd; exact ⟨bb, bc, e, h.below hb2⟩)
  rw [hz] at h
  exact h
theorem TA.grown {w w' : World} {b : Nat} {s : ByteArray} {row : Option Nat} (h : TA w b s) (hg : w.grownBy w' row) (hne : some b ≠ row) : TA w' b s :=
  ⟨reads_keep h.1 (fun ad he hl => by injection he with he; subst he; exact hg.block _ h.2 hne), Nat.lt_of_lt_of_le h.2 hg.size⟩
/-- Slices of bytes, by block and capacity. -/
def ksl : Kd (Nat × Nat × Nat) := Kd.scalar (fun p => .slice (some ⟨p.1, 0, none⟩) p.2.1 p.2.2) (fun _ => rfl)
theorem info42 : (Tryd.prog.info? 42).map (fun i => (i.zero, i.size, i.bytes)) = some (some (.slice none 0 0), 1, 24) := by kernel_rfl
theorem ksl_one (W : World) (base p n c : Nat) (hb : base ≤ W.heap.size) : ksl.R 42 (W.alloc (.cells #[.slice (some ⟨p, 0, none⟩) n c] 42)) base (fun q => base ≤ q) (.slice (some ⟨W.heap.size, 0, none⟩) 1 1) [(p, n, c)] := by
  refine Kd.R_of_own (World.ownsRow_lit (base := base) (e := 42) (size := 1) W #[.slice (some ⟨p, 0, none⟩) n c] 1 hb (by decide) rfl) ?_
  intro k hk
  have h : W.heap.size = k := by simpa [Value.ownBlock] using hk
  show base ≤ k
  omega
theorem ksl_at {e base : Nat} {ok : Nat → Prop} {w : World} {v : Value} {ps : List (Nat × Nat × Nat)} (h : ksl.R e w base ok v ps) {ls : List ByteArray} (hl : ps.length = ls.length) (h0 : 0 < ps.length)
    (hel : ∀ (j : Nat) p s, ps[j]? = some p → ls[j]? = some s → p.2.1 = s.size ∧ TA w p.1 s) : ∃ g c, v = .slice (some ⟨g, 0, none⟩) ls.length c ∧ PsAt w (some ⟨g, 0, none⟩) ls := by
  obtain ⟨g, c, hv, h1, h2, _, _⟩ := Kd.R_form h h0
  subst hv
  obtain ⟨hn, hnc, hC⟩ := Kd.R_reads' h
  refine ⟨g, c, by rw [hl], fun j s hj => ?_⟩
  have hj2 : j < ps.length := by rw [hl]; exact (List.getElem?_eq_some_iff.1 hj).1
  have hp := List.getElem?_eq_getElem hj2
  obtain ⟨ad, hA, hc⟩ := at_enc hC hp
  injection hA with hA
  subst hA
  obtain ⟨e1, e2⟩ := hel j _ s hp hj
  rw [add_plain] at hc
  rw [e1] at hc
  exact ⟨g, ps[j].1, ps[j].2.2, rfl, h2, hc, e2⟩

/-- The library's table of powers of ten, here and in every world behind. -/
def Tb (w : World) : Prop := ∀ wi, Below w.heap.size w wi → Lib.TabIs Tryd.prog wi "internal/strconv.uint64pow10" .u64 Lib.pow10Tab
theorem Tb.below {w w' : World} (h : Tb w) (hb : Below w.heap.size w w') : Tb w' := fun wi h2 => h wi (hb.trans (h2.mono hb.size))
theorem below_grow {B : Nat} {w w1 : World} (h : Below B w w1) (hB : B ≤ w1.heap.size) (os : Array Obj) : Below B w (Sort.grow w1 os) :=
  h.trans ⟨rfl, rfl, rfl, by unfold Sort.grow; simp, fun i hi => by unfold Sort.grow; rw [Array.getElem?_append_left (by omega)]⟩
theorem itoa_any (n : Nat) (hn : n < 9223372036854775808) (w : World) (ht : Tb w) : Calls Tryd.prog 33 #[.int .i64 (n : Int)] w fun e w' => e = .returned (.string (dec n)) ∧ Below w.heap.size w w' := by
  refine (Tryd.strconv_Itoa n (by omega) (by omega) w (ht w (Below.refl _ _))).mono ?_
  rintro e w' ⟨rfl, k, os, rfl⟩
  refine ⟨?_, below_grow (pw_below_drewN (Below.refl _ _) k) (Nat.le_refl _) os⟩
  unfold dec Lib.itoa
  rw [if_neg (by omega), Int.toNat_natCast]
end Go.Proofs.YtnbhledkdkchlaaDoor

namespace Go.Proofs.YtnbhledkdkchlaaDoor
set_option linter.unusedVariables false
set_option linter.unusedSimpArgs false
open Go.RowKit Go.Proofs.YtnbhledkdkchlaaDoorW.PrintWords

set_option maxHeartbeats 4000000 in
set_option maxRecDepth 100000 in
theorem ping_any  (w : World)  :
    Calls Tryd.prog 16 #[] w fun e w' => MkC w ⟨#[80, 73, 78, 71]⟩ [] none e w' := by
  have hbs := fun w s => print_bytes (P := Tryd.prog) 9 42 5 Tryd.underlying9 Tryd.underlying42 Tryd.underlying5 s w
  have hcv := fun (w : World) (C : Array Value) (n c g : Nat) (hg : g = w.heap.size) => Joins.run_convert_bytes_const_at (P := Tryd.prog) w 42 5 C n c g hg Tryd.underlying42 Tryd.underlying5
  go_enter Tryd.func16, Tryd.ntmps16
  go_wp2_with fail
  go_ret
  exact MkC.lit (Below.refl _ _) (by simp) (by simp) rfl rfl (by decide) rfl (PsAt.nil _ _) rfl
set_option maxHeartbeats 4000000 in
set_option maxRecDepth 100000 in
theorem close_any  (w : World)  :
    Calls Tryd.prog 26 #[] w fun e w' => MkC w ⟨#[67, 76, 83]⟩ [] none e w' := by
  have hbs := fun w s => print_bytes (P := Tryd.prog) 9 42 5 Tryd.underlying9 Tryd.underlying42 Tryd.underlying5 s w
  have hcv := fun (w : World) (C : Array Value) (n c g : Nat) (hg : g = w.heap.size) => Joins.run_convert_bytes_const_at (P := Tryd.prog) w 42 5 C n c g hg Tryd.underlying42 Tryd.underlying5
  go_enter Tryd.func26, Tryd.ntmps26
  go_wp2_with fail
  go_ret
  exact MkC.lit (Below.refl _ _) (by simp) (by simp) rfl rfl (by decide) rfl (PsAt.nil _ _) rfl
set_option maxHeartbeats 4000000 in
set_option maxRecDepth 100000 in
theorem nop_any  (w : World)  :
    Calls Tryd.prog 27 #[] w fun e w' => MkC w ⟨#[78, 79, 80]⟩ [] none e w' := by
  have hbs := fun w s => print_bytes (P := Tryd.prog) 9 42 5 Tryd.underlying9 Tryd.underlying42 Tryd.underlying5 s w
  have hcv := fun (w : World) (C : Array Value) (n c g : Nat) (hg : g = w.heap.size) => Joins.run_convert_bytes_const_at (P := Tryd.prog) w 42 5 C n c g hg Tryd.underlying42 Tryd.underlying5
  go_enter Tryd.func27, Tryd.ntmps27
  go_wp2_with fail
  go_ret
  exact MkC.lit (Below.refl _ _) (by simp) (by simp) rfl rfl (by decide) rfl (PsAt.nil _ _) rfl
set_option maxHeartbeats 4000000 in
set_option maxRecDepth 100000 in
theorem publish_any (topic body : ByteArray) (bb bc : Nat) (w : World) (hz : topic.size ≤ 100) (hz2 : body.size ≤ 100) (hB : TA w bb body) :
    Calls Tryd.prog 17 #[.string topic, .slice (some ⟨bb, 0, none⟩) body.size bc] w fun e w' => MkC w ⟨#[80, 85, 66]⟩ [topic] (some body) e w' := by
  have hbs := fun w s => print_bytes (P := Tryd.prog) 9 42 5 Tryd.underlying9 Tryd.underlying42 Tryd.underlying5 s w
  have hcv := fun (w : World) (C : Array Value) (n c g : Nat) (hg : g = w.heap.size) => Joins.run_convert_bytes_const_at (P := Tryd.prog) w 42 5 C n c g hg Tryd.underlying42 Tryd.underlying5
  have HB := Aside0.mk hB
  clear hB
  go_enter Tryd.func17, Tryd.ntmps17
  go_wp2_with fail
  go_ret
  have hb1 : Below w.heap.size w (Lib.bytesWorld w 5 topic) := bytes_below (Below.refl _ _) (Nat.le_refl _) 5 topic
  have hb2 : Below w.heap.size w ((Lib.bytesWorld w 5 topic).alloc (.cells #[.slice (some ⟨w.heap.size, 0, none⟩) topic.size (grownCap w topic.size 0 5)] 42)) := below_alloc hb1 _
  exact MkC.lit hb2 (by simp) (by simp) rfl rfl (by decide) rfl (PsAt.one (heap_alloc_new _ _) ((TA.new w topic (by omega)).below (below_alloc (Below.refl _ _) _))) ⟨bb, bc, rfl, HB.out.below hb2⟩
set_option maxHeartbeats 4000000 in
set_option maxRecDepth 100000 in
theorem subscribe_any (topic channel : ByteArray) (w : World) (hz : topic.size ≤ 100) (hz2 : channel.size ≤ 100) :
    Calls Tryd.prog 20 #[.string topic, .string channel] w fun e w' => MkC w ⟨#[83, 85, 66]⟩ [topic, channel] none e w' := by
  have hbs := fun w s => print_bytes (P := Tryd.prog) 9 42 5 Tryd.underlying9 Tryd.underlying42 Tryd.underlying5 s w
  have hcv := fun (w : World) (C : Array Value) (n c g : Nat) (hg : g = w.heap.size) => Joins.run_convert_bytes_const_at (P := Tryd.prog) w 42 5 C n c g hg Tryd.underlying42 Tryd.underlying5
  go_enter Tryd.func20, Tryd.ntmps20
  go_wp2_with fail
  go_ret
  have hb1 : Below w.heap.size w (Lib.bytesWorld w 5 topic) := bytes_below (Below.refl _ _) (Nat.le_refl _) 5 topic
  have hb2 : Below (Lib.bytesWorld w 5 topic).heap.size (Lib.bytesWorld w 5 topic) (Lib.bytesWorld (Lib.bytesWorld w 5 topic) 5 channel) := bytes_below (Below.refl _ _) (Nat.le_refl _) 5 channel
  exact MkC.lit (below_alloc (hb1.trans (hb2.mono hb1.size)) _) (by simp) (by simp) rfl rfl (by decide) rfl (PsAt.two (heap_alloc_new _ _) ((TA.new w topic (by omega)).below (below_alloc hb2 _)) ((TA.new _ channel (by omega)).below (below_alloc (Below.refl _ _) _))) rfl
set_option maxHeartbeats 4000000 in
set_option maxRecDepth 100000 in
theorem ready_any (n : Nat) (w : World) (hn : n < 9223372036854775808) (ht : Tb w) :
    Calls Tryd.prog 21 #[.int .i64 (n : Int)] w fun e w' => MkC w ⟨#[82, 68, 89]⟩ [dec n] none e w' := by
  have hbs := fun w s => print_bytes (P := Tryd.prog) 9 42 5 Tryd.underlying9 Tryd.underlying42 Tryd.underlying5 s w
  have hcv := fun (w : World) (C : Array Value) (n c g : Nat) (hg : g = w.heap.size) => Joins.run_convert_bytes_const_at (P := Tryd.prog) w 42 5 C n c g hg Tryd.underlying42 Tryd.underlying5
  have HI := Aside0.mk (itoa_any n hn w ht)
  have hz := dec_size n (by omega)
  generalize dec n = T at *
  clear ht hn
  go_enter Tryd.func21, Tryd.ntmps21
  go_wp2_with fail
  refine HI.out.mono ?_
  rintro e w1 ⟨rfl, hb⟩
  have HB := Aside0.mk hb
  clear hb HI
  go_wp2_with fail
  go_ret
  have hb1 : Below w1.heap.size w1 (Lib.bytesWorld w1 5 T) := bytes_below (Below.refl _ _) (Nat.le_refl _) 5 T
  exact MkC.lit (below_alloc (HB.out.trans (hb1.mono HB.out.size)) _) (by simp) (by simp) rfl rfl (by decide) rfl (PsAt.one (heap_alloc_new _ _) ((TA.new w1 T (by omega)).below (below_alloc (Below.refl _ _) _))) rfl
set_option maxHeartbeats 4000000 in
set_option maxRecDepth 100000 in
theorem register_any (topic channel : ByteArray) (w : World) (hz : topic.size ≤ 100) (hz2 : channel.size ≤ 100) :
    Calls Tryd.prog 14 #[.string topic, .string channel] w fun e w' => MkC w ⟨#[82, 69, 71, 73, 83, 84, 69, 82]⟩ (if channel.size = 0 then [topic] else [topic, channel]) none e w' := by
  have hbs := fun w s => print_bytes (P := Tryd.prog) 9 42 5 Tryd.underlying9 Tryd.underlying42 Tryd.underlying5 s w
  have hcv := fun (w : World) (C : Array Value) (n c g : Nat) (hg : g = w.heap.size) => Joins.run_convert_bytes_const_at (P := Tryd.prog) w 42 5 C n c g hg Tryd.underlying42 Tryd.underlying5
  have hb1 : Below w.heap.size w (Lib.bytesWorld w 5 topic) := bytes_below (Below.refl _ _) (Nat.le_refl _) 5 topic
  have HB1 := Aside0.mk hb1
  clear hb1
  by_cases h0 : channel.size = 0
  · rw [if_pos h0]
    go_enter Tryd.func14, Tryd.ntmps14
    go_wp2_with fail
    go_ret
    exact MkC.lit (below_alloc HB1.out _) (by simp) (by simp) rfl rfl (by decide) rfl (PsAt.one (heap_alloc_new _ _) ((TA.new w topic (by omega)).below (below_alloc (Below.refl _ _) _))) rfl
  · rw [if_neg h0]
    have hpos : (0 : Int) < (channel.size : Int) := by omega
    obtain ⟨W2, hW2⟩ : ∃ W2, ((Lib.bytesWorld w 5 topic).alloc (.cells #[.slice (some ⟨w.heap.size, 0, none⟩) topic.size (grownCap w topic.size 0 5)] 42)) = W2 := ⟨_, rfl⟩
    have hr : ksl.R 42 W2 (Lib.bytesWorld w 5 topic).heap.size (fun q => (Lib.bytesWorld w 5 topic).heap.size ≤ q) (.slice (some ⟨(Lib.bytesWorld w 5 topic).heap.size, 0, none⟩) 1 1) [(w.heap.size, topic.size, grownCap w topic.size 0 5)] := by rw [← hW2]; exact ksl_one _ _ _ _ _ (Nat.le_refl _)
    have hz3 : (Lib.bytesWorld w 5 topic).heap.size + 1 = W2.heap.size := by rw [← hW2, World.size_alloc]
    have hz4 : (Lib.bytesWorld w 5 topic).heap.size = w.heap.size + 1 := Lib.bytesWorld_size _ _ _
    have hta : TA W2 w.heap.size topic := by rw [← hW2]; exact (TA.new w topic (by omega)).below (below_alloc (Below.refl _ _) _)
    have hbw : Below w.heap.size w W2 := by rw [← hW2]; exact below_alloc HB1.out _
    have hb3 : Below W2.heap.size W2 (Lib.bytesWorld W2 5 channel) := bytes_below (Below.refl _ _) (Nat.le_refl _) 5 channel
    have HR := Aside0.mk (Kd.R_below hr hb3)
    have HT := Aside0.mk (And.intro (hta.below hb3) (TA.new W2 channel (by omega)))
    have HBW := Aside0.mk (hbw.trans (hb3.mono hbw.size))
    have hsz : (Lib.bytesWorld w 5 topic).heap.size ≤ (Lib.bytesWorld W2 5 channel).heap.size := by rw [Lib.bytesWorld_size W2]; omega
    have HOK := Aside0.mk (fun (q : Nat) (hq : (Lib.bytesWorld W2 5 channel).heap.size ≤ q) => show (Lib.bytesWorld w 5 topic).heap.size ≤ q by omega)
    have HZ := Aside0.mk (And.intro hz3 hz4)
    have HW2 := Aside0.mk hW2
    clear hr hta hbw hb3 hz3 hz4 hW2
    go_enter Tryd.func14, Tryd.ntmps14
    go_upto_if 11 with (fail)
    rw [HW2.out]
    generalize hV : Value.slice (some ⟨(Lib.bytesWorld w 5 topic).heap.size, 0, none⟩) 1 1 = V
    obtain ⟨A1, n1, c1, rfl⟩ : ∃ A1 n1 c1, V = .slice A1 n1 c1 := ⟨_, _, _, hV.symm⟩
    have HRV := Aside0.mk HR.out
    rw [hV] at HRV
    have HNE := Aside0.mk (fun (q : Nat) (hq : q ≠ (Lib.bytesWorld w 5 topic).heap.size) => show some q ≠ (Value.slice A1 n1 c1).ownBlock by rw [← hV]; intro he; injection he with he; exact hq he)
    clear hV HR
    go_wp2_with (at_builtin; refine Kd.R_append (w0 := Lib.bytesWorld W2 5 channel) ksl (Lib.bytesWorld w 5 topic).heap.size rfl (.tmp 12) (.tmp 15) 51 42 _ 24 rfl Tryd.underlying51 info42 rfl (by show 0 < 1; decide) (by decide) (.slice A1 n1 c1) [(w.heap.size, topic.size, grownCap w topic.size 0 5)] (W2.heap.size, channel.size, grownCap W2 channel.size 0 5) [.slice (some ⟨W2.heap.size, 0, none⟩) channel.size (grownCap W2 channel.size 0 5)] (fun q => (Lib.bytesWorld w 5 topic).heap.size ≤ q) (fun _ => False) (by simp [Act.eval]) (by simp [Act.eval]) rfl (fun _ h => h.elim) HOK.out HRV.out (Below.refl _ _) hsz (by show (1 + 1) * 24 ≤ 140737488355328; decide) ?_; intro v1 w4 hr1 hb1 hg1 hat1; obtain ⟨g9, c9, rfl, hps⟩ := ksl_at (ls := [topic, channel]) hr1 rfl (by simp) (fun j p s hp hs => (match j, hp, hs with
      | 0, hp, hs => (by simp at hp hs; subst hp; subst hs; exact ⟨rfl, HT.out.1.grown hg1 (HNE.out _ (by have := HZ.out; omega))⟩)
      | 1, hp, hs => (by simp at hp hs; subst hp; subst hs; exact ⟨rfl, HT.out.2.grown hg1 (HNE.out _ (by have := HZ.out; omega))⟩)
      | j + 2, hp, hs => (by simp at hp))); have HPS := Aside0.mk (And.intro hps hb1); clear hr1 hb1 hg1 hat1 hps)
    go_ret
    exact MkC.lit (HBW.out.trans (HPS.out.2.mono (by have := HZ.out; omega))) (by simp) (by simp) rfl rfl (by decide) rfl HPS.out.1 rfl
set_option maxHeartbeats 4000000 in
set_option maxRecDepth 100000 in
theorem unregister_any (topic channel : ByteArray) (w : World) (hz : topic.size ≤ 100) (hz2 : channel.size ≤ 100) :
    Calls Tryd.prog 15 #[.string topic, .string channel] w fun e w' => MkC w ⟨#[85, 78, 82, 69, 71, 73, 83, 84, 69, 82]⟩ (if channel.size = 0 then [topic] else [topic, channel]) none e w' := by
  have hbs := fun w s => print_bytes (P := Tryd.prog) 9 42 5 Tryd.underlying9 Tryd.underlying42 Tryd.underlying5 s w
  have hcv := fun (w : World) (C : Array Value) (n c g : Nat) (hg : g = w.heap.size) => Joins.run_convert_bytes_const_at (P := Tryd.prog) w 42 5 C n c g hg Tryd.underlying42 Tryd.underlying5
  have hb1 : Below w.heap.size w (Lib.bytesWorld w 5 topic) := bytes_below (Below.refl _ _) (Nat.le_refl _) 5 topic
  have HB1 := Aside0.mk hb1
  clear hb1
  by_cases h0 : channel.size = 0
  · rw [if_pos h0]
    go_enter Tryd.func15, Tryd.ntmps15
    go_wp2_with fail
    go_ret
    exact MkC.lit (below_alloc HB1.out _) (by simp) (by simp) rfl rfl (by decide) rfl (PsAt.one (heap_alloc_new _ _) ((TA.new w topic (by omega)).below (below_alloc (Below.refl _ _) _))) rfl
  · rw [if_neg h0]
    have hpos : (0 : Int) < (channel.size : Int) := by omega
    obtain ⟨W2, hW2⟩ : ∃ W2, ((Lib.bytesWorld w 5 topic).alloc (.cells #[.slice (some ⟨w.heap.size, 0, none⟩) topic.size (grownCap w topic.size 0 5)] 42)) = W2 := ⟨_, rfl⟩
    have hr : ksl.R 42 W2 (Lib.bytesWorld w 5 topic).heap.size (fun q => (Lib.bytesWorld w 5 topic).heap.size ≤ q) (.slice (some ⟨(Lib.bytesWorld w 5 topic).heap.size, 0, none⟩) 1 1) [(w.heap.size, topic.size, grownCap w topic.size 0 5)] := by rw [← hW2]; exact ksl_one _ _ _ _ _ (Nat.le_refl _)
    have hz3 : (Lib.bytesWorld w 5 topic).heap.size + 1 = W2.heap.size := by rw [← hW2, World.size_alloc]
    have hz4 : (Lib.bytesWorld w 5 topic).heap.size = w.heap.size + 1 := Lib.bytesWorld_size _ _ _
    have hta : TA W2 w.heap.size topic := by rw [← hW2]; exact (TA.new w topic (by omega)).below (below_alloc (Below.refl _ _) _)
    have hbw : Below w.heap.size w W2 := by rw [← hW2]; exact below_alloc HB1.out _
    have hb3 : Below W2.heap.size W2 (Lib.bytesWorld W2 5 channel) := bytes_below (Below.refl _ _) (Nat.le_refl _) 5 channel
    have HR := Aside0.mk (Kd.R_below hr hb3)
    have HT := Aside0.mk (And.intro (hta.below hb3) (TA.new W2 channel (by omega)))
    have HBW := Aside0.mk (hbw.trans (hb3.mono hbw.size))
    have hsz : (Lib.bytesWorld w 5 topic).heap.size ≤ (Lib.bytesWorld W2 5 channel).heap.size := by rw [Lib.bytesWorld_size W2]; omega
    have HOK := Aside0.mk (fun (q : Nat) (hq : (Lib.bytesWorld W2 5 channel).heap.size ≤ q) => show (Lib.bytesWorld w 5 topic).heap.size ≤ q by omega)
    have HZ := Aside0.mk (And.intro hz3 hz4)
    have HW2 := Aside0.mk hW2
    clear hr hta hbw hb3 hz3 hz4 hW2
    go_enter Tryd.func15, Tryd.ntmps15
    go_upto_if 11 with (fail)
    rw [HW2.out]
    generalize hV : Value.slice (some ⟨(Lib.bytesWorld w 5 topic).heap.size, 0, none⟩) 1 1 = V
    obtain ⟨A1, n1, c1, rfl⟩ : ∃ A1 n1 c1, V = .slice A1 n1 c1 := ⟨_, _, _, hV.symm⟩
    have HRV := Aside0.mk HR.out
    rw [hV] at HRV
    have HNE := Aside0.mk (fun (q : Nat) (hq : q ≠ (Lib.bytesWorld w 5 topic).heap.size) => show some q ≠ (Value.slice A1 n1 c1).ownBlock by rw [← hV]; intro he; injection he with he; exact hq he)
    clear hV HR
    go_wp2_with (at_builtin; refine Kd.R_append (w0 := Lib.bytesWorld W2 5 channel) ksl (Lib.bytesWorld w 5 topic).heap.size rfl (.tmp 12) (.tmp 15) 51 42 _ 24 rfl Tryd.underlying51 info42 rfl (by show 0 < 1; decide) (by decide) (.slice A1 n1 c1) [(w.heap.size, topic.size, grownCap w topic.size 0 5)] (W2.heap.size, channel.size, grownCap W2 channel.size 0 5) [.slice (some ⟨W2.heap.size, 0, none⟩) channel.size (grownCap W2 channel.size 0 5)] (fun q => (Lib.bytesWorld w 5 topic).heap.size ≤ q) (fun _ => False) (by simp [Act.eval]) (by simp [Act.eval]) rfl (fun _ h => h.elim) HOK.out HRV.out (Below.refl _ _) hsz (by show (1 + 1) * 24 ≤ 140737488355328; decide) ?_; intro v1 w4 hr1 hb1 hg1 hat1; obtain ⟨g9, c9, rfl, hps⟩ := ksl_at (ls := [topic, channel]) hr1 rfl (by simp) (fun j p s hp hs => (match j, hp, hs with
      | 0, hp, hs => (by simp at hp hs; subst hp; subst hs; exact ⟨rfl, HT.out.1.grown hg1 (HNE.out _ (by have := HZ.out; omega))⟩)
      | 1, hp, hs => (by simp at hp hs; subst hp; subst hs; exact ⟨rfl, HT.out.2.grown hg1 (HNE.out _ (by have := HZ.out; omega))⟩)
      | j + 2, hp, hs => (by simp at hp))); have HPS := Aside0.mk (And.intro hps hb1); clear hr1 hb1 hg1 hat1 hps)
    go_ret
    exact MkC.lit (HBW.out.trans (HPS.out.2.mono (by have := HZ.out; omega))) (by simp) (by simp) rfl rfl (by decide) rfl HPS.out.1 rfl
set_option maxHeartbeats 4000000 in
set_option maxRecDepth 100000 in
theorem dpub_any (topic body : ByteArray) (bb bc n : Nat) (w : World) (hz : topic.size ≤ 100) (hz2 : body.size ≤ 100) (hB : TA w bb body) (hn : n < 9223372036854775808) (ht : Tb w) :
    Calls Tryd.prog 18 #[.string topic, .int .i64 (n : Int), .slice (some ⟨bb, 0, none⟩) body.size bc] w fun e w' => MkC w ⟨#[68, 80, 85, 66]⟩ [topic, dec (n / 1000000)] (some body) e w' := by
  have hbs := fun w s => print_bytes (P := Tryd.prog) 9 42 5 Tryd.underlying9 Tryd.underlying42 Tryd.underlying5 s w
  have hcv := fun (w : World) (C : Array Value) (n c g : Nat) (hg : g = w.heap.size) => Joins.run_convert_bytes_const_at (P := Tryd.prog) w 42 5 C n c g hg Tryd.underlying42 Tryd.underlying5
  obtain ⟨q, hq⟩ : ∃ q : Nat, n / 1000000 = q := ⟨_, rfl⟩
  have hqn : q < 9223372036854775808 := by omega
  have hq1 : Int.tdiv (n : Int) 1000000 = (q : Int) := by rw [Int.tdiv_eq_ediv_of_nonneg (by omega)]; omega
  have hq2 : wrap64 (q : Int) = q := (nat_i64 q hqn).2
  have hq3 : IntKind.i64.wrap (q : Int) = q := (nat_i64 q hqn).1
  rw [hq]
  have hz3 := dec_size q (by omega)
  have HB := Aside0.mk hB
  have hb1 : Below w.heap.size w (Lib.bytesWorld w 5 topic) := bytes_below (Below.refl _ _) (Nat.le_refl _) 5 topic
  have HB1 := Aside0.mk hb1
  have HI := Aside0.mk (itoa_any q hqn (Lib.bytesWorld w 5 topic) (ht.below hb1))
  generalize dec q = T at *
  clear hB ht hb1 hn hq hqn
  go_enter Tryd.func18, Tryd.ntmps18
  go_wp2_with fail
  refine HI.out.mono ?_
  rintro e w1 ⟨rfl, hb⟩
  have HB2 := Aside0.mk hb
  clear hb HI
  go_wp2_with fail
  go_ret
  have hb3 : Below w1.heap.size w1 (Lib.bytesWorld w1 5 T) := bytes_below (Below.refl _ _) (Nat.le_refl _) 5 T
  have hb2 := HB1.out.trans (HB2.out.mono HB1.out.size)
  have hb4 := hb2.trans (hb3.mono hb2.size)
  exact MkC.lit (below_alloc hb4 _) (by simp) (by simp) rfl rfl (by decide) rfl (PsAt.two (heap_alloc_new _ _) ((((TA.new w topic (by omega)).below HB2.out).below hb3).below (below_alloc (Below.refl _ _) _)) ((TA.new w1 T (by omega)).below (below_alloc (Below.refl _ _) _))) ⟨bb, bc, rfl, HB.out.below (below_alloc hb4 _)⟩
set_option maxHeartbeats 4000000 in
set_option maxRecDepth 100000 in
theorem finish_any (s : ByteArray) (w : World) (hs : s.size = 16) :
    Calls Tryd.prog 22 #[.agg (litC s)] w fun e w' => MkC w ⟨#[70, 73, 78]⟩ [s] none e w' := by
  have hbs := fun w s => print_bytes (P := Tryd.prog) 9 42 5 Tryd.underlying9 Tryd.underlying42 Tryd.underlying5 s w
  have hcv := fun (w : World) (C : Array Value) (n c g : Nat) (hg : g = w.heap.size) => Joins.run_convert_bytes_const_at (P := Tryd.prog) w 42 5 C n c g hg Tryd.underlying42 Tryd.underlying5
  obtain ⟨a0, a1, a2, a3, a4, a5, a6, a7, a8, a9, a10, a11, a12, a13, a14, a15, hI⟩ := litC_16 s hs
  have hta := TA.lit w s (0, 0) 57 (by omega)
  rw [hI] at hta ⊢
  have HTA := Aside0.mk hta
  have HS := Aside0.mk hs
  clear hI hta
  go_enter Tryd.func22, Tryd.ntmps22
  go_wp2_with fail
  go_ret
  exact MkC.lit (below_alloc (below_alloc (Below.refl _ _) _) _) (by simp) (by simp) rfl rfl (by decide) rfl (PsAt.oneL (alloc_new_at (by simp)) (HTA.out.below (below_alloc (Below.refl _ _) _)) HS.out.symm) rfl
set_option maxHeartbeats 4000000 in
set_option maxRecDepth 100000 in
theorem touch_any (s : ByteArray) (w : World) (hs : s.size = 16) :
    Calls Tryd.prog 25 #[.agg (litC s)] w fun e w' => MkC w ⟨#[84, 79, 85, 67, 72]⟩ [s] none e w' := by
  have hbs := fun w s => print_bytes (P := Tryd.prog) 9 42 5 Tryd.underlying9 Tryd.underlying42 Tryd.underlying5 s w
  have hcv := fun (w : World) (C : Array Value) (n c g : Nat) (hg : g = w.heap.size) => Joins.run_convert_bytes_const_at (P := Tryd.prog) w 42 5 C n c g hg Tryd.underlying42 Tryd.underlying5
  obtain ⟨a0, a1, a2, a3, a4, a5, a6, a7, a8, a9, a10, a11, a12, a13, a14, a15, hI⟩ := litC_16 s hs
  have hta := TA.lit w s (0, 0) 57 (by omega)
  rw [hI] at hta ⊢
  have HTA := Aside0.mk hta
  have HS := Aside0.mk hs
  clear hI hta
  go_enter Tryd.func25, Tryd.ntmps25
  go_wp2_with fail
  go_ret
  exact MkC.lit (below_alloc (below_alloc (Below.refl _ _) _) _) (by simp) (by simp) rfl rfl (by decide) rfl (PsAt.oneL (alloc_new_at (by simp)) (HTA.out.below (below_alloc (Below.refl _ _) _)) HS.out.symm) rfl
set_option maxHeartbeats 4000000 in
set_option maxRecDepth 100000 in
theorem requeue_any (s : ByteArray) (n : Nat) (w : World) (hs : s.size = 16) (hn : n < 9223372036854775808) (ht : Tb w) :
    Calls Tryd.prog 24 #[.agg (litC s), .int .i64 (n : Int)] w fun e w' => MkC w ⟨#[82, 69, 81]⟩ [s, dec (n / 1000000)] none e w' := by
  have hbs := fun w s => print_bytes (P := Tryd.prog) 9 42 5 Tryd.underlying9 Tryd.underlying42 Tryd.underlying5 s w
  have hcv := fun (w : World) (C : Array Value) (n c g : Nat) (hg : g = w.heap.size) => Joins.run_convert_bytes_const_at (P := Tryd.prog) w 42 5 C n c g hg Tryd.underlying42 Tryd.underlying5
  obtain ⟨q, hq⟩ : ∃ q : Nat, n / 1000000 = q := ⟨_, rfl⟩
  have hqn : q < 9223372036854775808 := by omega
  have hq1 : Int.tdiv (n : Int) 1000000 = (q : Int) := by rw [Int.tdiv_eq_ediv_of_nonneg (by omega)]; omega
  have hq2 : wrap64 (q : Int) = q := (nat_i64 q hqn).2
  have hq3 : IntKind.i64.wrap (q : Int) = q := (nat_i64 q hqn).1
  rw [hq]
  have hz3 := dec_size q (by omega)
  obtain ⟨a0, a1, a2, a3, a4, a5, a6, a7, a8, a9, a10, a11, a12, a13, a14, a15, hI⟩ := litC_16 s hs
  have hta := TA.lit w s (0, 0) 57 (by omega)
  rw [hI] at hta ⊢
  have HTA := Aside0.mk hta
  have HS := Aside0.mk hs
  clear hI hta
  have hb1 : Below w.heap.size w (w.alloc (.cells #[.int .u8 a0, .int .u8 a1, .int .u8 a2, .int .u8 a3, .int .u8 a4, .int .u8 a5, .int .u8 a6, .int .u8 a7, .int .u8 a8, .int .u8 a9, .int .u8 a10, .int .u8 a11, .int .u8 a12, .int .u8 a13, .int .u8 a14, .int .u8 a15] 57)) := below_alloc (Below.refl _ _) _
  have HB1 := Aside0.mk hb1
  have HI := Aside0.mk (fun wi (h : Below w.heap.size w wi) => itoa_any q hqn wi (ht.below h))
  generalize dec q = T at *
  have hn3 : ¬ (n : Int) / 1000000 < 0 := by omega
  clear ht hb1 hn hq hqn
  go_enter Tryd.func24, Tryd.ntmps24
  go_wp2_with fail
  go_region_with (go_at_call 33; refine (HI.out _ (by first | exact HB1.out | exact below_drew HB1.out)).mono ?_; rintro e w1 ⟨rfl, hb⟩)
  all_goals
    have HB2 := Aside0.mk hb
    clear hb
    go_wp2_with fail
    go_ret
    first
    | (have hbw : Below (w.alloc (.cells #[.int .u8 a0, .int .u8 a1, .int .u8 a2, .int .u8 a3, .int .u8 a4, .int .u8 a5, .int .u8 a6, .int .u8 a7, .int .u8 a8, .int .u8 a9, .int .u8 a10, .int .u8 a11, .int .u8 a12, .int .u8 a13, .int .u8 a14, .int .u8 a15] 57)).heap.size (w.alloc (.cells #[.int .u8 a0, .int .u8 a1, .int .u8 a2, .int .u8 a3, .int .u8 a4, .int .u8 a5, .int .u8 a6, .int .u8 a7, .int .u8 a8, .int .u8 a9, .int .u8 a10, .int .u8 a11, .int .u8 a12, .int .u8 a13, .int .u8 a14, .int .u8 a15] 57)) w1 := (below_drew (Below.refl _ _)).trans HB2.out
       have hb2 := HB1.out.trans (hbw.mono HB1.out.size)
       have hb3 : Below w1.heap.size w1 (Lib.bytesWorld w1 5 T) := bytes_below (Below.refl _ _) (Nat.le_refl _) 5 T
       have hb4 := hb2.trans (hb3.mono hb2.size)
       exact MkC.lit (below_alloc hb4 _) (by simp) (by simp) rfl rfl (by decide) rfl (PsAt.twoL (heap_alloc_new _ _) (((HTA.out.below hbw).below hb3).below (below_alloc (Below.refl _ _) _)) ((TA.new w1 T (by omega)).below (below_alloc (Below.refl _ _) _)) HS.out.symm rfl) rfl)
set_option maxHeartbeats 4000000 in
set_option maxRecDepth 100000 in
theorem auth_any (secret : ByteArray) (w : World) (hz : secret.size ≤ 100) :
    Calls Tryd.prog 28 #[.string secret] w fun e w' => ∃ cp, e = .returned (.tuple #[.pointer (some ⟨cp, 0, none⟩), .nilIface]) ∧ Below w.heap.size w w' ∧ CR w' cp ⟨#[65, 85, 84, 72]⟩ [] (some secret) := by
  have hbs := fun w s => print_bytes (P := Tryd.prog) 9 42 5 Tryd.underlying9 Tryd.underlying42 Tryd.underlying5 s w
  have hcv := fun (w : World) (C : Array Value) (n c g : Nat) (hg : g = w.heap.size) => Joins.run_convert_bytes_const_at (P := Tryd.prog) w 42 5 C n c g hg Tryd.underlying42 Tryd.underlying5
  go_enter Tryd.func28, Tryd.ntmps28
  go_wp2_with fail
  refine bodyPost_ret (results_tmp2 rfl _ _ _) rfl ?_
  have hl : TA (w.alloc (.cells #[.int .u8 65, .int .u8 85, .int .u8 84, .int .u8 72] 5 (4, 5))) w.heap.size ⟨#[65, 85, 84, 72]⟩ := TA.lit w ⟨#[65, 85, 84, 72]⟩ (4, 5) 5 (by decide)
  have hb2 : Below (w.alloc (.cells #[.int .u8 65, .int .u8 85, .int .u8 84, .int .u8 72] 5 (4, 5))).heap.size (w.alloc (.cells #[.int .u8 65, .int .u8 85, .int .u8 84, .int .u8 72] 5 (4, 5))) (Lib.bytesWorld (w.alloc (.cells #[.int .u8 65, .int .u8 85, .int .u8 84, .int .u8 72] 5 (4, 5))) 5 secret) := bytes_below (Below.refl _ _) (Nat.le_refl _) 5 secret
  have hb1 : Below w.heap.size w (w.alloc (.cells #[.int .u8 65, .int .u8 85, .int .u8 84, .int .u8 72] 5 (4, 5))) := below_alloc (Below.refl _ _) _
  have hs := TA.new (w.alloc (.cells #[.int .u8 65, .int .u8 85, .int .u8 84, .int .u8 72] 5 (4, 5))) secret (by omega)
  rw [World.size_alloc] at hs
  exact ⟨_, rfl, below_alloc (hb1.trans (hb2.mono hb1.size)) _, CR.mk (hl.below hb2) rfl rfl (PsAt.nil _ _) ⟨_, _, rfl, hs⟩⟩
end Go.Proofs.YtnbhledkdkchlaaDoor
