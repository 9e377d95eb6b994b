/- impl.ErrorKind: which kinds it tells. (seat r3.Z; printed by gen_er6.py) -/
import Derived.Test.YtkogipaaioibaaaGreatEb1
import Derived.Test.YtkogipaaioibaaaGreatEb2
import Derived.Test.YtkogipaaioibaaaGreatEb3
import Derived.Test.YtkogipaaioibaaaGreatEc
import Derived.Defers
import Derived.Recover
import Derived.RegionTactic
import Derived.ChangeAlike
namespace Go.Proofs.YtkogipaaioibaaaGreat
set_option linter.unusedVariables false
set_option linter.unusedSimpArgs false
open Go.RowKit Go.Proofs.YtkogipaaioibaaaGreatW.PrintWords

theorem strOf_bytes (l : List UInt8) : strOfNums (l.map fun b => (b.toNat : Int)) = ofL l := by
  apply L_inj
  rw [L_ofL]
  show (strOfNums _).data.toList = l
  rw [strOfNums_data, List.map_map]
  conv => rhs; rw [← List.map_id l]
  apply List.map_congr_left
  intro x _
  simp
set_option maxHeartbeats 1000000 in
theorem reply_any (src cap : Nat) (line m a : ByteArray) (c : Nat) (w : World) (hr : ReadsInt w .u8 (some ⟨src, 0, none⟩) line.size (bytesOf line)) (h1 : 1 ≤ line.size) (hz : line.size ≤ 1000) (hcap : line.size ≤ cap) (hm : line.extract 1 line.size = m)
    (HP : Hid (∀ w, Calls Tryz.prog 33 #[.string m] w fun e w' => ParseR w m a c e w')) :
    Calls Tryz.prog 14 #[.slice (some ⟨src, 0, none⟩) line.size cap] w fun e w' => ParseR w m a c e w' := by
  have hxs : strOfNums ((bytesOf line).drop 1) = m := by
    rw [← hm]
    show strOfNums (((L line).map fun b => (b.toNat : Int)).drop 1) = _
    rw [← List.map_drop, strOf_bytes]
    apply L_inj
    rw [L_ofL, L_ext, List.take_of_length_le (by rw [List.length_drop, L_len]; omega)]
  by_cases hc1 : cap = 1
  · have hl1 : line.size = 1 := by omega
    have hme : m = ⟨#[]⟩ := by rw [← hxs, List.drop_of_length_le (by rw [bytesOf_length]; omega)]; rfl
    subst hme
    have hcv : ∀ (off : Nat), (convert 35 9 (.slice (some ⟨src, off, none⟩) 0 0)).run Tryz.prog w = .ok (.string ⟨#[]⟩) w := fun off => run_convert_bytes_arg w 35 5 Tryz.underlying35 Tryz.underlying5 src off 0 0 [] rfl (fun i hi => absurd hi (by omega)) 9 Tryz.underlying9
    rw [hl1, hc1]
    clear hr hm hxs
    go_enter Tryz.func14, Tryz.ntmps14
    go_wp2_with fail
    refine (HP.out _).mono ?_
    rintro e w1 ⟨v, rfl, hv, hb⟩
    have HV := Lib.hid (And.intro hv hb)
    clear hv hb
    go_wp2_with fail
    go_ret
    exact ⟨v, rfl, HV.out.1, HV.out.2⟩
  · have hcv : (convert 35 9 (.slice (some ⟨src, 0 + 1, none⟩) (line.size - 1) (cap - 1))).run Tryz.prog w = .ok (.string m) w := by
      rw [← hxs]
      refine run_convert_bytes_arg w 35 5 Tryz.underlying35 Tryz.underlying5 src (0 + 1) (line.size - 1) (cap - 1) ((bytesOf line).drop 1) (by rw [List.length_drop, bytesOf_length]) (fun i hi => ?_) 9 Tryz.underlying9
      obtain ⟨ad, he, hcell⟩ := hr.2.2 (by omega)
      injection he with he
      subst he
      have := hcell (1 + i) (by omega)
      rw [show (⟨src, 0, none⟩ : Addr).add (1 + i) = ⟨src, 0 + 1 + i, none⟩ by simp [Addr.add]] at this
      rw [this]
      simp [List.getD_eq_getElem?_getD, List.getElem?_drop, Nat.add_comm]
    have hc2 : 1 < cap := by omega
    have hcl : line.size ≤ cap := hcap
    generalize line.size = n at *
    clear hr hm hxs
    go_enter Tryz.func14, Tryz.ntmps14
    go_wp2_with fail
    refine (HP.out _).mono ?_
    rintro e w1 ⟨v, rfl, hv, hb⟩
    have HV := Lib.hid (And.intro hv hb)
    clear hv hb
    go_wp2_with fail
    go_ret
    exact ⟨v, rfl, HV.out.1, HV.out.2⟩

/-- An error value's own method. -/
theorem EVal.err {w : World} {m a : ByteArray} {c : Nat} {v : Value} (h : EVal w m a c v) : ∃ T x K, v = .iface T x ∧ (∀ n w, (nilAhead (n + 1) T x "Error").run Tryz.prog w = .ok (some false) w) ∧ (∀ n w, (method (n + 1) T x "Error").run Tryz.prog w = .ok (K, x) w) ∧
    (∀ w', EVal w' m a c (.iface T x) → Calls Tryz.prog K #[x] w' fun e w'' => e = .returned (.string m) ∧ w'' = w') := by
  unfold EVal at h
  split at h
  · obtain ⟨g, rfl, hb⟩ := h
    exact ⟨_, _, _, rfl, fun n w => ahead_Loading n _ w, fun n w => meth_Loading n _ w, fun w' h' => by
      obtain ⟨g', he, hb'⟩ := h'
      injection he with _ he
      injection he with he
      injection he with he
      injection he with he
      subst he
      exact err_Loading m _ w' hb'⟩
  · obtain ⟨g, rfl, hb⟩ := h
    exact ⟨_, _, _, rfl, fun n w => ahead_ReadOnly n _ w, fun n w => meth_ReadOnly n _ w, fun w' h' => by
      obtain ⟨g', he, hb'⟩ := h'
      injection he with _ he
      injection he with he
      injection he with he
      injection he with he
      subst he
      exact err_ReadOnly m _ w' hb'⟩
  · obtain ⟨g, rfl, hb⟩ := h
    exact ⟨_, _, _, rfl, fun n w => ahead_Moved n _ w, fun n w => meth_Moved n _ w, fun w' h' => by
      obtain ⟨g', he, hb'⟩ := h'
      injection he with _ he
      injection he with he
      injection he with he
      injection he with he
      subst he
      exact err_Moved m a _ w' hb'⟩
  · obtain ⟨g, rfl, hb⟩ := h
    exact ⟨_, _, _, rfl, fun n w => ahead_Ask n _ w, fun n w => meth_Ask n _ w, fun w' h' => by
      obtain ⟨g', he, hb'⟩ := h'
      injection he with _ he
      injection he with he
      injection he with he
      injection he with he
      subst he
      exact err_Ask m a _ w' hb'⟩
  · obtain ⟨g, rfl, hb⟩ := h
    exact ⟨_, _, _, rfl, fun n w => ahead_ClusterDown n _ w, fun n w => meth_ClusterDown n _ w, fun w' h' => by
      obtain ⟨g', he, hb'⟩ := h'
      injection he with _ he
      injection he with he
      injection he with he
      injection he with he
      subst he
      exact err_ClusterDown m _ w' hb'⟩
  · obtain ⟨g, rfl, hb⟩ := h
    exact ⟨_, _, _, rfl, fun n w => ahead_TryAgain n _ w, fun n w => meth_TryAgain n _ w, fun w' h' => by
      obtain ⟨g', he, hb'⟩ := h'
      injection he with _ he
      injection he with he
      injection he with he
      injection he with he
      subst he
      exact err_TryAgain m _ w' hb'⟩
  · obtain ⟨g, rfl, hb⟩ := h
    exact ⟨_, _, _, rfl, fun n w => ahead_MasterDown n _ w, fun n w => meth_MasterDown n _ w, fun w' h' => by
      obtain ⟨g', he, hb'⟩ := h'
      injection he with _ he
      injection he with he
      injection he with he
      injection he with he
      subst he
      exact err_MasterDown m _ w' hb'⟩
  · obtain ⟨g, rfl, hb⟩ := h
    exact ⟨_, _, _, rfl, fun n w => ahead_NoReplicas n _ w, fun n w => meth_NoReplicas n _ w, fun w' h' => by
      obtain ⟨g', he, hb'⟩ := h'
      injection he with _ he
      injection he with he
      injection he with he
      injection he with he
      subst he
      exact err_NoReplicas m _ w' hb'⟩
  · obtain ⟨g, rfl, hb⟩ := h
    exact ⟨_, _, _, rfl, fun n w => ahead_MaxClients n _ w, fun n w => meth_MaxClients n _ w, fun w' h' => by
      obtain ⟨g', he, hb'⟩ := h'
      injection he with _ he
      injection he with he
      injection he with he
      injection he with he
      subst he
      exact err_MaxClients m _ w' hb'⟩
  · obtain ⟨g, rfl, hb⟩ := h
    exact ⟨_, _, _, rfl, fun n w => ahead_Auth n _ w, fun n w => meth_Auth n _ w, fun w' h' => by
      obtain ⟨g', he, hb'⟩ := h'
      injection he with _ he
      injection he with he
      injection he with he
      injection he with he
      subst he
      exact err_Auth m _ w' hb'⟩
  · obtain ⟨g, rfl, hb⟩ := h
    exact ⟨_, _, _, rfl, fun n w => ahead_Permission n _ w, fun n w => meth_Permission n _ w, fun w' h' => by
      obtain ⟨g', he, hb'⟩ := h'
      injection he with _ he
      injection he with he
      injection he with he
      injection he with he
      subst he
      exact err_Permission m _ w' hb'⟩
  · obtain ⟨g, rfl, hb⟩ := h
    exact ⟨_, _, _, rfl, fun n w => ahead_ExecAbort n _ w, fun n w => meth_ExecAbort n _ w, fun w' h' => by
      obtain ⟨g', he, hb'⟩ := h'
      injection he with _ he
      injection he with he
      injection he with he
      injection he with he
      subst he
      exact err_ExecAbort m _ w' hb'⟩
  · obtain ⟨g, rfl, hb⟩ := h
    exact ⟨_, _, _, rfl, fun n w => ahead_OOM n _ w, fun n w => meth_OOM n _ w, fun w' h' => by
      obtain ⟨g', he, hb'⟩ := h'
      injection he with _ he
      injection he with he
      injection he with he
      injection he with he
      subst he
      exact err_OOM m _ w' hb'⟩
  · subst h
    exact ⟨_, _, _, rfl, fun n w => re_ahead n m w, fun n w => re_meth n m w, fun w' _ => re_error m w'⟩
def NormalOnly (K : Act → World → Prop) : Exit → Act → World → Prop := fun e a w => match e with
  | .normal => K a w
  | _ => False
theorem wp_only {P : Program} {c : Code} {Q : Exit → Act → World → Prop} {a : Act} {w : World} (h : c.wp P (NormalOnly (Q .normal)) a w) : c.wp P Q a w :=
  Code.wp_mono (fun e a w h => by cases e <;> first | exact h | exact h.elim) h
theorem idleE (a b c : Value) (w : World) :
    CallsD Tryz.prog 13 #[a, b, c] .returning w fun e u' w' => e = .returned (.tuple #[]) ∧ u' = .returning ∧ w' = w := by
  refine callsD_of_wpS Tryz.func13 rfl fun c₀ cs hu => ?_
  apply wpS_seq
  apply wpS_region
  simp [wpOpsS, go_sem, recoverD, hu, Tryz.ntmps13, Exit.thenS]
  refine wpS_cond (t := false) (by simp [Act.eval, Array.replicate]) ?_
  simp only [Bool.false_eq_true, if_false]
  refine wpS_of_wp (wp_skip ?_)
  cases c₀
  simp_all [bodyPostS, results, Tryz.results13]
theorem resE (tmps : Array Value) (w : World) (g g1 g2 : Nat) (v : Value) (x y : ByteArray) (h2 : tmps.getD 2 undef = .pointer (some ⟨g, 0, none⟩)) (h3 : tmps.getD 3 undef = .pointer (some ⟨g1, 0, none⟩)) (h4 : tmps.getD 4 undef = .pointer (some ⟨g2, 0, none⟩))
    (hg : w.heap[g]? = some (.cells #[v] 24 (0, 0))) (hx : w.heap[g1]? = some (.cells #[.string x] 9 (0, 0))) (hy : w.heap[g2]? = some (.cells #[.string y] 9 (0, 0))) :
    (results Tryz.f5 tmps).run Tryz.prog w = .ok (.tuple #[v, .string x, .string y]) w := by
  have h2' : tmps[2]?.getD undef = .pointer (some ⟨g, 0, none⟩) := by simpa using h2
  have h3' : tmps[3]?.getD undef = .pointer (some ⟨g1, 0, none⟩) := by simpa using h3
  have h4' : tmps[4]?.getD undef = .pointer (some ⟨g2, 0, none⟩) := by simpa using h4
  have c0 : w.cell? ⟨g, 0, none⟩ = some v := blk_cell hg 0
  have c1 : w.cell? ⟨g1, 0, none⟩ = some (.string x) := blk_cell hx 0
  have c2 : w.cell? ⟨g2, 0, none⟩ = some (.string y) := blk_cell hy 0
  simp [results, Tryz.results5, h2', h3', h4', asAddr, go_sem, c0, c1, c2]
/-- What impl.ErrorKind carries. -/
structure ES (w wc : World) (n : Nat) (xs : List ByteArray) (am m a : ByteArray) (c : Nat) (v : Value) : Prop where
  ks : KS wc (w.heap.size + 1 + 1 + 1) w.heap.size xs
  ad : wc.heap[w.heap.size + 1]? = some (.cells #[.string am] 9 (0, 0))
  tx : wc.heap[w.heap.size + 1 + 1]? = some (.cells #[.string ⟨#[]⟩] 9 (0, 0))
  ev : EVal wc m a c v
  bel : Below w.heap.size w wc
  sz : w.heap.size + 1 + 1 + 1 ≤ wc.heap.size
  ln : xs.length ≤ n
theorem EVal.below {w w' : World} {m a : ByteArray} {c : Nat} {v : Value} (h : EVal w m a c v) (hb : Below w.heap.size w w') : EVal w' m a c v := h.keep fun g cs t hg _ _ => blk_below hg hb
theorem ES.below {w wc w1 : World} {n : Nat} {xs : List ByteArray} {am m a : ByteArray} {c : Nat} {v : Value} (h : ES w wc n xs am m a c v) (hb : Below wc.heap.size wc w1) : ES w w1 n xs am m a c v :=
  ⟨h.ks.below hb, blk_below h.ad hb, blk_below h.tx hb, h.ev.below hb, h.bel.trans (hb.mono (by have := h.sz; omega)), Nat.le_trans h.sz hb.size, h.ln⟩
theorem ES.draw {w wc w1 : World} {n : Nat} {xs : List ByteArray} {am m a : ByteArray} {c : Nat} {v : Value} (h : ES w wc n xs am m a c v) (hd : Drawn0 wc w1) : ES w w1 n xs am m a c v := by
  obtain ⟨nd, rfl⟩ := hd
  exact h.below (pw_below_drewN (Below.refl _ _) nd)
theorem FrS.box {B kb : Nat} {w w' : World} (h : FrS B kb w w') {g : Nat} {cs : Array Value} {t : TypeId} {v : Value} (hk : w.heap[kb]? = some (.cells #[v] 24 (0, 0))) (hg : w.heap[g]? = some (.cells cs t (0, 0))) (h9 : t ≠ 9) (h24 : t ≠ 24) : w'.heap[g]? = some (.cells cs t (0, 0)) := by
  refine (h.blk g (blk_lt hg) ?_ (.inr fun cs' fr e => ?_)).trans hg
  · rintro rfl
    rw [hk] at hg
    injection hg with hg
    injection hg with _ hg
    exact h24 hg.symm
  · rw [hg] at e
    injection e with e
    injection e with _ e
    exact h9 e
theorem ES.add {w wc w1 : World} {n : Nat} {xs ys : List ByteArray} {am m a : ByteArray} {c : Nat} {v : Value} (h : ES w wc n xs am m a c v) (hk : KS w1 (w.heap.size + 1 + 1 + 1) w.heap.size ys) (hf : FrS (w.heap.size + 1 + 1 + 1) w.heap.size wc w1) (hl : ys.length ≤ n + 1) : ES w w1 (n + 1) ys am m a c v := by
  have hs := h.sz
  obtain ⟨v0, hk0, _⟩ := h.ks
  exact ⟨hk, (hf.blk _ (by omega) (by omega) (.inl (by omega))).trans h.ad, (hf.blk _ (by omega) (by omega) (.inl (by omega))).trans h.tx, h.ev.keep fun g cs t hg h9 h24 => hf.box hk0 hg h9 h24,
    h.bel.trans ⟨hf.os, hf.tape, hf.output, hf.size, fun i hi => hf.blk i (by omega) (by omega) (.inl (by omega))⟩, Nat.le_trans hs hf.size, hl⟩
theorem len_if {xs : List ByteArray} {n : Nat} (b : Bool) (name : ByteArray) (h : xs.length ≤ n) : (xs ++ if b = true then [name] else []).length ≤ n + 1 := by
  cases b <;> simp <;> omega
theorem ES.store {w wc : World} {n : Nat} {xs : List ByteArray} {am m a : ByteArray} {c : Nat} {v : Value} (h : ES w wc n xs am m a c v) (s : ByteArray) : ES w (wc.setCell ⟨w.heap.size + 1, 0, none⟩ (.string s)) n xs s m a c v := by
  have far : ∀ g, g ≠ w.heap.size + 1 → (wc.setCell ⟨w.heap.size + 1, 0, none⟩ (.string s)).heap[g]? = wc.heap[g]? := fun g hg => Below.heap_setCell wc _ _ g (by show g ≠ w.heap.size + 1; exact hg)
  obtain ⟨v0, hk0, hr⟩ := h.ks
  refine ⟨⟨v0, (far _ (by omega)).trans hk0, Kd.R_mono (Kd.R_step (Kd.R_bound hr) (fun k ho _ => far k (by have := ho.2.1; omega))) (fun _ _ => trivial)⟩, by simpa using blk_set h.ad 0 (.string s), (far _ (by omega)).trans h.tx, h.ev.keep fun g cs t hg h9 _ => (far g ?_).trans hg, ?_, by simpa [World.setCell] using h.sz, h.ln⟩
  · rintro rfl
    rw [h.ad] at hg
    injection hg with hg
    injection hg with _ hg
    exact h9 hg.symm
  · exact below_set h.bel (by omega)
/-- What impl.ErrorKind answers. -/
def EkR (w : World) (xs : List ByteArray) (ad m : ByteArray) (e : Ending) (w' : World) : Prop := ∃ v, e = .returned (.tuple #[v, .string ad, .string m]) ∧ Kd.R Kd.string 9 w' w.heap.size (fun _ => True) v xs ∧ Below w.heap.size w w'
/-- The end: the variables are stored once more, and the text. -/
theorem ek_end {w wj : World} {n : Nat} {xs : List ByteArray} {am m a : ByteArray} {c : Nat} {v : Value} {A1 : Option Addr} {nn cc1 : Nat} (h : ES w wj n xs am m a c v) (hk : wj.heap[w.heap.size]? = some (.cells #[.slice A1 nn cc1] 24 (0, 0)))
    (hr : Kd.R Kd.string 9 wj (w.heap.size + 1 + 1 + 1) (fun _ => True) (.slice A1 nn cc1) xs) (W : World) (hW : W = (((wj.setCell ⟨w.heap.size, 0, none⟩ (.slice A1 nn cc1)).setCell ⟨w.heap.size + 1, 0, none⟩ (.string am)).setCell ⟨w.heap.size + 1 + 1, 0, none⟩ (.string m)).drew) :
    W.heap[w.heap.size]? = some (.cells #[.slice A1 nn cc1] 24 (0, 0)) ∧ W.heap[w.heap.size + 1]? = some (.cells #[.string am] 9 (0, 0)) ∧ W.heap[w.heap.size + 1 + 1]? = some (.cells #[.string m] 9 (0, 0)) ∧ EkR w xs am m (.returned (.tuple #[.slice A1 nn cc1, .string am, .string m])) W := by
  subst hW
  have far : ∀ (u : World) (q g : Nat) (x : Value), g ≠ q → (u.setCell ⟨q, 0, none⟩ x).heap[g]? = u.heap[g]? := fun u q g x hg => Below.heap_setCell u _ _ g (by show g ≠ q; exact hg)
  have e0 := blk_set hk 0 (.slice A1 nn cc1)
  have e1 := blk_set ((far wj w.heap.size (w.heap.size + 1) (.slice A1 nn cc1) (by omega)).trans h.ad) 0 (.string am)
  have e2 := blk_set ((far _ (w.heap.size + 1) (w.heap.size + 1 + 1) (.string am) (by omega)).trans ((far wj w.heap.size (w.heap.size + 1 + 1) (.slice A1 nn cc1) (by omega)).trans h.tx)) 0 (.string m)
  refine ⟨?_, ?_, ?_, _, rfl, ?_, ?_⟩
  · exact (far _ _ _ _ (by omega)).trans ((far _ _ _ _ (by omega)).trans (by simpa using e0))
  · exact (far _ _ _ _ (by omega)).trans (by simpa using e1)
  · exact (show _ = some (Obj.cells #[.string m] 9 (0, 0)) by simpa using e2 : (((wj.setCell ⟨w.heap.size, 0, none⟩ (.slice A1 nn cc1)).setCell ⟨w.heap.size + 1, 0, none⟩ (.string am)).setCell ⟨w.heap.size + 1 + 1, 0, none⟩ (.string m)).heap[w.heap.size + 1 + 1]? = _)
  · refine Kd.R_lower (Kd.R_drew (Kd.R_mono (ok := fun _ => True) ?_ (fun _ _ => trivial))) (show w.heap.size ≤ w.heap.size + 1 + 1 + 1 by omega)
    exact Kd.R_mono (Kd.R_step (Kd.R_bound hr) (fun k ho _ => (far _ _ _ _ (by have := ho.2.1; omega)).trans ((far _ _ _ _ (by have := ho.2.1; omega)).trans (far _ _ _ _ (by have := ho.2.1; omega))))) (fun _ _ => trivial)
  · exact below_drew (below_set (below_set (below_set h.bel (Nat.le_refl _)) (by omega)) (by omega))
/-- The kinds that are told, in their order. -/
def kindsL (f : Nat → Bool) : List ByteArray := ((((((((((((([] ++ if f 0 = true then [⟨#[76, 111, 97, 100, 105, 110, 103]⟩] else []) ++ if f 1 = true then [⟨#[82, 101, 97, 100, 79, 110, 108, 121]⟩] else []) ++ if f 2 = true then [⟨#[77, 111, 118, 101, 100]⟩] else []) ++ if f 3 = true then [⟨#[65, 115, 107]⟩] else []) ++ if f 4 = true then [⟨#[67, 108, 117, 115, 116, 101, 114, 68, 111, 119, 110]⟩] else []) ++ if f 5 = true then [⟨#[84, 114, 121, 65, 103, 97, 105, 110]⟩] else []) ++ if f 6 = true then [⟨#[77, 97, 115, 116, 101, 114, 68, 111, 119, 110]⟩] else []) ++ if f 8 = true then [⟨#[77, 97, 120, 67, 108, 105, 101, 110, 116, 115]⟩] else []) ++ if f 9 = true then [⟨#[65, 117, 116, 104]⟩] else []) ++ if f 10 = true then [⟨#[80, 101, 114, 109, 105, 115, 115, 105, 111, 110]⟩] else []) ++ if f 11 = true then [⟨#[69, 120, 101, 99, 65, 98, 111, 114, 116]⟩] else []) ++ if f 12 = true then [⟨#[79, 79, 77]⟩] else []) ++ if f 7 = true then [⟨#[78, 111, 82, 101, 112, 108, 105, 99, 97, 115]⟩] else [])
end Go.Proofs.YtkogipaaioibaaaGreat
