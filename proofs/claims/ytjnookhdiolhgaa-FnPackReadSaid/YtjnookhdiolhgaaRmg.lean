/- laws.same: a value is the same as itself. A value as the reference's. spec.unpack as a function, and what parse says of it. (seat r1) spec.unpack: what it leaves. (seat r1) spec.unpack's loop: what its variables hold. (seat r1) spec.unpack: a step. (seat r1) spec.unpack: a step. (seat r1) spec.unpack: a step. (seat r1) spec.unpack: what it leaves, for every text. (seat r1) spec.Unpack: what it leaves. (seat r1) spec.unpack: how large what it reads is; a value is the same as itself. (seat r1) laws.implVal: a reference's value as the program's. laws.opens: the count of the signs that may begin what has parts. (seat r1) laws.short: it returns. (seat r1) FnPackRead: the walk. (seat r1) -/
import Derived.Test.YtjnookhdiolhgaaEnc
import Derived.Test.YtjnookhdiolhgaaPlawssame
import Derived.Test.YtjnookhdiolhgaaUp
import Derived.Deep.LoopGhost
import Derived.Deep.RegionLaw
import Derived.Laws.Rows
import Derived.Test.YtjnookhdiolhgaaTk
import Derived.Test.YtjnookhdiolhgaaTokA
import Derived.Test.YtjnookhdiolhgaaAlv
import Derived.Deep.RegionHeld3
namespace Go.Proofs.Ytjnookhdiolhgaa
set_option linter.unusedVariables false
set_option linter.unusedSimpArgs false
open Go.RowKit Go.Proofs.YtjnookhdiolhgaaW.PrintWords
open PAll (S26 k26 rd_T26)

theorem wrap64_self' {n : Int} (h : -9223372036854775808 ≤ n ∧ n ≤ 9223372036854775807) : wrap64 n = n := by unfold wrap64; omega
theorem texts_l0 (l : List ByteArray) (hl : l.length ≤ 4000) : ∀ (m j : Nat), j + m = l.length → ∀ k, m + 1 ≤ k → PAll.laws_sameTexts.l0 k l l (l.length : Int) (j : Int) = some true := by
 intro m
 induction m with
 | zero =>
  intro j hj k hk
  obtain ⟨k, rfl⟩ : ∃ k', k = k' + 1 := ⟨k - 1, by omega⟩
  simp only [PAll.laws_sameTexts.l0]
  rw [if_neg (by omega)]
 | succ m ih =>
  intro j hj k hk
  obtain ⟨k, rfl⟩ : ∃ k', k = k' + 1 := ⟨k - 1, by omega⟩
  simp only [PAll.laws_sameTexts.l0]
  rw [if_pos (by omega), if_pos (by omega), if_pos (by omega), if_pos (by omega), if_pos trivial, wrap64_self' (by omega)]
  exact ih (j + 1) (by omega) k (by omega)
theorem texts_f (l : List ByteArray) (hl : l.length ≤ 4000) (k : Nat) (hk : l.length + 1 ≤ k) : PAll.laws_sameTexts.f k l l = some true := by
 unfold PAll.laws_sameTexts.f
 rw [if_pos rfl]
 exact texts_l0 l hl l.length 0 (by omega) k hk
def Same (N : Nat) (x : S26) : Prop := ∀ k, 5 * N + 5 ≤ k → PAll.laws_same.f k x.f0 x.f1 x.f2 x.f3 x.f4 x.f5 x.f6 x.f0 x.f1 x.f2 x.f3 x.f4 x.f5 x.f6 = some true
end Go.Proofs.Ytjnookhdiolhgaa

namespace Go.Proofs.Ytjnookhdiolhgaa
open Go.RowKit Go.Proofs.YtjnookhdiolhgaaW.PrintWords
open Go.Proofs.YtjnookhdiolhgaaW.PrintLast (goes_)
open PAll (S26 k26 rd_T26 S35 k35)

mutual
/-- A value as the reference's. -/
def conv : S26 → S35
 | ⟨k, b, i, f, s, keys, kids⟩ => ⟨k, b, i, f, s, keys, convAll kids⟩
def convAll : List S26 → List S35
 | [] => []
 | x :: r => conv x :: convAll r
end
theorem convAll_length : ∀ l : List S26, (convAll l).length = l.length
 | [] => rfl
 | x :: r => by simp [convAll, convAll_length r]
theorem convAll_take {l : List S26} {j : Nat} {x : S26} (h : l[j]? = some x) : convAll (l.take (j + 1)) = convAll (l.take j) ++ [conv x] := by
 induction l generalizing j with
 | nil => simp at h
 | cons y r ih =>
  cases j with
  | zero => simp at h; subst h; simp [convAll]
  | succ j => simp at h; simp only [List.take_succ_cons, convAll, List.cons_append]; rw [ih h]

theorem conv_eq (y : S26) : conv y = ⟨y.f0, y.f1, y.f2, y.f3, y.f4, y.f5, convAll y.f6⟩ := by cases y; rfl
theorem info35 : (Try.prog.info? 35).map (fun i => (i.zero, i.size, i.bytes)) = some (some (.agg #[.int .i64 0, .bool false, .int .i64 0, .int .u64 0, .string ⟨#[]⟩, .slice none 0 0, .slice none 0 0]), 7, 96) := by kernel_rfl
end Go.Proofs.Ytjnookhdiolhgaa

namespace Go.Proofs.Ytjnookhdiolhgaa
set_option linter.unusedVariables false
set_option linter.unusedSimpArgs false
open Go.RowKit Go.Proofs.YtjnookhdiolhgaaW.PrintWords
open PAll (S26)

/-- A sign that may begin what has parts. -/
def isO (m : Int) : Bool := (decide (144 ≤ m) && decide (m ≤ 191)) || (decide (212 ≤ m) && decide (m ≤ 221))
def opensL (xs : List Int) : Nat := (xs.filter isO).length
theorem opensL_drop (xs : List Int) (k : Nat) : opensL (xs.drop k) ≤ opensL xs := ((List.drop_sublist k xs).filter isO).length_le
theorem mark_opens : ∀ m : Fin 256, ((mark (m.val : Int)).1 = 4 ∨ (mark (m.val : Int)).1 = 6 ∨ (mark (m.val : Int)).1 = 7) → isO (m.val : Int) = true := by decide +kernel

/-- The value that a token is. -/
def tv (t : TKN) : S26 :=
 if t.c = 1 then ⟨2, false, t.i, 0, ⟨#[]⟩, [], []⟩ else if t.c = 2 then ⟨3, false, 0, t.f, ⟨#[]⟩, [], []⟩ else if t.c = 3 then ⟨4, false, 0, 0, t.s, [], []⟩ else if t.c = 5 then ⟨5, false, 0, 0, t.s, [], []⟩
 else if t.c = 8 then ⟨0, false, 0, 0, ⟨#[]⟩, [], []⟩ else ⟨1, t.b, 0, 0, ⟨#[]⟩, [], []⟩
/-- The kind of what has parts. -/
def tkk (c : Int) : Int := if c = 4 then 8 else c
def tkOk (xs : List Int) (T : TS) : Prop :=
 match T with
 | .bad => tok xs = .bad
 | .wild => tok xs = .wild
 | .ok t r => (t.c = 0 ∧ tok xs = .bad) ∨ ((t.c = 1 ∨ t.c = 2 ∨ t.c = 3 ∨ t.c = 5 ∨ t.c = 8 ∨ t.c = 9 ∨ t.c = 10) ∧ t.n = 0 ∧ tok xs = .val (tv t) r ∧ ∃ k, r = xs.drop k) ∨
  ((t.c = 4 ∨ t.c = 6 ∨ t.c = 7) ∧ ∃ n : Nat, t.n = n ∧ tok xs = .opn (tkk t.c) t.g n r ∧ opensL r + 1 ≤ opensL xs ∧ ∃ k, r = xs.drop k)
theorem int_val {l s : Int} {q r : List Int} {x : S26} (h : intM l s q = .val x r) : ∃ n, x = vI n := by
 have hk : ∀ g p, tkInt g p = .val x r → ∃ n, x = vI n := fun g p h => by cases p with | none => cases h | some p => injection h with h _; exact ⟨_, h.symm⟩
 unfold intM at h
 split at h
 ·injection h with h _; exact ⟨_, h.symm⟩
 ·split at h
  ·exact hk _ _ h
  ·split at h
   ·exact hk _ _ h
   ·split at h
    ·exact hk _ _ h
    ·exact hk _ _ h
theorem isO_mark {m t s l : Int} (h0 : 0 ≤ m) (h1 : m ≤ 255) (hm : mark m = (t, s, l)) (ht : t = 4 ∨ t = 6 ∨ t = 7) : isO m = true := by
 have h := mark_opens ⟨m.toNat, by omega⟩
 simp only [Int.toNat_of_nonneg h0, hm] at h
 exact h ht
theorem tks_tok (xs : List Int) (hb : Bytes xs) : tkOk xs (tks xs) := by
 cases xs with
 | nil => exact rfl
 | cons m q =>
  have hm01 := hb m (by simp)
  obtain ⟨t, s, l, hm, hmk, _, he⟩ := mark_all m hm01.1 hm01.2
  have hks : tks (m :: q) = tksM t s l q := by show tksM (mark m).1 (mark m).2.1 (mark m).2.2 q = _; rw [hm]
  have hto := he q
  have hsuf := tokM_suf t s l q
  rw [hks]
  have hop : ∀ r k, (t = 4 ∨ t = 6 ∨ t = 7) → r = q.drop k → opensL r + 1 ≤ opensL (m :: q) ∧ ∃ k, r = (m :: q).drop k := by
   intro r k ht hr
   have h1 := isO_mark hm01.1 hm01.2 hm ht
   have h2 := opensL_drop q k
   rw [← hr] at h2
   refine ⟨?_, k + 1, hr⟩
   unfold opensL at *
   rw [List.filter_cons, if_pos h1, List.length_cons]
   omega
  rcases MK_cases hmk with ⟨rfl, _⟩ | ⟨rfl, rfl, rfl⟩ | ⟨rfl, hk⟩ | ⟨rfl, rfl, hk⟩ | ⟨rfl, rfl, kk, rfl, hk⟩ | ⟨rfl, hk⟩ | ⟨rfl, hk⟩ | ⟨rfl, rfl, rfl⟩ | ⟨rfl, rfl, rfl⟩ | ⟨rfl, rfl, rfl⟩ | ⟨rfl, rfl, rfl⟩
  ·show tkOk (m :: q) (tkv 1 (tokM 1 s l q))
   cases h : tokM 1 s l q with
   | bad => exact hto.trans h
   | wild => exact hto.trans h
   | opn a b c d => exact (intM_no_opn (show intM l s q = _ from h)).elim
   | val x r =>
    obtain ⟨n, rfl⟩ := int_val (show intM l s q = _ from h)
    rw [h] at hsuf
    obtain ⟨k, hk⟩ := hsuf
    exact .inr (.inl ⟨.inl rfl, rfl, hto.trans h, k + 1, hk⟩)
  ·show tkOk (m :: q) (tkv 2 (tokM 2 0 8 q))
   cases h : tokM 2 0 8 q with
   | bad => exact hto.trans h
   | wild => exact hto.trans h
   | opn a b c d =>
    have h : tkFloat (sizedN 8 q) = .opn a b c d := h
    cases e : sizedN 8 q <;> rw [e] at h <;> cases h
   | val x r =>
    have hx : ∃ n, x = vF n := by
     have h : tkFloat (sizedN 8 q) = .val x r := h
     cases e : sizedN 8 q with
     | none => rw [e] at h; cases h
     | some p => rw [e] at h; injection h with h _; exact ⟨_, h.symm⟩
    obtain ⟨n, rfl⟩ := hx
    rw [h] at hsuf
    obtain ⟨k, hk⟩ := hsuf
    exact .inr (.inl ⟨.inr (.inl rfl), rfl, hto.trans h, k + 1, hk⟩)
  ·show tkOk (m :: q) (tkv 3 (tokM 3 s l q))
   cases h : tokM 3 s l q with
   | bad => exact hto.trans h
   | wild => exact hto.trans h
   | opn a b c d => exact (str_no_opn (show tkStr 4 (lenQ l s q) = _ from h)).elim
   | val x r =>
    have hx := sp_val (show tkStr 4 (lenQ l s q) = _ from h)
    rw [h] at hsuf
    obtain ⟨k, hk⟩ := hsuf
    refine .inr (.inl ⟨.inr (.inr (.inl rfl)), rfl, ?_, k + 1, hk⟩)
    refine (hto.trans h).trans ?_
    congr 1
  ·show tkOk (m :: q) (tkv 4 (tokM 4 s 0 q))
   cases q with
   | nil => exact hto
   | cons g q2 =>
    obtain ⟨h1, h2⟩ := hop q2 1 (.inl rfl) rfl
    exact .inr (.inr ⟨.inl rfl, s.toNat, rfl, hto, h1, h2⟩)
  ·show tkOk (m :: q) (tkv 5 (tokM 5 0 (kk : Int) q))
   cases h : tokM 5 0 (kk : Int) q with
   | bad => exact hto.trans h
   | wild => exact hto.trans h
   | opn a b c d => exact (str_no_opn (show tkStr 5 (lenQ (kk : Int) 0 q) = _ from h)).elim
   | val x r =>
    have hx := sp_val (show tkStr 5 (lenQ (kk : Int) 0 q) = _ from h)
    rw [h] at hsuf
    obtain ⟨k, hk⟩ := hsuf
    refine .inr (.inl ⟨.inr (.inr (.inr (.inl rfl))), rfl, ?_, k + 1, hk⟩)
    refine (hto.trans h).trans ?_
    congr 1
  ·show tkOk (m :: q) (tkv 6 (tokM 6 s l q))
   have e : tokM 6 s l q = tkOpn 6 (lenQ l s q) := rfl
   rw [e] at hsuf hto ⊢
   cases h : lenQ l s q with
   | none => rw [h] at hto; exact hto
   | some p =>
    rw [h] at hto hsuf
    obtain ⟨k, hk⟩ := hsuf
    obtain ⟨h1, h2⟩ := hop p.2 k (.inr (.inl rfl)) hk
    exact .inr (.inr ⟨.inr (.inl rfl), p.1.toNat, rfl, hto, h1, h2⟩)
  ·show tkOk (m :: q) (tkv 7 (tokM 7 s l q))
   have e : tokM 7 s l q = tkOpn 7 (lenQ l s q) := rfl
   rw [e] at hsuf hto ⊢
   cases h : lenQ l s q with
   | none => rw [h] at hto; exact hto
   | some p =>
    rw [h] at hto hsuf
    obtain ⟨k, hk⟩ := hsuf
    obtain ⟨h1, h2⟩ := hop p.2 k (.inr (.inr rfl)) hk
    exact .inr (.inr ⟨.inr (.inr rfl), p.1.toNat, rfl, hto, h1, h2⟩)
  ·exact .inr (.inl ⟨.inr (.inr (.inr (.inr (.inl rfl)))), rfl, hto, 1, rfl⟩)
  ·exact .inr (.inl ⟨.inr (.inr (.inr (.inr (.inr (.inl rfl))))), rfl, hto, 1, rfl⟩)
  ·exact .inr (.inl ⟨.inr (.inr (.inr (.inr (.inr (.inr rfl))))), rfl, hto, 1, rfl⟩)
  ·exact .inl ⟨rfl, hto⟩

/-- What unpack says: nothing, that there is no value, a value, what is behind it, and the steps that are left. -/
inductive SUR where
 | opn : SUR
 | bad : SUR
 | ok : S26 → List Int → Nat → SUR
inductive SURs where
 | opn : SURs
 | bad : SURs
 | ok : List ByteArray → List S26 → List Int → Nat → SURs
def SURs.pre (ks : List ByteArray) (x : S26) : SURs → SURs
 | .opn => .opn
 | .bad => .bad
 | .ok keys kids r n => .ok (ks ++ keys) (x :: kids) r n
def suRows (p : Nat → List Int → SUR) (m : Bool) : Nat → Nat → List Int → SURs
 | 0, n, r => .ok [] [] r n
 | k + 1, n, r =>
  if m then
   match tks r with
   | .bad => .bad
   | .wild => .opn
   | .ok t r1 => if t.c ≠ 3 then .opn else match p n r1 with
    | .opn => .opn
    | .bad => .bad
    | .ok x r2 n2 => (suRows p m k n2 r2).pre [t.s] x
  else
   match p n r with
   | .opn => .opn
   | .bad => .bad
   | .ok x r2 n2 => (suRows p m k n2 r2).pre [] x
def su : Nat → Nat → List Int → SUR
 | 0, _, _ => .opn
 | _ + 1, 0, _ => .opn
 | f + 1, n + 1, xs => match tks xs with
  | .bad => .bad
  | .wild => .opn
  | .ok t r => if 1000 < t.n then .opn else if t.c = 0 then .bad else if t.c = 4 ∨ t.c = 6 ∨ t.c = 7 then
    match suRows (su f) (t.c == 7) t.n.toNat n r with
    | .opn => .opn
    | .bad => .bad
    | .ok keys kids r2 n2 => .ok ⟨tkk t.c, false, t.g, 0, ⟨#[]⟩, keys, kids⟩ r2 n2
   else .ok (tv t) r n
theorem tks_c {m : Int} {q r : List Int} {t : TKN} (h : tks (m :: q) = .ok t r) : t.c = (mark m).1 := by
 change (if (mark m).1 = 0 then TS.ok tk0 q else tkv (mark m).1 (tokM (mark m).1 (mark m).2.1 (mark m).2.2 q)) = TS.ok t r at h
 by_cases h0 : (mark m).1 = 0
 ·rw [if_pos h0] at h
  injection h with h _
  rw [← h, h0]
  rfl
 ·rw [if_neg h0] at h
  cases hk : tokM (mark m).1 (mark m).2.1 (mark m).2.2 q with
  | bad => rw [hk] at h; cases h
  | wild => rw [hk] at h; cases h
  | val x r => rw [hk] at h; injection h with h _; rw [← h]
  | opn a b c d => rw [hk] at h; injection h with h _; rw [← h]
def keyOk (xs : List Int) : TS → Prop
 | .bad => ∃ c, key xs = .bad c ∧ (c = 1 ∨ c = 3)
 | .wild => True
 | .ok t r => t.c = 3 → key xs = .ok t.s r ∧ ∃ k, r = xs.drop k
theorem tks_key (xs : List Int) (hb : Bytes xs) : keyOk xs (tks xs) := by
 have h := tks_tok xs hb
 cases xs with
 | nil => exact ⟨1, rfl, .inl rfl⟩
 | cons m q =>
  have hm01 := hb m (by simp)
  obtain ⟨t, s, l, hm, hmk, hst, he⟩ := mark_all m hm01.1 hm01.2
  cases hT : tks (m :: q) with
  | wild => trivial
  | bad =>
   rw [hT] at h
   have h : tok (m :: q) = .bad := h
   by_cases hs : isStr m = true
   ·exact ⟨1, by unfold key; simp only [hs, if_true, h], .inl rfl⟩
   ·exact ⟨3, by unfold key; simp only [hs, if_false, Bool.false_eq_true], .inr rfl⟩
  | ok tk r =>
   intro h3
   have hc := tks_c hT
   rw [hm, h3] at hc
   have hc : (3 : Int) = t := hc
   rw [hT] at h
   rcases h with ⟨h1, _⟩ | ⟨h1, _, h2, hk⟩ | ⟨h1, _⟩
   ·omega
   ·refine ⟨?_, hk⟩
    have hs : isStr m = true := by rw [hst, ← hc]; rfl
    unfold key
    simp only [hs, if_true, h2]
    congr 1
    unfold tv
    rw [if_neg (by omega), if_neg (by omega), if_pos h3]
   ·omega
/-- What unpack says is what parse says. -/
def SuSays (S : SUR) (P : PR) (n : Nat) (xs : List Int) : Prop :=
 match S with
 | .opn => True
 | .bad => ∃ c, P = .bad c ∧ (c = 1 ∨ c = 3)
 | .ok x r n' => P = .ok x r ∧ n' < n ∧ ∃ k, r = xs.drop k
def SusSays (S : SURs) (P : PRs) (n : Nat) (xs : List Int) : Prop :=
 match S with
 | .opn => True
 | .bad => ∃ c, P = .bad c ∧ (c = 1 ∨ c = 3)
 | .ok ks ls r n' => P = .ok ks ls r ∧ n' ≤ n ∧ ∃ k, r = xs.drop k
theorem rows_says (p : Nat → List Int → SUR) (P : List Int → PR) (m : Bool) (g : Nat) (B : Nat) (ih : ∀ n xs, Bytes xs → opensL xs ≤ B → n ≤ g → SuSays (p n xs) (P xs) n xs) :
  ∀ (k n : Nat) (r : List Int), Bytes r → opensL r ≤ B → n ≤ g → SusSays (suRows p m k n r) (rows P m k r) n r := by
 intro k
 induction k with
 | zero => intro n r _ _ _; exact ⟨rfl, Nat.le_refl _, 0, rfl⟩
 | succ k ihk =>
  intro n r hb ho hn
  have main : ∀ (r1 : List Int) (ks : List ByteArray) (j : Nat), r1 = r.drop j →
    SusSays (match p n r1 with | .opn => .opn | .bad => .bad | .ok x r2 n2 => (suRows p m k n2 r2).pre ks x) (match P r1 with | .wild => .wild | .bad c => .bad c | .ok x r2 => (rows P m k r2).pre ks x) n r := by
   intro r1 ks j hj
   have hb1 : Bytes r1 := by rw [hj]; exact hb.drop j
   have ho1 : opensL r1 ≤ B := by rw [hj]; exact Nat.le_trans (opensL_drop r j) ho
   have h := ih n r1 hb1 ho1 hn
   cases hp : p n r1 with
   | opn => trivial
   | bad =>
    rw [hp] at h
    obtain ⟨c, h1, h2⟩ := h
    rw [h1]
    exact ⟨c, rfl, h2⟩
   | ok x r2 n2 =>
    rw [hp] at h
    obtain ⟨h1, h2, k2, h3⟩ := h
    rw [h1]
    have hb2 : Bytes r2 := by rw [h3]; exact hb1.drop k2
    have ho2 : opensL r2 ≤ B := by rw [h3]; exact Nat.le_trans (opensL_drop r1 k2) ho1
    have h := ihk n2 r2 hb2 ho2 (by omega)
    simp only
    cases hs : suRows p m k n2 r2 with
    | opn => trivial
    | bad =>
     rw [hs] at h
     obtain ⟨c, h4, h5⟩ := h
     rw [h4]
     exact ⟨c, rfl, h5⟩
    | ok ks' ls' r3 n3 =>
     rw [hs] at h
     obtain ⟨h4, h5, k3, h6⟩ := h
     rw [h4]
     exact ⟨rfl, by omega, j + k2 + k3, by rw [h6, h3, hj, List.drop_drop, List.drop_drop]; congr 1; omega⟩
  unfold suRows rows
  cases m with
  | false => exact main r [] 0 rfl
  | true =>
   simp only [if_true]
   have hk := tks_key r hb
   cases hT : tks r with
   | wild => trivial
   | bad =>
    rw [hT] at hk
    obtain ⟨c, h1, h2⟩ := hk
    rw [h1]
    exact ⟨c, rfl, h2⟩
   | ok t r1 =>
    rw [hT] at hk
    simp only
    by_cases h3 : t.c = 3
    ·obtain ⟨h1, j, h2⟩ := hk h3
     rw [if_neg (by simp [h3]), h1]
     exact main r1 [t.s] j h2
    ·rw [if_pos h3]
     trivial
theorem su_parse : ∀ (f n : Nat) (xs : List Int) (d : Int) (g : Nat), Bytes xs → 0 ≤ d → d + opensL xs ≤ 1000 → n ≤ g → SuSays (su f n xs) (parse g d xs) n xs := by
 intro f
 induction f with
 | zero => intro n xs d g _ _ _ _; trivial
 | succ f ih =>
  intro n xs d g hb hd0 hd hg
  cases n with
  | zero => trivial
  | succ n =>
   obtain ⟨g, rfl⟩ : ∃ g', g = g' + 1 := ⟨g - 1, by omega⟩
   rw [parse_fin (by omega)]
   have h := tks_tok xs hb
   unfold su
   cases hT : tks xs with
   | wild => trivial
   | bad =>
    rw [hT] at h
    have h : tok xs = .bad := h
    rw [h]
    exact ⟨1, rfl, .inl rfl⟩
   | ok t r =>
    rw [hT] at h
    simp only
    by_cases hN : 1000 < t.n
    ·rw [if_pos hN]; trivial
    rw [if_neg hN]
    rcases h with ⟨h1, h2⟩ | ⟨h1, h0, h2, j, hj⟩ | ⟨h1, nn, h0, h2, h3, j, hj⟩
    ·rw [if_pos h1, h2]
     exact ⟨1, rfl, .inl rfl⟩
    ·rw [if_neg (by omega), if_neg (by omega), h2]
     exact ⟨rfl, Nat.lt_succ_self n, j, hj⟩
    ·rw [if_neg (by omega), if_pos h1, h2, h0, Int.toNat_natCast]
     have hm : (tkk t.c == 7) = (t.c == 7) := by
      unfold tkk
      by_cases h4 : t.c = 4
      ·rw [if_pos h4, h4]; rfl
      ·rw [if_neg h4]
     simp only [fin]
     rw [hm]
     have hb1 : Bytes r := by rw [hj]; exact hb.drop j
     have hr := rows_says (su f) (parse g (d + 1)) (t.c == 7) g (999 - d).toNat (fun n' xs' hb' ho' hn' => ih n' xs' (d + 1) g hb' (by omega) (by omega) hn') nn n r hb1 (by omega) (by omega)
     cases hs : suRows (su f) (t.c == 7) nn n r with
     | opn => trivial
     | bad =>
      rw [hs] at hr
      obtain ⟨c, h4, h5⟩ := hr
      rw [h4]
      exact ⟨c, rfl, h5⟩
     | ok ks ls r2 n2 =>
      rw [hs] at hr
      obtain ⟨h4, h5, j2, h6⟩ := hr
      rw [h4]
      exact ⟨rfl, by omega, j + j2, by rw [h6, hj, List.drop_drop]⟩
/-- What came ahead. -/
def SURs.pres (keys : List ByteArray) (kids : List S26) : SURs → SURs
 | .opn => .opn
 | .bad => .bad
 | .ok ks ls r n => .ok (keys ++ ks) (kids ++ ls) r n
theorem sur_pres_nil (p : SURs) : p.pres [] [] = p := by cases p <;> rfl
theorem sur_pres_pre (p : SURs) (keys ks : List ByteArray) (kids : List S26) (x : S26) : (p.pre ks x).pres keys kids = p.pres (keys ++ ks) (kids ++ [x]) := by
 cases p with
 | opn => rfl
 | bad => rfl
 | ok a b c d => simp [SURs.pre, SURs.pres]
theorem suRows_kid {p : Nat → List Int → SUR} {k n : Nat} {r : List Int} : suRows p false (k + 1) n r = match p n r with
   | .opn => .opn
   | .bad => .bad
   | .ok x r2 n2 => (suRows p false k n2 r2).pre [] x := rfl
theorem suRows_key {p : Nat → List Int → SUR} {k n : Nat} {r : List Int} : suRows p true (k + 1) n r = match tks r with
   | .bad => .bad
   | .wild => .opn
   | .ok t r1 => if t.c ≠ 3 then .opn else match p n r1 with
    | .opn => .opn
    | .bad => .bad
    | .ok x r2 n2 => (suRows p true k n2 r2).pre [t.s] x := rfl
theorem tks_le2 {xs r : List Int} {t : TKN} (h : tks xs = .ok t r) : r.length ≤ xs.length := by
 cases xs with
 | nil => cases h
 | cons m q =>
  change (if (mark m).1 = 0 then TS.ok tk0 q else tkv (mark m).1 (tokM (mark m).1 (mark m).2.1 (mark m).2.2 q)) = TS.ok t r at h
  rw [List.length_cons]
  by_cases h0 : (mark m).1 = 0
  ·rw [if_pos h0] at h
   injection h with _ h
   subst h
   omega
  ·rw [if_neg h0] at h
   have hl := tokM_le (mark m).1 (mark m).2.1 (mark m).2.2 q
   generalize tokM (mark m).1 (mark m).2.1 (mark m).2.2 q = k at h hl
   cases k with
   | bad => cases h
   | wild => cases h
   | val x r2 =>
    injection h with _ h
    subst h
    have hl : r2.length ≤ q.length := hl
    omega
   | opn a b c r2 =>
    injection h with _ h
    subst h
    have hl : r2.length ≤ q.length := hl
    omega
theorem suRows_le (p : Nat → List Int → SUR) (m : Bool) (hp : ∀ n xs x r n', p n xs = .ok x r n' → n' ≤ n ∧ r.length ≤ xs.length) :
  ∀ (k n : Nat) (r : List Int) (ks : List ByteArray) (ls : List S26) (r2 : List Int) (n2 : Nat), suRows p m k n r = .ok ks ls r2 n2 → n2 ≤ n ∧ r2.length ≤ r.length := by
 intro k
 induction k with
 | zero => intro n r ks ls r2 n2 h; injection h with _ _ h1 h2; subst h1; subst h2; exact ⟨Nat.le_refl _, Nat.le_refl _⟩
 | succ k ihk =>
  intro n r ks ls r2 n2 h
  have main : ∀ (r1 : List Int) (kk : List ByteArray), r1.length ≤ r.length → (match p n r1 with | .opn => SURs.opn | .bad => .bad | .ok x r2 n2 => (suRows p m k n2 r2).pre kk x) = .ok ks ls r2 n2 → n2 ≤ n ∧ r2.length ≤ r.length := by
   intro r1 kk hr1 h
   cases hq : p n r1 with
   | opn => rw [hq] at h; cases h
   | bad => rw [hq] at h; cases h
   | ok x r3 n3 =>
    rw [hq] at h
    simp only at h
    have h3 := hp n r1 x r3 n3 hq
    cases hs : suRows p m k n3 r3 with
    | opn => rw [hs] at h; cases h
    | bad => rw [hs] at h; cases h
    | ok a b r4 n4 =>
     rw [hs] at h
     injection h with _ _ h1 h2
     subst h1
     subst h2
     have h4 := ihk n3 r3 a b r4 n4 hs
     omega
  unfold suRows at h
  cases m with
  | false => exact main r [] (Nat.le_refl _) h
  | true =>
   simp only [if_true] at h
   cases hT : tks r with
   | wild => rw [hT] at h; cases h
   | bad => rw [hT] at h; cases h
   | ok t r1 =>
    rw [hT] at h
    simp only at h
    by_cases h3 : t.c ≠ 3
    ·rw [if_pos h3] at h; cases h
    ·rw [if_neg h3] at h
     exact main r1 [t.s] (tks_le2 hT) h
theorem su_le : ∀ (f n : Nat) (xs : List Int) (x : S26) (r : List Int) (n' : Nat), su f n xs = .ok x r n' → n' ≤ n ∧ r.length ≤ xs.length := by
 intro f
 induction f with
 | zero => intro n xs x r n' h; cases h
 | succ f ih =>
  intro n xs x r n' h
  cases n with
  | zero => cases h
  | succ n =>
   unfold su at h
   cases hT : tks xs with
   | wild => rw [hT] at h; cases h
   | bad => rw [hT] at h; cases h
   | ok t r1 =>
    rw [hT] at h
    simp only at h
    have hl := tks_le2 hT
    by_cases hN : 1000 < t.n
    ·rw [if_pos hN] at h; cases h
    rw [if_neg hN] at h
    by_cases h0 : t.c = 0
    ·rw [if_pos h0] at h; cases h
    rw [if_neg h0] at h
    by_cases h4 : t.c = 4 ∨ t.c = 6 ∨ t.c = 7
    ·rw [if_pos h4] at h
     cases hs : suRows (su f) (t.c == 7) t.n.toNat n r1 with
     | opn => rw [hs] at h; cases h
     | bad => rw [hs] at h; cases h
     | ok a b r4 n4 =>
      rw [hs] at h
      injection h with _ h1 h2
      subst h1
      subst h2
      have := suRows_le (su f) (t.c == 7) ih _ _ _ _ _ _ _ hs
      omega
    ·rw [if_neg h4] at h
     injection h with _ h1 h2
     subst h1
     subst h2
     omega
end Go.Proofs.Ytjnookhdiolhgaa

namespace Go.Proofs.Ytjnookhdiolhgaa
set_option linter.unusedVariables false
set_option linter.unusedSimpArgs false
open Go.RowKit Go.Proofs.YtjnookhdiolhgaaW.PrintWords
open PAll (S26 k26 S35 k35)

def z35v : Value := .agg #[.int .i64 0, .bool false, .int .i64 0, .int .u64 0, .string ⟨#[]⟩, .slice none 0 0, .slice none 0 0]
/-- What unpack answers. -/
def UpR (S : SUR) (w : World) (sb : Nat) (e : Ending) (w' : World) : Prop :=
 w.grownBy w' (some sb) ∧ match S with
 | .opn => e = .returned (.tuple #[z35v, .string ⟨#[]⟩, .bool false, .int .i64 2])
 | .bad => e = .returned (.tuple #[z35v, .string ⟨#[]⟩, .bool false, .int .i64 1])
 | .ok x r n => ∃ (v5 v6 : Value) (str : ByteArray), e = .returned (.tuple #[.agg #[.int .i64 x.f0, .bool x.f1, .int .i64 x.f2, .int .u64 x.f3, .string x.f4, v5, v6], .string str, .bool true, .int .i64 1]) ∧ bytesOf str = r ∧
   Kd.string.R 9 w' w.heap.size (fun k => w.heap.size ≤ k) v5 x.f5 ∧ k35.R 35 w' w.heap.size (fun k => w.heap.size ≤ k ∧ some k ≠ v5.ownBlock) v6 (convAll x.f6) ∧ w'.heap[sb]? = some (.cells #[.int .i64 n] 3 (0, 0))
def UpSaid (f : Nat) : Prop :=
 ∀ (n : Nat) (s : ByteArray) (sb : Nat) (w : World), n < f → n ≤ 5000 → s.size ≤ 2000 → w.heap[sb]? = some (.cells #[.int .i64 n] 3 (0, 0)) →
  Calls Try.prog 73 #[.string s, .pointer (some ⟨sb, 0, none⟩)] w fun e w' => UpR (su f n (bytesOf s)) w sb e w'

def z35o : Obj := .cells #[.int .i64 0, .bool false, .int .i64 0, .int .u64 0, .string ⟨#[]⟩, .slice none 0 0, .slice none 0 0] 35
/-- unpack's variables behind its token. -/
structure US (w wr : World) (sb tb : Nat) (n : Int) (t : TKN) : Prop where
 gr : w.grownBy wr (some sb)
 bs : wr.heap[sb]? = some (.cells #[.int .i64 n] 3 (0, 0))
 b4 : wr.heap[w.heap.size]? = some z35o
 bt : wr.heap[tb]? = some (.cells (B57 t) 57 (0, 0))
 lo : w.heap.size < tb
/-- Its own world, ahead of the token. -/
def UW (w : World) (sb : Nat) (n : Int) : World := (w.setCell ⟨sb, 0, none⟩ (.int .i64 n)).alloc z35o
theorem UW_gr (w : World) (sb : Nat) (n : Int) : w.grownBy (UW w sb n) (some sb) := grown_trans' (grown_set (World.grownBy.refl w _) 0 _) (World.grownBy_alloc _ _ _)
theorem UW_size (w : World) (sb : Nat) (n : Int) : (UW w sb n).heap.size = w.heap.size + 1 := by unfold UW; rw [World.size_alloc]; simp [World.setCell]
theorem UW_b4 (w : World) (sb : Nat) (n : Int) : (UW w sb n).heap[w.heap.size]? = some z35o := by
 have h := heap_alloc_new (w.setCell ⟨sb, 0, none⟩ (.int .i64 n)) z35o
 have e : (w.setCell ⟨sb, 0, none⟩ (.int .i64 n)).heap.size = w.heap.size := by simp [World.setCell]
 rw [e] at h
 exact h
theorem UW_bs (w : World) (sb : Nat) (n m : Int) (h : w.heap[sb]? = some (.cells #[.int .i64 m] 3 (0, 0))) : (UW w sb n).heap[sb]? = some (.cells #[.int .i64 n] 3 (0, 0)) := by
 have h1 := blk_put h 0 (.int .i64 n) (cs' := #[.int .i64 n]) rfl
 have h2 := blk_lt h1
 exact ((below_alloc (Below.refl _ _) z35o).block sb h2).trans h1
theorem US.start {w w1 : World} {sb : Nat} {n m : Int} (h : w.heap[sb]? = some (.cells #[.int .i64 m] 3 (0, 0))) (hb : Below (UW w sb n).heap.size (UW w sb n) w1) (t : TKN) : US w (w1.alloc (.cells (B57 t) 57)) sb w1.heap.size n t := by
 have hs := hb.size
 have hs2 := UW_size w sb n
 have hl := blk_lt h
 have hb2 := hb.trans ((below_alloc (Below.refl w1.heap.size w1) (.cells (B57 t) 57)).mono hs)
 refine ⟨grown_trans' (UW_gr w sb n) (grown_of_below hb2 _), (hb2.block _ (by omega)).trans (UW_bs w sb n m h), (hb2.block _ (by omega)).trans (UW_b4 w sb n), heap_alloc_new w1 _, by omega⟩

theorem fill35 {w : World} {g : Nat} {a b c d e f h : Value} {a' b' c' d' e' f' h' : Value} (hb : w.heap[g]? = some (.cells #[a, b, c, d, e, f, h] 35 (0, 0))) :
  (set7 w g a' b' c' d' e' f' h').heap[g]? = some (.cells #[a', b', c', d', e', f', h'] 35 (0, 0)) :=
 blk_put (blk_put (blk_put (blk_put (blk_put (blk_put (blk_put (cs' := #[a', b, c, d, e, f, h]) hb 0 _ rfl) (cs' := #[a', b', c, d, e, f, h]) 1 _ rfl) (cs' := #[a', b', c', d, e, f, h]) 2 _ rfl)
  (cs' := #[a', b', c', d', e, f, h]) 3 _ rfl) (cs' := #[a', b', c', d', e', f, h]) 4 _ rfl) (cs' := #[a', b', c', d', e', f', h]) 5 _ rfl) 6 _ rfl
/-- The result is stored. -/
theorem US.fill {w wr : World} {sb tb : Nat} {n : Int} {t : TKN} (h : US w wr sb tb n t) (hlt : sb < w.heap.size) (a b c d e f k : Value) :
  (((((((wr.setCell ⟨w.heap.size, 0, none⟩ a).setCell ⟨w.heap.size, 1, none⟩ b).setCell ⟨w.heap.size, 2, none⟩ c).setCell ⟨w.heap.size, 3, none⟩ d).setCell ⟨w.heap.size, 4, none⟩ e).setCell ⟨w.heap.size, 5, none⟩ f).setCell ⟨w.heap.size, 6, none⟩ k).heap[w.heap.size]? = some (.cells #[a, b, c, d, e, f, k] 35 (0, 0)) ∧
  w.grownBy (((((((wr.setCell ⟨w.heap.size, 0, none⟩ a).setCell ⟨w.heap.size, 1, none⟩ b).setCell ⟨w.heap.size, 2, none⟩ c).setCell ⟨w.heap.size, 3, none⟩ d).setCell ⟨w.heap.size, 4, none⟩ e).setCell ⟨w.heap.size, 5, none⟩ f).setCell ⟨w.heap.size, 6, none⟩ k) (some sb) ∧
  (((((((wr.setCell ⟨w.heap.size, 0, none⟩ a).setCell ⟨w.heap.size, 1, none⟩ b).setCell ⟨w.heap.size, 2, none⟩ c).setCell ⟨w.heap.size, 3, none⟩ d).setCell ⟨w.heap.size, 4, none⟩ e).setCell ⟨w.heap.size, 5, none⟩ f).setCell ⟨w.heap.size, 6, none⟩ k).heap[sb]? = some (.cells #[.int .i64 n] 3 (0, 0)) :=
 ⟨fill35 h.b4, grown_new7 h.gr _ _ _ _ _ _ _, (set7_far (by omega) a b c d e f k).trans h.bs⟩

set_option maxHeartbeats 8000000 in
set_option maxRecDepth 100000 in
theorem up_zero (f : Nat) (s : ByteArray) (sb : Nat) (w : World) (h : w.heap[sb]? = some (.cells #[.int .i64 (0 : Nat)] 3 (0, 0))) :
  Calls Try.prog 73 #[.string s, .pointer (some ⟨sb, 0, none⟩)] w fun e w' => UpR (su (f + 1) 0 (bytesOf s)) w sb e w' := by
 have c0 : w.cell? ⟨sb, 0, none⟩ = some (.int .i64 0) := blk_cell h 0
 have f0 := blk_frozen h 0
 have hlt := blk_lt h
 go_enter Try.func73, Try.ntmps73
 go_wp2_with fail
 refine bodyPost_ret (results_cttt rfl _ _ w.heap.size 35 _ (0, 0) _ rfl (UW_b4 w sb (-1)) Try.underlying35 rfl (by kernel_rfl)) rfl ?_
 exact ⟨UW_gr w sb (-1), rfl⟩
end Go.Proofs.Ytjnookhdiolhgaa

namespace Go.Proofs.Ytjnookhdiolhgaa
set_option linter.unusedVariables false
set_option linter.unusedSimpArgs false
open Go.RowKit Go.Proofs.YtjnookhdiolhgaaW.PrintWords
open PAll (S26 k26 S35 k35)

theorem convAll_snoc (l : List S26) (x : S26) : convAll (l ++ [x]) = convAll l ++ [conv x] := by
 induction l with
 | nil => rfl
 | cons y r ih => simp only [List.cons_append, convAll, ih]
theorem tks_g {xs r : List Int} {t : TKN} (h : tks xs = .ok t r) (hc : t.c = 6 ∨ t.c = 7) : t.g = 0 := by
 cases xs with
 | nil => cases h
 | cons m q =>
  have h1 := tks_c h
  change (if (mark m).1 = 0 then TS.ok tk0 q else tkv (mark m).1 (tokM (mark m).1 (mark m).2.1 (mark m).2.2 q)) = TS.ok t r at h
  rw [h1] at hc
  generalize (mark m).1 = c at h hc
  generalize (mark m).2.1 = s at h
  generalize (mark m).2.2 = l at h
  rcases hc with rfl | rfl
  ·rw [if_neg (by decide)] at h
   change tkv 6 (tkOpn 6 (lenQ l s q)) = _ at h
   cases hl : lenQ l s q with
   | none => rw [hl] at h; cases h
   | some p => rw [hl] at h; injection h with h _; rw [← h]
  ·rw [if_neg (by decide)] at h
   change tkv 7 (tkOpn 7 (lenQ l s q)) = _ at h
   cases hl : lenQ l s q with
   | none => rw [hl] at h; cases h
   | some p => rw [hl] at h; injection h with h _; rw [← h]
structure UL (w wr : World) (sb tb : Nat) (n : Int) (t : TKN) (k i : Int) (keys : List ByteArray) (kids : List S26) (v5 v6 : Value) : Prop where
 gr : w.grownBy wr (some sb)
 bs : wr.heap[sb]? = some (.cells #[.int .i64 n] 3 (0, 0))
 b4 : wr.heap[w.heap.size]? = some (.cells #[.int .i64 k, .bool false, .int .i64 i, .int .u64 0, .string ⟨#[]⟩, v5, v6] 35 (0, 0))
 bt : wr.heap[tb]? = some (.cells (B57 t) 57 (0, 0))
 lo : w.heap.size < tb
 sl : sb < w.heap.size
 r5 : Kd.string.R 9 wr (tb + 1) (fun q => tb + 1 ≤ q) v5 keys
 r6 : k35.R 35 wr (tb + 1) (fun q => tb + 1 ≤ q ∧ some q ≠ v5.ownBlock) v6 (convAll kids)
section
variable {w wr w2 W w1 : World} {sb tb : Nat} {n n2 : Int} {t : TKN} {k i : Int} {keys : List ByteArray} {kids : List S26} {v5 v6 v1 : Value}
theorem UL.far5 (h : UL w wr sb tb n t k i keys kids v5 v6) : ∀ q, v5.ownBlock = some q → tb + 1 ≤ q ∧ q < wr.heap.size := fun q hq => ⟨Kd.R_base h.r5 q hq, Kd.R_lt h.r5 q hq⟩
theorem UL.far6 (h : UL w wr sb tb n t k i keys kids v5 v6) : ∀ q, v6.ownBlock = some q → tb + 1 ≤ q ∧ q < wr.heap.size := fun q hq => ⟨Kd.R_base h.r6 q hq, Kd.R_lt h.r6 q hq⟩
theorem UL.size (h : UL w wr sb tb n t k i keys kids v5 v6) : tb + 1 ≤ wr.heap.size := blk_lt h.bt
/-- The callee went on (the steps' box was written, blocks are new). -/
theorem UL.call (h : UL w wr sb tb n t k i keys kids v5 v6) (hg : wr.grownBy w2 (some sb)) (hb : w2.heap[sb]? = some (.cells #[.int .i64 n2] 3 (0, 0))) : UL w w2 sb tb n2 t k i keys kids v5 v6 := by
 have hl := h.lo
 have hs := h.sl
 exact ⟨grown_trans' h.gr hg, hb, blk_grown h.b4 hg (by intro he; injection he with he; omega), blk_grown h.bt hg (by intro he; injection he with he; omega), hl, hs,
  Kd.R_grown h.r5 hg (fun q hq he => by injection he with he; omega), Kd.R_grown h.r6 hg (fun q hq he => by injection he with he; have := hq.1; omega)⟩
/-- Blocks are new. -/
theorem UL.below (h : UL w wr sb tb n t k i keys kids v5 v6) (hb : Below wr.heap.size wr w2) : UL w w2 sb tb n t k i keys kids v5 v6 :=
 h.call (grown_of_below hb _) ((hb.block sb (blk_lt h.bs)).trans h.bs)
theorem UL.ok6 (h : UL w wr sb tb n t k i keys kids v5 v6) (hs : wr.heap.size ≤ W.heap.size) :
  (∀ q, wr.heap.size ≤ q → (tb + 1 ≤ q ∧ some q ≠ v5.ownBlock) ∧ some q ≠ v6.ownBlock) ∧ (∀ q, W.heap.size ≤ q → tb + 1 ≤ q ∧ some q ≠ v5.ownBlock) := by
 have hz := h.size
 exact ⟨fun q hq => ⟨⟨by omega, fun he => by have := h.far5 q he.symm; omega⟩, fun he => by have := h.far6 q he.symm; omega⟩, fun q hq => ⟨by omega, fun he => by have := h.far5 q he.symm; omega⟩⟩
/-- A kid more. -/
theorem UL.kid {x : S26} (h : UL w W sb tb n t k i keys kids v5 v6) (hr1 : k35.R 35 w1 (tb + 1) (fun q => tb + 1 ≤ q ∧ some q ≠ v5.ownBlock) v1 (convAll kids ++ [conv x])) (hg1 : W.grownBy w1 v6.ownBlock) :
  UL w (w1.setCell ⟨w.heap.size, 6, none⟩ v1) sb tb n t k i keys (kids ++ [x]) v5 v1 := by
 have h6 : ∀ q, v6.ownBlock = some q → tb + 1 ≤ q := fun q hq => (h.far6 q hq).1
 have hl := h.lo
 have hs := h.sl
 have gr := h.gr
 have hgg : w.grownBy w1 (some sb) := ⟨hg1.os.trans gr.os, hg1.tape.trans gr.tape, hg1.output.trans gr.output, Nat.le_trans gr.size hg1.size, fun i hi hne => (hg1.block i (Nat.lt_of_lt_of_le hi gr.size) (fun he => by have := h6 _ he.symm; omega)).trans (gr.block i hi hne)⟩
 refine ⟨⟨hgg.os, hgg.tape, hgg.output, by simpa [World.setCell] using hgg.size, fun i hi hne => (Below.heap_setCell w1 _ v1 i (by show i ≠ w.heap.size; omega)).trans (hgg.block i hi hne)⟩,
  blk_far (p := ⟨w.heap.size, 6, none⟩) (blk_grown h.bs hg1 (fun he => by have := h6 _ he.symm; omega)) (by show sb ≠ w.heap.size; omega) _,
  blk_put (blk_grown h.b4 hg1 (fun he => by have := h6 _ he.symm; omega)) 6 v1 rfl,
  blk_far (p := ⟨w.heap.size, 6, none⟩) (blk_grown h.bt hg1 (fun he => by have := h6 _ he.symm; omega)) (by show tb ≠ w.heap.size; omega) _, hl, hs, ?_, ?_⟩
 ·exact Kd.R_far (Kd.R_over h.r5 h.r6 (by decide) hg1) (p := ⟨w.heap.size, 6, none⟩) (fun q hq => by show q ≠ w.heap.size; omega) v1
 ·rw [convAll_snoc]
  exact Kd.R_far hr1 (p := ⟨w.heap.size, 6, none⟩) (fun q hq => by show q ≠ w.heap.size; have := hq.1; omega) v1
/-- A key more. -/
theorem UL.key {s0 : ByteArray} (h : UL w W sb tb n t k i keys kids v5 v6) (hr1 : Kd.string.R 9 w1 (tb + 1) (fun q => tb + 1 ≤ q) v1 (keys ++ [s0])) (hg1 : W.grownBy w1 v5.ownBlock) (hat : v1.ownBlock = v5.ownBlock ∨ ∃ b, v1.ownBlock = some b ∧ W.heap.size ≤ b) :
  UL w (w1.setCell ⟨w.heap.size, 5, none⟩ v1) sb tb n t k i (keys ++ [s0]) kids v1 v6 := by
 have h5 : ∀ q, v5.ownBlock = some q → tb + 1 ≤ q := fun q hq => (h.far5 q hq).1
 have hl := h.lo
 have hs := h.sl
 have gr := h.gr
 have hgg : w.grownBy w1 (some sb) := ⟨hg1.os.trans gr.os, hg1.tape.trans gr.tape, hg1.output.trans gr.output, Nat.le_trans gr.size hg1.size, fun i hi hne => (hg1.block i (Nat.lt_of_lt_of_le hi gr.size) (fun he => by have := h5 _ he.symm; omega)).trans (gr.block i hi hne)⟩
 refine ⟨⟨hgg.os, hgg.tape, hgg.output, by simpa [World.setCell] using hgg.size, fun i hi hne => (Below.heap_setCell w1 _ v1 i (by show i ≠ w.heap.size; omega)).trans (hgg.block i hi hne)⟩,
  blk_far (p := ⟨w.heap.size, 5, none⟩) (blk_grown h.bs hg1 (fun he => by have := h5 _ he.symm; omega)) (by show sb ≠ w.heap.size; omega) _,
  blk_put (blk_grown h.b4 hg1 (fun he => by have := h5 _ he.symm; omega)) 5 v1 rfl,
  blk_far (p := ⟨w.heap.size, 5, none⟩) (blk_grown h.bt hg1 (fun he => by have := h5 _ he.symm; omega)) (by show tb ≠ w.heap.size; omega) _, hl, hs, ?_, ?_⟩
 ·exact Kd.R_far hr1 (p := ⟨w.heap.size, 5, none⟩) (fun q hq => by show q ≠ w.heap.size; omega) v1
 ·exact Kd.R_far (Kd.R_after h.r6 hg1 hat) (p := ⟨w.heap.size, 5, none⟩) (fun q hq => by show q ≠ w.heap.size; have := hq.1; omega) v1
/-- The result is stored, with what the box's rows are. -/
theorem UL.fill (h : UL w wr sb tb n t k i keys kids v5 v6) (a b c d e f g : Value) :
  (((((((wr.setCell ⟨w.heap.size, 0, none⟩ a).setCell ⟨w.heap.size, 1, none⟩ b).setCell ⟨w.heap.size, 2, none⟩ c).setCell ⟨w.heap.size, 3, none⟩ d).setCell ⟨w.heap.size, 4, none⟩ e).setCell ⟨w.heap.size, 5, none⟩ f).setCell ⟨w.heap.size, 6, none⟩ g).heap[w.heap.size]? = some (.cells #[a, b, c, d, e, f, g] 35 (0, 0)) ∧
  w.grownBy (((((((wr.setCell ⟨w.heap.size, 0, none⟩ a).setCell ⟨w.heap.size, 1, none⟩ b).setCell ⟨w.heap.size, 2, none⟩ c).setCell ⟨w.heap.size, 3, none⟩ d).setCell ⟨w.heap.size, 4, none⟩ e).setCell ⟨w.heap.size, 5, none⟩ f).setCell ⟨w.heap.size, 6, none⟩ g) (some sb) ∧
  (((((((wr.setCell ⟨w.heap.size, 0, none⟩ a).setCell ⟨w.heap.size, 1, none⟩ b).setCell ⟨w.heap.size, 2, none⟩ c).setCell ⟨w.heap.size, 3, none⟩ d).setCell ⟨w.heap.size, 4, none⟩ e).setCell ⟨w.heap.size, 5, none⟩ f).setCell ⟨w.heap.size, 6, none⟩ g).heap[sb]? = some (.cells #[.int .i64 n] 3 (0, 0)) ∧
  Kd.string.R 9 (((((((wr.setCell ⟨w.heap.size, 0, none⟩ a).setCell ⟨w.heap.size, 1, none⟩ b).setCell ⟨w.heap.size, 2, none⟩ c).setCell ⟨w.heap.size, 3, none⟩ d).setCell ⟨w.heap.size, 4, none⟩ e).setCell ⟨w.heap.size, 5, none⟩ f).setCell ⟨w.heap.size, 6, none⟩ g) w.heap.size (fun q => w.heap.size ≤ q) v5 keys ∧
  k35.R 35 (((((((wr.setCell ⟨w.heap.size, 0, none⟩ a).setCell ⟨w.heap.size, 1, none⟩ b).setCell ⟨w.heap.size, 2, none⟩ c).setCell ⟨w.heap.size, 3, none⟩ d).setCell ⟨w.heap.size, 4, none⟩ e).setCell ⟨w.heap.size, 5, none⟩ f).setCell ⟨w.heap.size, 6, none⟩ g) w.heap.size (fun q => w.heap.size ≤ q ∧ some q ≠ v5.ownBlock) v6 (convAll kids) := by
 have hl := h.lo
 have hs := h.sl
 refine ⟨fill35 h.b4, grown_new7 h.gr _ _ _ _ _ _ _, (set7_far (by omega) a b c d e f g).trans h.bs, ?_, ?_⟩
 ·exact Kd.R_lower (Kd.R_mono (far7R h.r5 (fun q (hq : tb + 1 ≤ q) => by omega) _ _ _ _ _ _ _) (fun q (hq : tb + 1 ≤ q) => by show w.heap.size ≤ q; omega)) (by omega)
 ·exact Kd.R_lower (Kd.R_mono (far7R h.r6 (fun q hq => by have := hq.1; omega) _ _ _ _ _ _ _) (fun q hq => ⟨by have := hq.1; omega, hq.2⟩)) (by omega)
/-- The loop begins. -/
theorem UL.start (h : US w wr sb tb n t) (hs : sb < w.heap.size) (k i : Int) :
  UL w (((((((wr.setCell ⟨w.heap.size, 0, none⟩ (.int .i64 k)).setCell ⟨w.heap.size, 1, none⟩ (.bool false)).setCell ⟨w.heap.size, 2, none⟩ (.int .i64 i)).setCell ⟨w.heap.size, 3, none⟩ (.int .u64 0)).setCell ⟨w.heap.size, 4, none⟩ (.string ⟨#[]⟩)).setCell ⟨w.heap.size, 5, none⟩ (.slice none 0 0)).setCell ⟨w.heap.size, 6, none⟩ (.slice none 0 0)) sb tb n t k i [] [] (.slice none 0 0) (.slice none 0 0) := by
 obtain ⟨a, b, c⟩ := h.fill hs (.int .i64 k) (.bool false) (.int .i64 i) (.int .u64 0) (.string ⟨#[]⟩) (.slice none 0 0) (.slice none 0 0)
 have hl := h.lo
 exact ⟨b, c, a, (set7_far (by omega) _ _ _ _ _ _ _).trans h.bt, hl, hs, Kd.R_nil _ _ _ _ _, Kd.R_nil _ _ _ _ _⟩
/-- The callee has failed: the box is filled anew. -/
theorem UL.stop (h : UL w wr sb tb n t k i keys kids v5 v6) (hg : wr.grownBy w2 (some sb)) (o : Obj) :
  (w2.alloc o).heap[w.heap.size]? = some (.cells #[.int .i64 k, .bool false, .int .i64 i, .int .u64 0, .string ⟨#[]⟩, v5, v6] 35 (0, 0)) ∧ w.grownBy (w2.alloc o) (some sb) := by
 have hs := h.sl
 have hb := blk_grown h.b4 hg (by intro he; injection he with he; omega)
 exact ⟨(Below.heap_alloc w2 o _ (blk_lt hb)).trans hb, grown_trans' (grown_trans' h.gr hg) (World.grownBy_alloc w2 o (some sb))⟩
end
end Go.Proofs.Ytjnookhdiolhgaa

namespace Go.Proofs.Ytjnookhdiolhgaa
set_option linter.unusedVariables false
set_option linter.unusedSimpArgs false
open Go.RowKit Go.Proofs.YtjnookhdiolhgaaW.PrintWords
open PAll (S26 k26 S35 k35)

set_option maxHeartbeats 8000000 in
set_option maxRecDepth 100000 in
theorem up_parts4 (f : Nat) (ih : UpSaid f) (n : Nat) (hnf : n < f) (s : ByteArray) (sb : Nat) (w : World) (hn : n ≤ 5000) (hs : s.size ≤ 2000) (r : List Int) (t : TKN) (hk : tks (bytesOf s) = .ok t r) (hc : t.c = 4) (h : w.heap[sb]? = some (.cells #[.int .i64 ((n + 1 : Nat) : Int)] 3 (0, 0))) :
  Calls Try.prog 73 #[.string s, .pointer (some ⟨sb, 0, none⟩)] w fun e w' => UpR (su (f + 1) (n + 1) (bytesOf s)) w sb e w' := by
 have c0 : w.cell? ⟨sb, 0, none⟩ = some (.int .i64 ((n : Int) + 1)) := blk_cell h 0
 have f0 := blk_frozen h 0
 have hlt := blk_lt h
 have HH := Aside0.mk h
 have HT := Aside0.mk (token_any s (UW w sb n) (by omega))
 have HTT := Aside0.mk (tks_tok (bytesOf s) (bytesOf_bytes s))
 obtain ⟨S, hS⟩ : ∃ S, su (f + 1) (n + 1) (bytesOf s) = S := ⟨_, rfl⟩
 rw [hS]
 unfold su at hS
 have HS := Aside0.mk hS
 clear h hS
 go_enter Try.func73, Try.ntmps73
 go_wp2_with fail
 refine HT.out.mono ?_
 rintro e w1 ⟨hb, hT⟩
 have HU := Aside0.mk (fun t => US.start HH.out hb t)
 have hlt1 : sb < w1.heap.size := by have := hb.size; have := UW_size w sb n; omega
 have hlt2 : w.heap.size < w1.heap.size := by have := hb.size; have := UW_size w sb n; omega
 clear HT hb HH c0 f0
 rw [hk] at hT
 obtain ⟨str, hstr, rfl⟩ := hT
 have hS := HS.out
 rw [hk] at hS
 simp only at hS
 have hTT := HTT.out
 rw [hk] at hTT
 obtain ⟨c, bb, i, f', ss, nn, g⟩ := t
 simp only at hS
 simp only [B57]
 have HSTR := Aside0.mk hstr
 have HK := Aside0.mk hk
 have HS1 := Aside0.mk hS
 have HTT1 := Aside0.mk hTT
 clear hk HS HTT hstr hS hTT
 go_upto_if 44 with (fail)
 refine wp_gen (F := fun wz => US w wz sb w1.heap.size n ⟨c, bb, i, f', ss, nn, g⟩) (HU.out ⟨c, bb, i, f', ss, nn, g⟩) ?_
 intro wz HZ
 obtain ⟨tb, htb⟩ : ∃ tb, w1.heap.size = tb := ⟨_, rfl⟩
 rw [htb] at HZ ⊢
 clear htb hlt1 hlt2 HU
 obtain ⟨b0, b1, b2, b3, b4, b5, b6, g0, g1, g2, g3, g4, g5, g6⟩ := box7f HZ.b4
 obtain ⟨d0, d1, d2, d3, d4, d5, d6⟩ := box7 HZ.bt
 have HE := Aside0.mk (HZ.fill hlt)
 have HUS := Aside0.mk HZ
 clear HZ
 have hS := HS1.out
 have HSL := Aside0.mk (show str.size ≤ 2000 by have h1 := tks_le2 HK.out; have h2 := bytesOf_length str; have h3 := bytesOf_length s; rw [HSTR.out] at h2; omega)
 clear HS1
 by_cases hbig : nn > 1000
 ·rw [if_pos hbig] at hS
  subst hS
  go_wp2_with fail
  refine bodyPost_ret (results_cttt rfl _ _ w.heap.size 35 _ (0, 0) _ rfl (HE.out _ _ _ _ _ _ _).1 Try.underlying35 rfl (by kernel_rfl)) rfl ?_
  exact ⟨(HE.out _ _ _ _ _ _ _).2.1, rfl⟩
 rw [if_neg hbig] at hS
 rcases HTT1.out with ⟨h1, _⟩ | ⟨h1, h0, -, -⟩ | ⟨h1, m, h0, -, -, -⟩
 ·simp only at h1 hc; omega
 ·simp only at h1 hc; omega
 ·simp only at h0 hc
  subst hc
  subst h0
  rw [if_neg (by decide), if_pos (by decide), show ((4 : Int) == 7) = false from rfl, Int.toNat_natCast] at hS
  have HS2 := Aside0.mk hS
  have HL0 := Aside0.mk (UL.start HUS.out hlt 8 (g))
  have hm : (m : Int) ≤ 1000 := by omega
  have hlo := HUS.out.lo
  have hn1 : ¬ (w.heap.size = tb) := by omega
  have hn2 : ¬ (tb = w.heap.size) := by omega
  clear hS HE HTT1 h1
  go_wp2_with fail
  go_loopg [0, 103] m (fun gk v0 v103 wr => ∃ (j n' : Nat) (b : ByteArray) (keys : List ByteArray) (kids : List S26) (v5 v6 : Value), v0 = .string b ∧ v103 = .int .u32 j ∧ Aside0 (gk = m - j ∧ j ≤ m ∧ n' ≤ n ∧ b.size ≤ 2000 ∧ kids.length = j ∧ suRows (su f) false m n r = (suRows (su f) false (m - j) n' (bytesOf b)).pres keys kids) ∧ Aside0 (UL w wr sb tb n' ⟨4, bb, i, f', ss, (m : Int), g⟩ 8 (g) keys kids v5 v6))
  case atStart => exact ⟨0, n, str, [], [], _, _, rfl, rfl, ⟨by simp, Nat.zero_le _, Nat.le_refl _, by have := HSL.out; omega, rfl, by rw [sur_pres_nil, HSTR.out]; rfl⟩, ⟨HL0.out⟩⟩
  case round =>
   clear HL0 HUS
   obtain ⟨j, n', b, keys, kids, v5, v6, rfl, rfl, HJ, HL⟩ := hrel
   obtain ⟨A5, c5, rfl⟩ := Kd.R_slice HL.out.r5
   obtain ⟨A6, c6, rfl⟩ := Kd.R_slice HL.out.r6
   obtain ⟨b0, b1, b2, b3, b4, b5, b6, g0, g1, g2, g3, g4, g5, g6⟩ := box7f HL.out.b4
   obtain ⟨d0, d1, d2, d3, d4, d5, d6⟩ := box7 HL.out.bt
   by_cases hj : j < m
   ·obtain ⟨q, hq⟩ : ∃ q, m - j = q + 1 := ⟨m - j - 1, by omega⟩
    have hst := HJ.out.2.2.2.2.2
    rw [hq, suRows_kid] at hst
    have HST := Aside0.mk hst
    have HQ := Aside0.mk hq
    have HIH := Aside0.mk (ih n' b sb wr (by have := HJ.out.2.2.1; omega) (by have := HJ.out.2.2.1; omega) HJ.out.2.2.2.1 HL.out.bs)
    clear hst hq
    go_wp2_with fail
    refine HIH.out.mono ?_
    rintro e w2 ⟨hg, hP⟩
    cases hp : su f n' (bytesOf b) with
    | opn =>
     rw [hp] at hP
     have hst := HST.out
     rw [hp] at hst
     have hS := HS2.out
     rw [hst] at hS
     simp only [SURs.pres] at hS
     subst hS
     obtain rfl := hP
     unfold z35v
     have HX := Aside0.mk (HL.out.stop hg (.cells #[.int .i64 0, .bool false, .int .i64 0, .int .u64 0, .string ⟨#[]⟩, .slice none 0 0, .slice none 0 0] 35))
     have hszw := hg.size
     have hszw2 := blk_lt HL.out.bt
     obtain ⟨b0, b1, b2, b3, b4, b5, b6, g0, g1, g2, g3, g4, g5, g6⟩ := box7f HX.out.1
     clear hst hg HIH hp HST
     go_wp2_with fail
     refine bodyPost_ret (results_cttt rfl _ _ w.heap.size 35 _ (0, 0) _ rfl (fill35 HX.out.1) Try.underlying35 rfl (by kernel_rfl)) rfl ?_
     exact ⟨grown_new7 HX.out.2 _ _ _ _ _ _ _, rfl⟩
    | bad =>
     rw [hp] at hP
     have hst := HST.out
     rw [hp] at hst
     have hS := HS2.out
     rw [hst] at hS
     simp only [SURs.pres] at hS
     subst hS
     obtain rfl := hP
     unfold z35v
     have HX := Aside0.mk (HL.out.stop hg (.cells #[.int .i64 0, .bool false, .int .i64 0, .int .u64 0, .string ⟨#[]⟩, .slice none 0 0, .slice none 0 0] 35))
     have hszw := hg.size
     have hszw2 := blk_lt HL.out.bt
     obtain ⟨b0, b1, b2, b3, b4, b5, b6, g0, g1, g2, g3, g4, g5, g6⟩ := box7f HX.out.1
     clear hst hg HIH hp HST
     go_wp2_with fail
     refine bodyPost_ret (results_cttt rfl _ _ w.heap.size 35 _ (0, 0) _ rfl (fill35 HX.out.1) Try.underlying35 rfl (by kernel_rfl)) rfl ?_
     exact ⟨grown_new7 HX.out.2 _ _ _ _ _ _ _, rfl⟩
    | ok x r2 n2 =>
     rw [hp] at hP
     obtain ⟨v5x, v6x, str2, rfl, hstr2, hr5, hr6, hbs2⟩ := hP
     obtain ⟨A5x, n5x, d5x, rfl⟩ : ∃ A5 n5 d5, v5x = .slice A5 n5 d5 := by obtain ⟨A, c, h⟩ := Kd.R_slice hr5; exact ⟨A, _, c, h⟩
     obtain ⟨A6x, n6x, d6x, rfl⟩ : ∃ A6 n6 d6, v6x = .slice A6 n6 d6 := by obtain ⟨A, c, h⟩ := Kd.R_slice hr6; exact ⟨A, _, c, h⟩
     have HLE := Aside0.mk (show n2 ≤ n' ∧ str2.size ≤ b.size by have h := su_le f n' (bytesOf b) x r2 n2 hp; have h2 := bytesOf_length str2; have h3 := bytesOf_length b; rw [hstr2] at h2; omega)
     have HST3 : Aside0 (suRows (su f) false m n r = (suRows (su f) false q n2 (bytesOf str2)).pres keys (kids ++ [x])) := ⟨by have h := HST.out; rw [hp] at h; simp only [sur_pres_pre, List.append_nil] at h; rw [hstr2]; exact h⟩
     have HLW := Aside0.mk ((HL.out.call hg hbs2).below (below_alloc (Below.refl w2.heap.size w2) (.cells #[.int .i64 x.f0, .bool x.f1, .int .i64 x.f2, .int .u64 x.f3, .string x.f4, .slice A5x n5x d5x, .slice A6x n6x d6x] 35)))
     have hszw := hg.size
     have hszw2 := blk_lt HL.out.bt
     obtain ⟨hok1, hok2⟩ := HL.out.ok6 (W := (w2.alloc (.cells #[.int .i64 x.f0, .bool x.f1, .int .i64 x.f2, .int .u64 x.f3, .string x.f4, .slice A5x n5x d5x, .slice A6x n6x d6x] 35))) (by rw [World.size_alloc]; omega)
     have HOK1 := Aside0.mk hok1
     have HOK2 := Aside0.mk hok2
     have HM := Aside0.mk (show k35.M (w2.alloc (.cells #[.int .i64 x.f0, .bool x.f1, .int .i64 x.f2, .int .u64 x.f3, .string x.f4, .slice A5x n5x d5x, .slice A6x n6x d6x] 35)) (tb + 1) (fun q => wr.heap.size ≤ q) (conv x) [.int .i64 x.f0, .bool x.f1, .int .i64 x.f2, .int .u64 x.f3, .string x.f4, .slice A5x n5x d5x, .slice A6x n6x d6x] from by
      rw [conv_eq]
      exact PAll.k35_mkM _ _ _ ⟨x.f0, x.f1, x.f2, x.f3, x.f4, x.f5, convAll x.f6⟩ (Kd.R_alloc (Kd.R_lower hr5 (by omega)) _) (Kd.R_alloc (Kd.R_lower (Kd.R_mono hr6 (fun q hq => hq.1)) (by omega)) _))
     have HLK := Aside0.mk (show (convAll kids).length = j from by rw [convAll_length]; exact HJ.out.2.2.2.2.1)
     have hl96 : ((convAll kids).length + 1) * 96 ≤ 140737488355328 := by rw [HLK.out]; omega
     obtain ⟨b0, b1, b2, b3, b4, b5, b6, g0, g1, g2, g3, g4, g5, g6⟩ := box7f HLW.out.b4
     clear hg HIH hp HST hstr2 hr5 hr6 hbs2 hok1 hok2 b0 b1 b2 b3 b4 b5 g0 g1 g2 g3 g4 g5
     go_wp2_with (at_builtin; refine Kd.R_append (w0 := (w2.alloc (.cells #[.int .i64 x.f0, .bool x.f1, .int .i64 x.f2, .int .u64 x.f3, .string x.f4, .slice A5x n5x d5x, .slice A6x n6x d6x] 35))) k35 (tb + 1) rfl (.tmp 154) (.tmp 156) 33 35 _ 96 rfl Try.underlying33 info35 rfl (by show 0 < 7; decide) (by decide) (.slice A6 (convAll kids).length c6) (convAll kids) (conv x) [.int .i64 x.f0, .bool x.f1, .int .i64 x.f2, .int .u64 x.f3, .string x.f4, .slice A5x n5x d5x, .slice A6x n6x d6x] (fun q => tb + 1 ≤ q ∧ some q ≠ (Value.slice A5 keys.length c5).ownBlock) (fun q => wr.heap.size ≤ q) (by simp [Act.eval]) (by simp [Act.eval]) HM.out HOK1.out HOK2.out HLW.out.r6 (Below.refl _ _) (by simp; omega) hl96 ?_; intro v1 w3 hr1 hb1 hg1 hat1; obtain ⟨A1, n1, c1, rfl⟩ : ∃ A1 n1 c1, v1 = .slice A1 n1 c1 := (by obtain ⟨A, c, h⟩ := Kd.R_slice hr1; exact ⟨A, _, c, h⟩); have hbx3 := blk_grown HLW.out.b4 hg1 (fun he => by have := Kd.R_base HLW.out.r6 _ he.symm; omega); have hc63 := blk_cell hbx3 6; have hf63 := blk_frozen hbx3 6)
     have HN := Aside0.mk (UL.kid HLW.out hr1 hg1)
     clear hr1 hb1 hg1 hat1 hbx3 hc63 hf63
     go_roundg (m - (j + 1))
     case measure => have := HJ.out; omega
     case rel =>
      exact ⟨j + 1, n2, str2, keys, kids ++ [x], _, _, rfl, by go_num, ⟨by have h1 := HJ.out; have h2 := HLE.out; have h3 := HQ.out; refine ⟨rfl, by omega, by omega, by omega, by rw [List.length_append, h1.2.2.2.2.1]; rfl, ?_⟩; rw [show m - (j + 1) = q by omega]; exact HST3.out⟩, ⟨HN.out⟩⟩
   ·have hje : j = m := by have := HJ.out.2.1; omega
    subst hje
    have hst := HJ.out.2.2.2.2.2
    rw [Nat.sub_self] at hst
    have hS := HS2.out
    rw [hst] at hS
    simp only [suRows, SURs.pres, List.append_nil] at hS
    subst hS
    have HF := Aside0.mk (HL.out.fill)
    go_wp2_with fail
    refine bodyPost_ret (results_cttt rfl _ _ w.heap.size 35 _ (0, 0) _ rfl (HF.out _ _ _ _ _ _ _).1 Try.underlying35 rfl (by kernel_rfl)) rfl ?_
    exact ⟨(HF.out _ _ _ _ _ _ _).2.1, _, _, b, rfl, rfl, (HF.out _ _ _ _ _ _ _).2.2.2.1, (HF.out _ _ _ _ _ _ _).2.2.2.2, (HF.out _ _ _ _ _ _ _).2.2.1⟩
end Go.Proofs.Ytjnookhdiolhgaa

namespace Go.Proofs.Ytjnookhdiolhgaa
set_option linter.unusedVariables false
set_option linter.unusedSimpArgs false
open Go.RowKit Go.Proofs.YtjnookhdiolhgaaW.PrintWords
open PAll (S26 k26 S35 k35)

set_option maxHeartbeats 8000000 in
set_option maxRecDepth 100000 in
theorem up_parts6 (f : Nat) (ih : UpSaid f) (n : Nat) (hnf : n < f) (s : ByteArray) (sb : Nat) (w : World) (hn : n ≤ 5000) (hs : s.size ≤ 2000) (r : List Int) (t : TKN) (hk : tks (bytesOf s) = .ok t r) (hc : t.c = 6) (h : w.heap[sb]? = some (.cells #[.int .i64 ((n + 1 : Nat) : Int)] 3 (0, 0))) :
  Calls Try.prog 73 #[.string s, .pointer (some ⟨sb, 0, none⟩)] w fun e w' => UpR (su (f + 1) (n + 1) (bytesOf s)) w sb e w' := by
 have c0 : w.cell? ⟨sb, 0, none⟩ = some (.int .i64 ((n : Int) + 1)) := blk_cell h 0
 have f0 := blk_frozen h 0
 have hlt := blk_lt h
 have HH := Aside0.mk h
 have HT := Aside0.mk (token_any s (UW w sb n) (by omega))
 have HTT := Aside0.mk (tks_tok (bytesOf s) (bytesOf_bytes s))
 obtain ⟨S, hS⟩ : ∃ S, su (f + 1) (n + 1) (bytesOf s) = S := ⟨_, rfl⟩
 rw [hS]
 unfold su at hS
 have HS := Aside0.mk hS
 clear h hS
 go_enter Try.func73, Try.ntmps73
 go_wp2_with fail
 refine HT.out.mono ?_
 rintro e w1 ⟨hb, hT⟩
 have HU := Aside0.mk (fun t => US.start HH.out hb t)
 have hlt1 : sb < w1.heap.size := by have := hb.size; have := UW_size w sb n; omega
 have hlt2 : w.heap.size < w1.heap.size := by have := hb.size; have := UW_size w sb n; omega
 clear HT hb HH c0 f0
 rw [hk] at hT
 obtain ⟨str, hstr, rfl⟩ := hT
 have hS := HS.out
 rw [hk] at hS
 simp only at hS
 have hTT := HTT.out
 rw [hk] at hTT
 obtain ⟨c, bb, i, f', ss, nn, g⟩ := t
 simp only at hS
 simp only [B57]
 have HSTR := Aside0.mk hstr
 have HK := Aside0.mk hk
 have HS1 := Aside0.mk hS
 have HTT1 := Aside0.mk hTT
 clear hk HS HTT hstr hS hTT
 go_upto_if 44 with (fail)
 refine wp_gen (F := fun wz => US w wz sb w1.heap.size n ⟨c, bb, i, f', ss, nn, g⟩) (HU.out ⟨c, bb, i, f', ss, nn, g⟩) ?_
 intro wz HZ
 obtain ⟨tb, htb⟩ : ∃ tb, w1.heap.size = tb := ⟨_, rfl⟩
 rw [htb] at HZ ⊢
 clear htb hlt1 hlt2 HU
 obtain ⟨b0, b1, b2, b3, b4, b5, b6, g0, g1, g2, g3, g4, g5, g6⟩ := box7f HZ.b4
 obtain ⟨d0, d1, d2, d3, d4, d5, d6⟩ := box7 HZ.bt
 have HE := Aside0.mk (HZ.fill hlt)
 have HUS := Aside0.mk HZ
 clear HZ
 have hS := HS1.out
 have HSL := Aside0.mk (show str.size ≤ 2000 by have h1 := tks_le2 HK.out; have h2 := bytesOf_length str; have h3 := bytesOf_length s; rw [HSTR.out] at h2; omega)
 clear HS1
 by_cases hbig : nn > 1000
 ·rw [if_pos hbig] at hS
  subst hS
  go_wp2_with fail
  refine bodyPost_ret (results_cttt rfl _ _ w.heap.size 35 _ (0, 0) _ rfl (HE.out _ _ _ _ _ _ _).1 Try.underlying35 rfl (by kernel_rfl)) rfl ?_
  exact ⟨(HE.out _ _ _ _ _ _ _).2.1, rfl⟩
 rw [if_neg hbig] at hS
 rcases HTT1.out with ⟨h1, _⟩ | ⟨h1, h0, -, -⟩ | ⟨h1, m, h0, -, -, -⟩
 ·simp only at h1 hc; omega
 ·simp only at h1 hc; omega
 ·simp only at h0 hc
  subst hc
  subst h0
  obtain rfl : g = 0 := tks_g HK.out (.inl rfl)
  rw [if_neg (by decide), if_pos (by decide), show ((6 : Int) == 7) = false from rfl, Int.toNat_natCast] at hS
  have HS2 := Aside0.mk hS
  have HL0 := Aside0.mk (UL.start HUS.out hlt 6 (0))
  have hm : (m : Int) ≤ 1000 := by omega
  have hlo := HUS.out.lo
  have hn1 : ¬ (w.heap.size = tb) := by omega
  have hn2 : ¬ (tb = w.heap.size) := by omega
  clear hS HE HTT1 h1
  go_wp2_with fail
  go_loopg [0, 103] m (fun gk v0 v103 wr => ∃ (j n' : Nat) (b : ByteArray) (keys : List ByteArray) (kids : List S26) (v5 v6 : Value), v0 = .string b ∧ v103 = .int .u32 j ∧ Aside0 (gk = m - j ∧ j ≤ m ∧ n' ≤ n ∧ b.size ≤ 2000 ∧ kids.length = j ∧ suRows (su f) false m n r = (suRows (su f) false (m - j) n' (bytesOf b)).pres keys kids) ∧ Aside0 (UL w wr sb tb n' ⟨6, bb, i, f', ss, (m : Int), 0⟩ 6 (0) keys kids v5 v6))
  case atStart => exact ⟨0, n, str, [], [], _, _, rfl, rfl, ⟨by simp, Nat.zero_le _, Nat.le_refl _, by have := HSL.out; omega, rfl, by rw [sur_pres_nil, HSTR.out]; rfl⟩, ⟨HL0.out⟩⟩
  case round =>
   clear HL0 HUS
   obtain ⟨j, n', b, keys, kids, v5, v6, rfl, rfl, HJ, HL⟩ := hrel
   obtain ⟨A5, c5, rfl⟩ := Kd.R_slice HL.out.r5
   obtain ⟨A6, c6, rfl⟩ := Kd.R_slice HL.out.r6
   obtain ⟨b0, b1, b2, b3, b4, b5, b6, g0, g1, g2, g3, g4, g5, g6⟩ := box7f HL.out.b4
   obtain ⟨d0, d1, d2, d3, d4, d5, d6⟩ := box7 HL.out.bt
   by_cases hj : j < m
   ·obtain ⟨q, hq⟩ : ∃ q, m - j = q + 1 := ⟨m - j - 1, by omega⟩
    have hst := HJ.out.2.2.2.2.2
    rw [hq, suRows_kid] at hst
    have HST := Aside0.mk hst
    have HQ := Aside0.mk hq
    have HIH := Aside0.mk (ih n' b sb wr (by have := HJ.out.2.2.1; omega) (by have := HJ.out.2.2.1; omega) HJ.out.2.2.2.1 HL.out.bs)
    clear hst hq
    go_wp2_with fail
    refine HIH.out.mono ?_
    rintro e w2 ⟨hg, hP⟩
    cases hp : su f n' (bytesOf b) with
    | opn =>
     rw [hp] at hP
     have hst := HST.out
     rw [hp] at hst
     have hS := HS2.out
     rw [hst] at hS
     simp only [SURs.pres] at hS
     subst hS
     obtain rfl := hP
     unfold z35v
     have HX := Aside0.mk (HL.out.stop hg (.cells #[.int .i64 0, .bool false, .int .i64 0, .int .u64 0, .string ⟨#[]⟩, .slice none 0 0, .slice none 0 0] 35))
     have hszw := hg.size
     have hszw2 := blk_lt HL.out.bt
     obtain ⟨b0, b1, b2, b3, b4, b5, b6, g0, g1, g2, g3, g4, g5, g6⟩ := box7f HX.out.1
     clear hst hg HIH hp HST
     go_wp2_with fail
     refine bodyPost_ret (results_cttt rfl _ _ w.heap.size 35 _ (0, 0) _ rfl (fill35 HX.out.1) Try.underlying35 rfl (by kernel_rfl)) rfl ?_
     exact ⟨grown_new7 HX.out.2 _ _ _ _ _ _ _, rfl⟩
    | bad =>
     rw [hp] at hP
     have hst := HST.out
     rw [hp] at hst
     have hS := HS2.out
     rw [hst] at hS
     simp only [SURs.pres] at hS
     subst hS
     obtain rfl := hP
     unfold z35v
     have HX := Aside0.mk (HL.out.stop hg (.cells #[.int .i64 0, .bool false, .int .i64 0, .int .u64 0, .string ⟨#[]⟩, .slice none 0 0, .slice none 0 0] 35))
     have hszw := hg.size
     have hszw2 := blk_lt HL.out.bt
     obtain ⟨b0, b1, b2, b3, b4, b5, b6, g0, g1, g2, g3, g4, g5, g6⟩ := box7f HX.out.1
     clear hst hg HIH hp HST
     go_wp2_with fail
     refine bodyPost_ret (results_cttt rfl _ _ w.heap.size 35 _ (0, 0) _ rfl (fill35 HX.out.1) Try.underlying35 rfl (by kernel_rfl)) rfl ?_
     exact ⟨grown_new7 HX.out.2 _ _ _ _ _ _ _, rfl⟩
    | ok x r2 n2 =>
     rw [hp] at hP
     obtain ⟨v5x, v6x, str2, rfl, hstr2, hr5, hr6, hbs2⟩ := hP
     obtain ⟨A5x, n5x, d5x, rfl⟩ : ∃ A5 n5 d5, v5x = .slice A5 n5 d5 := by obtain ⟨A, c, h⟩ := Kd.R_slice hr5; exact ⟨A, _, c, h⟩
     obtain ⟨A6x, n6x, d6x, rfl⟩ : ∃ A6 n6 d6, v6x = .slice A6 n6 d6 := by obtain ⟨A, c, h⟩ := Kd.R_slice hr6; exact ⟨A, _, c, h⟩
     have HLE := Aside0.mk (show n2 ≤ n' ∧ str2.size ≤ b.size by have h := su_le f n' (bytesOf b) x r2 n2 hp; have h2 := bytesOf_length str2; have h3 := bytesOf_length b; rw [hstr2] at h2; omega)
     have HST3 : Aside0 (suRows (su f) false m n r = (suRows (su f) false q n2 (bytesOf str2)).pres keys (kids ++ [x])) := ⟨by have h := HST.out; rw [hp] at h; simp only [sur_pres_pre, List.append_nil] at h; rw [hstr2]; exact h⟩
     have HLW := Aside0.mk ((HL.out.call hg hbs2).below (below_alloc (Below.refl w2.heap.size w2) (.cells #[.int .i64 x.f0, .bool x.f1, .int .i64 x.f2, .int .u64 x.f3, .string x.f4, .slice A5x n5x d5x, .slice A6x n6x d6x] 35)))
     have hszw := hg.size
     have hszw2 := blk_lt HL.out.bt
     obtain ⟨hok1, hok2⟩ := HL.out.ok6 (W := (w2.alloc (.cells #[.int .i64 x.f0, .bool x.f1, .int .i64 x.f2, .int .u64 x.f3, .string x.f4, .slice A5x n5x d5x, .slice A6x n6x d6x] 35))) (by rw [World.size_alloc]; omega)
     have HOK1 := Aside0.mk hok1
     have HOK2 := Aside0.mk hok2
     have HM := Aside0.mk (show k35.M (w2.alloc (.cells #[.int .i64 x.f0, .bool x.f1, .int .i64 x.f2, .int .u64 x.f3, .string x.f4, .slice A5x n5x d5x, .slice A6x n6x d6x] 35)) (tb + 1) (fun q => wr.heap.size ≤ q) (conv x) [.int .i64 x.f0, .bool x.f1, .int .i64 x.f2, .int .u64 x.f3, .string x.f4, .slice A5x n5x d5x, .slice A6x n6x d6x] from by
      rw [conv_eq]
      exact PAll.k35_mkM _ _ _ ⟨x.f0, x.f1, x.f2, x.f3, x.f4, x.f5, convAll x.f6⟩ (Kd.R_alloc (Kd.R_lower hr5 (by omega)) _) (Kd.R_alloc (Kd.R_lower (Kd.R_mono hr6 (fun q hq => hq.1)) (by omega)) _))
     have HLK := Aside0.mk (show (convAll kids).length = j from by rw [convAll_length]; exact HJ.out.2.2.2.2.1)
     have hl96 : ((convAll kids).length + 1) * 96 ≤ 140737488355328 := by rw [HLK.out]; omega
     obtain ⟨b0, b1, b2, b3, b4, b5, b6, g0, g1, g2, g3, g4, g5, g6⟩ := box7f HLW.out.b4
     clear hg HIH hp HST hstr2 hr5 hr6 hbs2 hok1 hok2 b0 b1 b2 b3 b4 b5 g0 g1 g2 g3 g4 g5
     go_wp2_with (at_builtin; refine Kd.R_append (w0 := (w2.alloc (.cells #[.int .i64 x.f0, .bool x.f1, .int .i64 x.f2, .int .u64 x.f3, .string x.f4, .slice A5x n5x d5x, .slice A6x n6x d6x] 35))) k35 (tb + 1) rfl (.tmp 154) (.tmp 156) 33 35 _ 96 rfl Try.underlying33 info35 rfl (by show 0 < 7; decide) (by decide) (.slice A6 (convAll kids).length c6) (convAll kids) (conv x) [.int .i64 x.f0, .bool x.f1, .int .i64 x.f2, .int .u64 x.f3, .string x.f4, .slice A5x n5x d5x, .slice A6x n6x d6x] (fun q => tb + 1 ≤ q ∧ some q ≠ (Value.slice A5 keys.length c5).ownBlock) (fun q => wr.heap.size ≤ q) (by simp [Act.eval]) (by simp [Act.eval]) HM.out HOK1.out HOK2.out HLW.out.r6 (Below.refl _ _) (by simp; omega) hl96 ?_; intro v1 w3 hr1 hb1 hg1 hat1; obtain ⟨A1, n1, c1, rfl⟩ : ∃ A1 n1 c1, v1 = .slice A1 n1 c1 := (by obtain ⟨A, c, h⟩ := Kd.R_slice hr1; exact ⟨A, _, c, h⟩); have hbx3 := blk_grown HLW.out.b4 hg1 (fun he => by have := Kd.R_base HLW.out.r6 _ he.symm; omega); have hc63 := blk_cell hbx3 6; have hf63 := blk_frozen hbx3 6)
     have HN := Aside0.mk (UL.kid HLW.out hr1 hg1)
     clear hr1 hb1 hg1 hat1 hbx3 hc63 hf63
     go_roundg (m - (j + 1))
     case measure => have := HJ.out; omega
     case rel =>
      exact ⟨j + 1, n2, str2, keys, kids ++ [x], _, _, rfl, by go_num, ⟨by have h1 := HJ.out; have h2 := HLE.out; have h3 := HQ.out; refine ⟨rfl, by omega, by omega, by omega, by rw [List.length_append, h1.2.2.2.2.1]; rfl, ?_⟩; rw [show m - (j + 1) = q by omega]; exact HST3.out⟩, ⟨HN.out⟩⟩
   ·have hje : j = m := by have := HJ.out.2.1; omega
    subst hje
    have hst := HJ.out.2.2.2.2.2
    rw [Nat.sub_self] at hst
    have hS := HS2.out
    rw [hst] at hS
    simp only [suRows, SURs.pres, List.append_nil] at hS
    subst hS
    have HF := Aside0.mk (HL.out.fill)
    go_wp2_with fail
    refine bodyPost_ret (results_cttt rfl _ _ w.heap.size 35 _ (0, 0) _ rfl (HF.out _ _ _ _ _ _ _).1 Try.underlying35 rfl (by kernel_rfl)) rfl ?_
    exact ⟨(HF.out _ _ _ _ _ _ _).2.1, _, _, b, rfl, rfl, (HF.out _ _ _ _ _ _ _).2.2.2.1, (HF.out _ _ _ _ _ _ _).2.2.2.2, (HF.out _ _ _ _ _ _ _).2.2.1⟩
end Go.Proofs.Ytjnookhdiolhgaa

namespace Go.Proofs.Ytjnookhdiolhgaa
set_option linter.unusedVariables false
set_option linter.unusedSimpArgs false
open Go.RowKit Go.Proofs.YtjnookhdiolhgaaW.PrintWords
open PAll (S26 k26 S35 k35)

set_option maxHeartbeats 8000000 in
set_option maxRecDepth 100000 in
theorem up_parts7 (f : Nat) (ih : UpSaid f) (n : Nat) (hnf : n < f) (s : ByteArray) (sb : Nat) (w : World) (hn : n ≤ 5000) (hs : s.size ≤ 2000) (r : List Int) (t : TKN) (hk : tks (bytesOf s) = .ok t r) (hc : t.c = 7) (h : w.heap[sb]? = some (.cells #[.int .i64 ((n + 1 : Nat) : Int)] 3 (0, 0))) :
  Calls Try.prog 73 #[.string s, .pointer (some ⟨sb, 0, none⟩)] w fun e w' => UpR (su (f + 1) (n + 1) (bytesOf s)) w sb e w' := by
 have c0 : w.cell? ⟨sb, 0, none⟩ = some (.int .i64 ((n : Int) + 1)) := blk_cell h 0
 have f0 := blk_frozen h 0
 have hlt := blk_lt h
 have HH := Aside0.mk h
 have HT := Aside0.mk (token_any s (UW w sb n) (by omega))
 have HTT := Aside0.mk (tks_tok (bytesOf s) (bytesOf_bytes s))
 obtain ⟨S, hS⟩ : ∃ S, su (f + 1) (n + 1) (bytesOf s) = S := ⟨_, rfl⟩
 rw [hS]
 unfold su at hS
 have HS := Aside0.mk hS
 clear h hS
 go_enter Try.func73, Try.ntmps73
 go_wp2_with fail
 refine HT.out.mono ?_
 rintro e w1 ⟨hb, hT⟩
 have HU := Aside0.mk (fun t => US.start HH.out hb t)
 have hlt1 : sb < w1.heap.size := by have := hb.size; have := UW_size w sb n; omega
 have hlt2 : w.heap.size < w1.heap.size := by have := hb.size; have := UW_size w sb n; omega
 clear HT hb HH c0 f0
 rw [hk] at hT
 obtain ⟨str, hstr, rfl⟩ := hT
 have hS := HS.out
 rw [hk] at hS
 simp only at hS
 have hTT := HTT.out
 rw [hk] at hTT
 obtain ⟨c, bb, i, f', ss, nn, g⟩ := t
 simp only at hS
 simp only [B57]
 have HSTR := Aside0.mk hstr
 have HK := Aside0.mk hk
 have HS1 := Aside0.mk hS
 have HTT1 := Aside0.mk hTT
 clear hk HS HTT hstr hS hTT
 go_upto_if 44 with (fail)
 refine wp_gen (F := fun wz => US w wz sb w1.heap.size n ⟨c, bb, i, f', ss, nn, g⟩) (HU.out ⟨c, bb, i, f', ss, nn, g⟩) ?_
 intro wz HZ
 obtain ⟨tb, htb⟩ : ∃ tb, w1.heap.size = tb := ⟨_, rfl⟩
 rw [htb] at HZ ⊢
 clear htb hlt1 hlt2 HU
 obtain ⟨b0, b1, b2, b3, b4, b5, b6, g0, g1, g2, g3, g4, g5, g6⟩ := box7f HZ.b4
 obtain ⟨d0, d1, d2, d3, d4, d5, d6⟩ := box7 HZ.bt
 have HE := Aside0.mk (HZ.fill hlt)
 have HUS := Aside0.mk HZ
 clear HZ
 have hS := HS1.out
 have HSL := Aside0.mk (show str.size ≤ 2000 by have h1 := tks_le2 HK.out; have h2 := bytesOf_length str; have h3 := bytesOf_length s; rw [HSTR.out] at h2; omega)
 clear HS1
 by_cases hbig : nn > 1000
 ·rw [if_pos hbig] at hS
  subst hS
  go_wp2_with fail
  refine bodyPost_ret (results_cttt rfl _ _ w.heap.size 35 _ (0, 0) _ rfl (HE.out _ _ _ _ _ _ _).1 Try.underlying35 rfl (by kernel_rfl)) rfl ?_
  exact ⟨(HE.out _ _ _ _ _ _ _).2.1, rfl⟩
 rw [if_neg hbig] at hS
 rcases HTT1.out with ⟨h1, _⟩ | ⟨h1, h0, -, -⟩ | ⟨h1, m, h0, -, -, -⟩
 ·simp only at h1 hc; omega
 ·simp only at h1 hc; omega
 ·simp only at h0 hc
  subst hc
  subst h0
  obtain rfl : g = 0 := tks_g HK.out (.inr rfl)
  rw [if_neg (by decide), if_pos (by decide), show ((7 : Int) == 7) = true from rfl, Int.toNat_natCast] at hS
  have HS2 := Aside0.mk hS
  have HL0 := Aside0.mk (UL.start HUS.out hlt 7 (0))
  have hm : (m : Int) ≤ 1000 := by omega
  have hlo := HUS.out.lo
  have hn1 : ¬ (w.heap.size = tb) := by omega
  have hn2 : ¬ (tb = w.heap.size) := by omega
  clear hS HE HTT1 h1
  go_wp2_with fail
  go_loopg [0, 103] m (fun gk v0 v103 wr => ∃ (j n' : Nat) (b : ByteArray) (keys : List ByteArray) (kids : List S26) (v5 v6 : Value), v0 = .string b ∧ v103 = .int .u32 j ∧ Aside0 (gk = m - j ∧ j ≤ m ∧ n' ≤ n ∧ b.size ≤ 2000 ∧ kids.length = j ∧ suRows (su f) true m n r = (suRows (su f) true (m - j) n' (bytesOf b)).pres keys kids ∧ keys.length = j) ∧ Aside0 (UL w wr sb tb n' ⟨7, bb, i, f', ss, (m : Int), 0⟩ 7 (0) keys kids v5 v6))
  case atStart => exact ⟨0, n, str, [], [], _, _, rfl, rfl, ⟨by simp, Nat.zero_le _, Nat.le_refl _, by have := HSL.out; omega, rfl, by rw [sur_pres_nil, HSTR.out]; rfl, rfl⟩, ⟨HL0.out⟩⟩
  case round =>
   clear HL0 HUS
   obtain ⟨j, n', b, keys, kids, v5, v6, rfl, rfl, HJ, HL⟩ := hrel
   obtain ⟨A5, c5, rfl⟩ := Kd.R_slice HL.out.r5
   obtain ⟨A6, c6, rfl⟩ := Kd.R_slice HL.out.r6
   obtain ⟨b0, b1, b2, b3, b4, b5, b6, g0, g1, g2, g3, g4, g5, g6⟩ := box7f HL.out.b4
   obtain ⟨d0, d1, d2, d3, d4, d5, d6⟩ := box7 HL.out.bt
   by_cases hj : j < m
   ·obtain ⟨q, hq⟩ : ∃ q, m - j = q + 1 := ⟨m - j - 1, by omega⟩
    have hst := HJ.out.2.2.2.2.2.1
    rw [hq, suRows_key] at hst
    have HST := Aside0.mk hst
    have HQ := Aside0.mk hq
    have HTK := Aside0.mk (token_any b wr (by have := HJ.out.2.2.2.1; omega))
    clear hst hq
    go_wp2_with fail
    refine HTK.out.mono ?_
    rintro e w2 ⟨hbel, hT⟩
    cases hk2 : tks (bytesOf b) with
    | bad =>
     rw [hk2] at hT
     have hst := HST.out
     rw [hk2] at hst
     have hS := HS2.out
     rw [hst] at hS
     simp only [SURs.pres] at hS
     subst hS
     obtain ⟨⟨kc, kb, ki, kf, ks, kn, kg⟩, str1, hn0, rfl⟩ := hT
     obtain rfl : kn = 0 := hn0
     simp only [B57]
     have HX := Aside0.mk (HL.out.stop (grown_of_below hbel (some sb)) (.cells #[.int .i64 kc, .bool kb, .int .i64 ki, .int .u64 kf, .string ks, .int .u32 0, .int .i64 kg] 57))
     have hszw := hbel.size
     have hszw2 := blk_lt HL.out.bt
     obtain ⟨b0, b1, b2, b3, b4, b5, b6, g0, g1, g2, g3, g4, g5, g6⟩ := box7f HX.out.1
     clear hst HTK hk2 HST
     go_wp2_with fail
     refine bodyPost_ret (results_cttt rfl _ _ w.heap.size 35 _ (0, 0) _ rfl (fill35 HX.out.1) Try.underlying35 rfl (by kernel_rfl)) rfl ?_
     exact ⟨grown_new7 HX.out.2 _ _ _ _ _ _ _, rfl⟩
    | wild =>
     rw [hk2] at hT
     have hst := HST.out
     rw [hk2] at hst
     have hS := HS2.out
     rw [hst] at hS
     simp only [SURs.pres] at hS
     subst hS
     obtain ⟨⟨kc, kb, ki, kf, ks, kn, kg⟩, rfl⟩ := hT
     simp only [B57]
     have HX := Aside0.mk (HL.out.stop (grown_of_below hbel (some sb)) (.cells #[.int .i64 kc, .bool kb, .int .i64 ki, .int .u64 kf, .string ks, .int .u32 kn, .int .i64 kg] 57))
     have hszw := hbel.size
     have hszw2 := blk_lt HL.out.bt
     obtain ⟨b0, b1, b2, b3, b4, b5, b6, g0, g1, g2, g3, g4, g5, g6⟩ := box7f HX.out.1
     clear hst HTK hk2 HST
     go_wp2_with fail
     refine bodyPost_ret (results_cttt rfl _ _ w.heap.size 35 _ (0, 0) _ rfl (fill35 HX.out.1) Try.underlying35 rfl (by kernel_rfl)) rfl ?_
     exact ⟨grown_new7 HX.out.2 _ _ _ _ _ _ _, rfl⟩
    | ok t1 r1 =>
     rw [hk2] at hT
     obtain ⟨str1, hstr1, rfl⟩ := hT
     have HSZ := Aside0.mk (show str1.size ≤ 2000 by have h1 := tks_le2 hk2; have h2 := bytesOf_length str1; have h3 := bytesOf_length b; have h4 := HJ.out.2.2.2.1; rw [hstr1] at h2; omega)
     have hst := HST.out
     rw [hk2] at hst
     simp only at hst
     obtain ⟨kc, kb, ki, kf, ks, kn, kg⟩ := t1
     simp only at hst
     simp only [B57]
     have hszw := hbel.size
     have hszw2 := blk_lt HL.out.bt
     by_cases h3 : kc = 3
     ·subst h3
      rw [if_neg (by decide), ← hstr1] at hst
      have HST2 := Aside0.mk hst
      have HLW := Aside0.mk (HL.out.below (below_alloc hbel (.cells #[.int .i64 3, .bool kb, .int .i64 ki, .int .u64 kf, .string ks, .int .u32 kn, .int .i64 kg] 57)))
      have hl16 : (keys.length + 1) * 16 ≤ 140737488355328 := by have := HJ.out.2.2.2.2.2.2; omega
      have HB1 := Aside0.mk (fun (q : Nat) (hq : (w2.alloc (.cells #[.int .i64 3, .bool kb, .int .i64 ki, .int .u64 kf, .string ks, .int .u32 kn, .int .i64 kg] 57)).heap.size ≤ q) => show tb + 1 ≤ q by rw [World.size_alloc] at hq; omega)
      obtain ⟨b0, b1, b2, b3, b4, b5, b6, g0, g1, g2, g3, g4, g5, g6⟩ := box7f HLW.out.b4
      clear hst hstr1 hk2 HTK hbel HST
      go_wp2_with (at_builtin; refine Kd.R_append (w0 := (w2.alloc (.cells #[.int .i64 3, .bool kb, .int .i64 ki, .int .u64 kf, .string ks, .int .u32 kn, .int .i64 kg] 57))) Kd.string (tb + 1) rfl (.tmp 130) (.tmp 133) 23 9 _ 16 rfl Try.underlying23 info9 rfl (by show 0 < 1; decide) (by decide) (.slice A5 keys.length c5) keys ks [.string ks] (fun q => tb + 1 ≤ q) (fun _ => False) (by simp [Act.eval]) (by simp [Act.eval]) rfl (fun _ h => h.elim) HB1.out HLW.out.r5 (Below.refl _ _) (by simp; omega) hl16 ?_; intro v1 w3 hr1 hb1 hg1 hat1; obtain ⟨A1, n1, c1, rfl⟩ : ∃ A1 n1 c1, v1 = .slice A1 n1 c1 := (by obtain ⟨A, c, h⟩ := Kd.R_slice hr1; exact ⟨A, _, c, h⟩); have hbx3 := blk_grown HLW.out.b4 hg1 (fun he => by have := Kd.R_base HLW.out.r5 _ he.symm; omega); have hc53 := blk_cell hbx3 5; have hf53 := blk_frozen hbx3 5)
      have HLY := Aside0.mk (UL.key HLW.out hr1 hg1 hat1)
      clear hr1 hb1 hg1 hat1 hbx3 hc53 hf53 HLW HB1 b0 b1 b2 b3 b4 b5 b6 g0 g1 g2 g3 g4 g5 g6 hszw hszw2 d0 d1 d2 d3 d4 d5 d6
      generalize w3.setCell ⟨w.heap.size, 5, none⟩ (.slice A1 n1 c1) = wk at *
      have HIH := Aside0.mk (ih n' str1 sb wk (by have := HJ.out.2.2.1; omega) (by have := HJ.out.2.2.1; omega) HSZ.out HLY.out.bs)
      obtain ⟨b0, b1, b2, b3, b4, b5, b6, g0, g1, g2, g3, g4, g5, g6⟩ := box7f HLY.out.b4
      obtain ⟨d0, d1, d2, d3, d4, d5, d6⟩ := box7 HLY.out.bt
      have HST := Aside0.mk HST2.out
      refine HIH.out.mono ?_
      rintro e w4 ⟨hg, hP⟩
      cases hp : su f n' (bytesOf str1) with
      | opn =>
       rw [hp] at hP
       have hst := HST2.out
       rw [hp] at hst
       have hS := HS2.out
       rw [hst] at hS
       simp only [SURs.pres] at hS
       subst hS
       obtain rfl := hP
       unfold z35v
       have HX := Aside0.mk (HLY.out.stop hg (.cells #[.int .i64 0, .bool false, .int .i64 0, .int .u64 0, .string ⟨#[]⟩, .slice none 0 0, .slice none 0 0] 35))
       have hszw := hg.size
       have hszw4 := blk_lt HLY.out.bt
       obtain ⟨b0, b1, b2, b3, b4, b5, b6, g0, g1, g2, g3, g4, g5, g6⟩ := box7f HX.out.1
       clear hst hg HIH hp HST
       go_wp2_with fail
       refine bodyPost_ret (results_cttt rfl _ _ w.heap.size 35 _ (0, 0) _ rfl (fill35 HX.out.1) Try.underlying35 rfl (by kernel_rfl)) rfl ?_
       exact ⟨grown_new7 HX.out.2 _ _ _ _ _ _ _, rfl⟩
      | bad =>
       rw [hp] at hP
       have hst := HST2.out
       rw [hp] at hst
       have hS := HS2.out
       rw [hst] at hS
       simp only [SURs.pres] at hS
       subst hS
       obtain rfl := hP
       unfold z35v
       have HX := Aside0.mk (HLY.out.stop hg (.cells #[.int .i64 0, .bool false, .int .i64 0, .int .u64 0, .string ⟨#[]⟩, .slice none 0 0, .slice none 0 0] 35))
       have hszw := hg.size
       have hszw4 := blk_lt HLY.out.bt
       obtain ⟨b0, b1, b2, b3, b4, b5, b6, g0, g1, g2, g3, g4, g5, g6⟩ := box7f HX.out.1
       clear hst hg HIH hp HST
       go_wp2_with fail
       refine bodyPost_ret (results_cttt rfl _ _ w.heap.size 35 _ (0, 0) _ rfl (fill35 HX.out.1) Try.underlying35 rfl (by kernel_rfl)) rfl ?_
       exact ⟨grown_new7 HX.out.2 _ _ _ _ _ _ _, rfl⟩
      | ok x r2 n2 =>
       rw [hp] at hP
       obtain ⟨v5x, v6x, str2, rfl, hstr2, hr5, hr6, hbs2⟩ := hP
       obtain ⟨A5x, n5x, d5x, rfl⟩ : ∃ A5 n5 d5, v5x = .slice A5 n5 d5 := by obtain ⟨A, c, h⟩ := Kd.R_slice hr5; exact ⟨A, _, c, h⟩
       obtain ⟨A6x, n6x, d6x, rfl⟩ : ∃ A6 n6 d6, v6x = .slice A6 n6 d6 := by obtain ⟨A, c, h⟩ := Kd.R_slice hr6; exact ⟨A, _, c, h⟩
       have HLE := Aside0.mk (show n2 ≤ n' ∧ str2.size ≤ str1.size by have h := su_le f n' (bytesOf str1) x r2 n2 hp; have h2 := bytesOf_length str2; have h3 := bytesOf_length str1; rw [hstr2] at h2; omega)
       have HST3 : Aside0 (suRows (su f) true m n r = (suRows (su f) true q n2 (bytesOf str2)).pres (keys ++ [ks]) (kids ++ [x])) := ⟨by have h := HST2.out; rw [hp] at h; simp only [sur_pres_pre, List.append_nil] at h; rw [hstr2]; exact h⟩
       have HLW := Aside0.mk ((HLY.out.call hg hbs2).below (below_alloc (Below.refl w4.heap.size w4) (.cells #[.int .i64 x.f0, .bool x.f1, .int .i64 x.f2, .int .u64 x.f3, .string x.f4, .slice A5x n5x d5x, .slice A6x n6x d6x] 35)))
       have hszw := hg.size
       have hszw4 := blk_lt HLY.out.bt
       obtain ⟨hok1, hok2⟩ := HLY.out.ok6 (W := (w4.alloc (.cells #[.int .i64 x.f0, .bool x.f1, .int .i64 x.f2, .int .u64 x.f3, .string x.f4, .slice A5x n5x d5x, .slice A6x n6x d6x] 35))) (by rw [World.size_alloc]; omega)
       have HOK1 := Aside0.mk hok1
       have HOK2 := Aside0.mk hok2
       have HM := Aside0.mk (show k35.M (w4.alloc (.cells #[.int .i64 x.f0, .bool x.f1, .int .i64 x.f2, .int .u64 x.f3, .string x.f4, .slice A5x n5x d5x, .slice A6x n6x d6x] 35)) (tb + 1) (fun q => wk.heap.size ≤ q) (conv x) [.int .i64 x.f0, .bool x.f1, .int .i64 x.f2, .int .u64 x.f3, .string x.f4, .slice A5x n5x d5x, .slice A6x n6x d6x] from by
        rw [conv_eq]
        exact PAll.k35_mkM _ _ _ ⟨x.f0, x.f1, x.f2, x.f3, x.f4, x.f5, convAll x.f6⟩ (Kd.R_alloc (Kd.R_lower hr5 (by omega)) _) (Kd.R_alloc (Kd.R_lower (Kd.R_mono hr6 (fun q hq => hq.1)) (by omega)) _))
       have HLK := Aside0.mk (show (convAll kids).length = j from by rw [convAll_length]; exact HJ.out.2.2.2.2.1)
       have hl96 : ((convAll kids).length + 1) * 96 ≤ 140737488355328 := by rw [HLK.out]; omega
       obtain ⟨b0, b1, b2, b3, b4, b5, b6, g0, g1, g2, g3, g4, g5, g6⟩ := box7f HLW.out.b4
       clear hg HIH hp HST hstr2 hr5 hr6 hbs2 hok1 hok2 b0 b1 b2 b3 b4 b5 g0 g1 g2 g3 g4 g5
       go_wp2_with (at_builtin; refine Kd.R_append (w0 := (w4.alloc (.cells #[.int .i64 x.f0, .bool x.f1, .int .i64 x.f2, .int .u64 x.f3, .string x.f4, .slice A5x n5x d5x, .slice A6x n6x d6x] 35))) k35 (tb + 1) rfl (.tmp 154) (.tmp 156) 33 35 _ 96 rfl Try.underlying33 info35 rfl (by show 0 < 7; decide) (by decide) (.slice A6 (convAll kids).length c6) (convAll kids) (conv x) [.int .i64 x.f0, .bool x.f1, .int .i64 x.f2, .int .u64 x.f3, .string x.f4, .slice A5x n5x d5x, .slice A6x n6x d6x] (fun q => tb + 1 ≤ q ∧ some q ≠ (Value.slice A1 n1 c1).ownBlock) (fun q => wk.heap.size ≤ q) (by simp [Act.eval]) (by simp [Act.eval]) HM.out HOK1.out HOK2.out HLW.out.r6 (Below.refl _ _) (by simp; omega) hl96 ?_; intro v1 w5 hr1 hb1 hg1 hat1; obtain ⟨A7, n7, c7, rfl⟩ : ∃ A7 n7 c7, v1 = .slice A7 n7 c7 := (by obtain ⟨A, c, h⟩ := Kd.R_slice hr1; exact ⟨A, _, c, h⟩); have hbx3 := blk_grown HLW.out.b4 hg1 (fun he => by have := Kd.R_base HLW.out.r6 _ he.symm; omega); have hc63 := blk_cell hbx3 6; have hf63 := blk_frozen hbx3 6)
       have HN := Aside0.mk (UL.kid HLW.out hr1 hg1)
       clear hr1 hb1 hg1 hat1 hbx3 hc63 hf63
       go_roundg (m - (j + 1))
       case measure => have := HJ.out; omega
       case rel =>
        exact ⟨j + 1, n2, str2, (keys ++ [ks]), kids ++ [x], _, _, rfl, by go_num, ⟨by have h1 := HJ.out; have h2 := HLE.out; have h3 := HQ.out; have h4 := HSZ.out; refine ⟨rfl, by omega, by omega, by omega, by rw [List.length_append, h1.2.2.2.2.1]; rfl, ?_, by rw [List.length_append, h1.2.2.2.2.2.2]; rfl⟩; rw [show m - (j + 1) = q by omega]; exact HST3.out⟩, ⟨HN.out⟩⟩
     ·rw [if_pos h3] at hst
      have hS := HS2.out
      rw [hst] at hS
      simp only [SURs.pres] at hS
      subst hS
      have HX := Aside0.mk (HL.out.stop (grown_of_below hbel (some sb)) (.cells #[.int .i64 kc, .bool kb, .int .i64 ki, .int .u64 kf, .string ks, .int .u32 kn, .int .i64 kg] 57))
      obtain ⟨b0, b1, b2, b3, b4, b5, b6, g0, g1, g2, g3, g4, g5, g6⟩ := box7f HX.out.1
      clear hst hstr1 hk2 HTK hbel HST
      go_wp2_with fail
      refine bodyPost_ret (results_cttt rfl _ _ w.heap.size 35 _ (0, 0) _ rfl (fill35 HX.out.1) Try.underlying35 rfl (by kernel_rfl)) rfl ?_
      exact ⟨grown_new7 HX.out.2 _ _ _ _ _ _ _, rfl⟩
   ·have hje : j = m := by have := HJ.out.2.1; omega
    subst hje
    have hst := HJ.out.2.2.2.2.2.1
    rw [Nat.sub_self] at hst
    have hS := HS2.out
    rw [hst] at hS
    simp only [suRows, SURs.pres, List.append_nil] at hS
    subst hS
    have HF := Aside0.mk (HL.out.fill)
    go_wp2_with fail
    refine bodyPost_ret (results_cttt rfl _ _ w.heap.size 35 _ (0, 0) _ rfl (HF.out _ _ _ _ _ _ _).1 Try.underlying35 rfl (by kernel_rfl)) rfl ?_
    exact ⟨(HF.out _ _ _ _ _ _ _).2.1, _, _, b, rfl, rfl, (HF.out _ _ _ _ _ _ _).2.2.2.1, (HF.out _ _ _ _ _ _ _).2.2.2.2, (HF.out _ _ _ _ _ _ _).2.2.1⟩
end Go.Proofs.Ytjnookhdiolhgaa

namespace Go.Proofs.Ytjnookhdiolhgaa
set_option linter.unusedVariables false
set_option linter.unusedSimpArgs false
open Go.RowKit Go.Proofs.YtjnookhdiolhgaaW.PrintWords
open PAll (S26 k26 S35 k35)

set_option maxHeartbeats 8000000 in
set_option maxRecDepth 100000 in
theorem up_plain (f : Nat) (ih : UpSaid f) (n : Nat) (s : ByteArray) (sb : Nat) (w : World) (hn : n ≤ 5000) (hs : s.size ≤ 2000) (hnp : ∀ t r, tks (bytesOf s) = .ok t r → ¬ (t.c = 4 ∨ t.c = 6 ∨ t.c = 7)) (h : w.heap[sb]? = some (.cells #[.int .i64 ((n + 1 : Nat) : Int)] 3 (0, 0))) :
  Calls Try.prog 73 #[.string s, .pointer (some ⟨sb, 0, none⟩)] w fun e w' => UpR (su (f + 1) (n + 1) (bytesOf s)) w sb e w' := by
 have c0 : w.cell? ⟨sb, 0, none⟩ = some (.int .i64 ((n : Int) + 1)) := blk_cell h 0
 have f0 := blk_frozen h 0
 have hlt := blk_lt h
 have HH := Aside0.mk h
 have HNP := Aside0.mk hnp
 clear hnp
 have HT := Aside0.mk (token_any s (UW w sb n) (by omega))
 have HTT := Aside0.mk (tks_tok (bytesOf s) (bytesOf_bytes s))
 obtain ⟨S, hS⟩ : ∃ S, su (f + 1) (n + 1) (bytesOf s) = S := ⟨_, rfl⟩
 rw [hS]
 unfold su at hS
 have HS := Aside0.mk hS
 clear h hS
 go_enter Try.func73, Try.ntmps73
 go_wp2_with fail
 refine HT.out.mono ?_
 rintro e w1 ⟨hb, hT⟩
 have HU := Aside0.mk (fun t => US.start HH.out hb t)
 have hlt1 : sb < w1.heap.size := by have := hb.size; have := UW_size w sb n; omega
 have hlt2 : w.heap.size < w1.heap.size := by have := hb.size; have := UW_size w sb n; omega
 clear HT hb HH c0 f0
 cases hk : tks (bytesOf s) with
 | bad =>
  rw [hk] at hT
  obtain ⟨t, str, hn0, rfl⟩ := hT
  obtain ⟨c, bb, i, f', ss, nn, g⟩ := t
  simp only at hn0
  subst hn0
  have hS := HS.out
  rw [hk] at hS
  simp only at hS
  subst hS
  simp only [B57]
  clear hk HS HTT
  go_upto_if 44 with (fail)
  refine wp_gen (F := fun wz => US w wz sb w1.heap.size n ⟨c, bb, i, f', ss, 0, g⟩) (HU.out ⟨c, bb, i, f', ss, 0, g⟩) ?_
  intro wz HZ
  obtain ⟨tb, htb⟩ : ∃ tb, w1.heap.size = tb := ⟨_, rfl⟩
  rw [htb] at HZ ⊢
  clear htb hlt1 hlt2 HU
  obtain ⟨b0, b1, b2, b3, b4, b5, b6, g0, g1, g2, g3, g4, g5, g6⟩ := box7f HZ.b4
  obtain ⟨d0, d1, d2, d3, d4, d5, d6⟩ := box7 HZ.bt
  have HE := Aside0.mk (HZ.fill hlt)
  clear HZ
  go_wp2_with fail
  refine bodyPost_ret (results_cttt rfl _ _ w.heap.size 35 _ (0, 0) _ rfl (HE.out _ _ _ _ _ _ _).1 Try.underlying35 rfl (by kernel_rfl)) rfl ?_
  exact ⟨(HE.out _ _ _ _ _ _ _).2.1, rfl⟩
 | wild =>
  rw [hk] at hT
  obtain ⟨t, rfl⟩ := hT
  obtain ⟨c, bb, i, f', ss, nn, g⟩ := t
  have hS := HS.out
  rw [hk] at hS
  simp only at hS
  subst hS
  simp only [B57]
  clear hk HS HTT
  go_upto_if 44 with (fail)
  refine wp_gen (F := fun wz => US w wz sb w1.heap.size n ⟨c, bb, i, f', ss, nn, g⟩) (HU.out ⟨c, bb, i, f', ss, nn, g⟩) ?_
  intro wz HZ
  obtain ⟨tb, htb⟩ : ∃ tb, w1.heap.size = tb := ⟨_, rfl⟩
  rw [htb] at HZ ⊢
  clear htb hlt1 hlt2 HU
  obtain ⟨b0, b1, b2, b3, b4, b5, b6, g0, g1, g2, g3, g4, g5, g6⟩ := box7f HZ.b4
  obtain ⟨d0, d1, d2, d3, d4, d5, d6⟩ := box7 HZ.bt
  have HE := Aside0.mk (HZ.fill hlt)
  clear HZ
  by_cases hbig : nn > 1000
  ·go_wp2_with fail
   refine bodyPost_ret (results_cttt rfl _ _ w.heap.size 35 _ (0, 0) _ rfl (HE.out _ _ _ _ _ _ _).1 Try.underlying35 rfl (by kernel_rfl)) rfl ?_
   exact ⟨(HE.out _ _ _ _ _ _ _).2.1, rfl⟩
  ·go_wp2_with fail
   refine bodyPost_ret (results_cttt rfl _ _ w.heap.size 35 _ (0, 0) _ rfl (HE.out _ _ _ _ _ _ _).1 Try.underlying35 rfl (by kernel_rfl)) rfl ?_
   exact ⟨(HE.out _ _ _ _ _ _ _).2.1, rfl⟩
 | ok t r =>
  rw [hk] at hT
  have HNP1 := Aside0.mk (HNP.out _ _ hk)
  obtain ⟨str, hstr, rfl⟩ := hT
  have hS := HS.out
  rw [hk] at hS
  simp only at hS
  have hTT := HTT.out
  rw [hk] at hTT
  obtain ⟨c, bb, i, f', ss, nn, g⟩ := t
  simp only at hS
  simp only [B57]
  have HSTR := Aside0.mk hstr
  have HS1 := Aside0.mk hS
  have HTT1 := Aside0.mk hTT
  clear hk HS HTT hstr hS hTT HNP
  go_upto_if 44 with (fail)
  refine wp_gen (F := fun wz => US w wz sb w1.heap.size n ⟨c, bb, i, f', ss, nn, g⟩) (HU.out ⟨c, bb, i, f', ss, nn, g⟩) ?_
  intro wz HZ
  obtain ⟨tb, htb⟩ : ∃ tb, w1.heap.size = tb := ⟨_, rfl⟩
  rw [htb] at HZ ⊢
  clear htb hlt1 hlt2 HU
  obtain ⟨b0, b1, b2, b3, b4, b5, b6, g0, g1, g2, g3, g4, g5, g6⟩ := box7f HZ.b4
  obtain ⟨d0, d1, d2, d3, d4, d5, d6⟩ := box7 HZ.bt
  have HE := Aside0.mk (HZ.fill hlt)
  clear HZ
  have hS := HS1.out
  clear HS1
  by_cases hbig : nn > 1000
  ·rw [if_pos hbig] at hS
   subst hS
   go_wp2_with fail
   refine bodyPost_ret (results_cttt rfl _ _ w.heap.size 35 _ (0, 0) _ rfl (HE.out _ _ _ _ _ _ _).1 Try.underlying35 rfl (by kernel_rfl)) rfl ?_
   exact ⟨(HE.out _ _ _ _ _ _ _).2.1, rfl⟩
  rw [if_neg hbig] at hS
  rcases HTT1.out with ⟨h1, _⟩ | ⟨h1, h0, -, -⟩ | ⟨h1, m, h0, h2, h3, j, hj⟩
  ·simp only at h1
   subst h1
   rw [if_pos rfl] at hS
   subst hS
   go_wp2_with fail
   refine bodyPost_ret (results_cttt rfl _ _ w.heap.size 35 _ (0, 0) _ rfl (HE.out _ _ _ _ _ _ _).1 Try.underlying35 rfl (by kernel_rfl)) rfl ?_
   exact ⟨(HE.out _ _ _ _ _ _ _).2.1, rfl⟩
  ·simp only at h1 h0
   subst h0
   rcases h1 with rfl | rfl | rfl | rfl | rfl | rfl | rfl
   all_goals
    rw [if_neg (by decide), if_neg (by decide)] at hS
    subst hS
    go_wp2_with fail
    refine bodyPost_ret (results_cttt rfl _ _ w.heap.size 35 _ (0, 0) _ rfl (HE.out _ _ _ _ _ _ _).1 Try.underlying35 rfl (by kernel_rfl)) rfl ?_
    exact ⟨(HE.out _ _ _ _ _ _ _).2.1, .slice none 0 0, .slice none 0 0, str, rfl, HSTR.out, Kd.R_nil _ _ _ _ _, Kd.R_nil _ _ _ _ _, (HE.out _ _ _ _ _ _ _).2.2⟩
  ·exact absurd h1 HNP1.out

theorem up_step (f : Nat) (ih : UpSaid f) (n : Nat) (hnf : n < f) (s : ByteArray) (sb : Nat) (w : World) (hn : n ≤ 5000) (hs : s.size ≤ 2000) (h : w.heap[sb]? = some (.cells #[.int .i64 ((n + 1 : Nat) : Int)] 3 (0, 0))) :
  Calls Try.prog 73 #[.string s, .pointer (some ⟨sb, 0, none⟩)] w fun e w' => UpR (su (f + 1) (n + 1) (bytesOf s)) w sb e w' := by
 cases hk : tks (bytesOf s) with
 | bad => exact up_plain f ih n s sb w hn hs (by intro t r h; rw [hk] at h; cases h) h
 | wild => exact up_plain f ih n s sb w hn hs (by intro t r h; rw [hk] at h; cases h) h
 | ok t r =>
  by_cases h4 : t.c = 4
  ·exact up_parts4 f ih n hnf s sb w hn hs r t hk h4 h
  by_cases h6 : t.c = 6
  ·exact up_parts6 f ih n hnf s sb w hn hs r t hk h6 h
  by_cases h7 : t.c = 7
  ·exact up_parts7 f ih n hnf s sb w hn hs r t hk h7 h
  refine up_plain f ih n s sb w hn hs ?_ h
  intro t' r' h'
  rw [hk] at h'
  injection h' with h' _
  subst h'
  omega
theorem up_any : ∀ f, UpSaid f := by
 intro f
 induction f with
 | zero => intro n s sb w h; omega
 | succ f ih =>
  intro n s sb w hn hn2 hs h
  cases n with
  | zero => exact up_zero f s sb w h
  | succ n => exact up_step f ih n (by omega) s sb w (by omega) hs h
end Go.Proofs.Ytjnookhdiolhgaa

namespace Go.Proofs.Ytjnookhdiolhgaa
set_option linter.unusedVariables false
set_option linter.unusedSimpArgs false
open Go.RowKit Go.Proofs.YtjnookhdiolhgaaW.PrintWords
open PAll (S26 k26 S35 k35)

/-- What Unpack answers. -/
def SpR (S : SUR) (w : World) (e : Ending) (w' : World) : Prop :=
 Below w.heap.size w w' ∧ match S with
 | .opn => e = .returned (.tuple #[z35v, .int .i64 0, .bool false, .int .i64 2])
 | .bad => e = .returned (.tuple #[z35v, .int .i64 0, .bool false, .int .i64 1])
 | .ok x r n => ∃ (v5 v6 : Value), e = .returned (.tuple #[.agg #[.int .i64 x.f0, .bool x.f1, .int .i64 x.f2, .int .u64 x.f3, .string x.f4, v5, v6], .int .i64 r.length, .bool true, .int .i64 1]) ∧
   Kd.string.R 9 w' w.heap.size (fun k => w.heap.size ≤ k) v5 x.f5 ∧ k35.R 35 w' w.heap.size (fun k => w.heap.size ≤ k) v6 (convAll x.f6)
def SUW (w : World) : World := (w.alloc z35o).alloc (.cells #[.int .i64 5000] 3)
theorem SUW_b4 (w : World) : (SUW w).heap[w.heap.size]? = some z35o := (Below.heap_alloc (w.alloc z35o) _ _ (by simp)).trans (heap_alloc_new w z35o)
theorem SUW_bs (w : World) : (SUW w).heap[w.heap.size + 1]? = some (.cells #[.int .i64 5000] 3 (0, 0)) := by
 have h := heap_alloc_new (w.alloc z35o) (.cells #[.int .i64 5000] 3)
 rw [World.size_alloc] at h
 exact h
theorem SUW_bel (w : World) : Below w.heap.size w (SUW w) := below_alloc (below_alloc (Below.refl _ _) _) _
theorem SUW_after {w w2 : World} (hg : (SUW w).grownBy w2 (some (w.heap.size + 1))) (a b c d e f g a' b' c' d' e' f' g' : Value) :
  (set7 (set7 w2 w.heap.size a b c d e f g) w.heap.size a' b' c' d' e' f' g').heap[w.heap.size]? = some (.cells #[a', b', c', d', e', f', g'] 35 (0, 0)) ∧ Below w.heap.size w (set7 (set7 w2 w.heap.size a b c d e f g) w.heap.size a' b' c' d' e' f' g') := by
 have hb4 := blk_grown (SUW_b4 w) hg (by intro he; injection he with he; omega)
 have hb := (SUW_bel w).grown hg (by unfold SUW; rw [World.size_alloc, World.size_alloc]; omega) (by intro q hq; injection hq with hq; omega)
 have h1 := Nat.le_refl w.heap.size
 exact ⟨fill35 (fill35 hb4), below_set (below_set (below_set (below_set (below_set (below_set (below_set (below_set (below_set (below_set (below_set (below_set (below_set (below_set hb h1) h1) h1) h1) h1) h1) h1) h1) h1) h1) h1) h1) h1) h1⟩

set_option maxHeartbeats 8000000 in
set_option maxRecDepth 100000 in
theorem spU_any (hup : UpSaid 6000) (s : ByteArray) (w : World) (hs : s.size ≤ 2000) :
  Calls Try.prog 31 #[.string s] w fun e w' => SpR (su 6000 5000 (bytesOf s)) w e w' := by
 have HC := Aside0.mk (hup 5000 s (w.heap.size + 1) (SUW w) (by omega) (by omega) hs (SUW_bs w))
 clear hup
 obtain ⟨S, hS⟩ : ∃ S, su 6000 5000 (bytesOf s) = S := ⟨_, rfl⟩
 rw [hS]
 have HS := Aside0.mk hS
 clear hS
 go_enter Try.func31, Try.ntmps31
 go_wp2_with fail
 refine HC.out.mono ?_
 rintro e w2 ⟨hg, hP⟩
 have HA := Aside0.mk (@SUW_after w w2 hg)
 have hb4 := blk_grown (SUW_b4 w) hg (by intro he; injection he with he; omega)
 unfold z35o at hb4
 obtain ⟨b0, b1, b2, b3, b4, b5, b6, g0, g1, g2, g3, g4, g5, g6⟩ := box7f hb4
 have hlt := blk_lt hb4
 have HG := Aside0.mk hg
 clear hb4 hg HC
 rw [HS.out] at hP
 cases S with
 | opn =>
  obtain rfl := hP
  unfold z35v
  go_wp2_with fail
  refine bodyPost_ret (results_cttt rfl _ _ w.heap.size 35 _ (0, 0) _ rfl (HA.out _ _ _ _ _ _ _ _ _ _ _ _ _ _).1 Try.underlying35 rfl (by kernel_rfl)) rfl ?_
  exact ⟨(HA.out _ _ _ _ _ _ _ _ _ _ _ _ _ _).2, rfl⟩
 | bad =>
  obtain rfl := hP
  unfold z35v
  go_wp2_with fail
  refine bodyPost_ret (results_cttt rfl _ _ w.heap.size 35 _ (0, 0) _ rfl (HA.out _ _ _ _ _ _ _ _ _ _ _ _ _ _).1 Try.underlying35 rfl (by kernel_rfl)) rfl ?_
  exact ⟨(HA.out _ _ _ _ _ _ _ _ _ _ _ _ _ _).2, rfl⟩
 | ok x r n =>
  obtain ⟨v5, v6, str, rfl, hstr, hr5, hr6, -⟩ := hP
  obtain ⟨A5, n5, d5, rfl⟩ : ∃ A5 n5 d5, v5 = .slice A5 n5 d5 := by obtain ⟨A, c, h⟩ := Kd.R_slice hr5; exact ⟨A, _, c, h⟩
  obtain ⟨A6, n6, d6, rfl⟩ : ∃ A6 n6 d6, v6 = .slice A6 n6 d6 := by obtain ⟨A, c, h⟩ := Kd.R_slice hr6; exact ⟨A, _, c, h⟩
  have hl : str.size = r.length := by rw [← hstr, bytesOf_length]
  have hszW : (SUW w).heap.size = w.heap.size + 2 := by unfold SUW; rw [World.size_alloc, World.size_alloc]
  have hle := su_le 6000 5000 (bytesOf s) x r n HS.out
  rw [bytesOf_length] at hle
  have HL := Aside0.mk hl
  have HR := Aside0.mk (And.intro hr5 (And.intro hr6 hszW))
  have hss : str.size ≤ 2000 := by omega
  clear hstr hr5 hr6 hl hszW hle
  go_wp2_with fail
  refine bodyPost_ret (results_cttt rfl _ _ w.heap.size 35 _ (0, 0) _ rfl (HA.out _ _ _ _ _ _ _ _ _ _ _ _ _ _).1 Try.underlying35 rfl (by kernel_rfl)) rfl ?_
  obtain ⟨hr5, hr6, hszW⟩ := HR.out
  refine ⟨(HA.out _ _ _ _ _ _ _ _ _ _ _ _ _ _).2, _, _, by rw [← HL.out]; rfl, ?_, ?_⟩
  ·exact Kd.R_lower (Kd.R_mono (far7R (far7R hr5 (fun q (hq : (SUW w).heap.size ≤ q) => by omega) _ _ _ _ _ _ _) (fun q (hq : (SUW w).heap.size ≤ q) => by omega) _ _ _ _ _ _ _) (fun q (hq : (SUW w).heap.size ≤ q) => by show w.heap.size ≤ q; omega)) (by omega)
  ·exact Kd.R_lower (Kd.R_mono (far7R (far7R hr6 (fun q hq => by have := hq.1; omega) _ _ _ _ _ _ _) (fun q hq => by have := hq.1; omega) _ _ _ _ _ _ _) (fun q hq => by show w.heap.size ≤ q; have := hq.1; omega)) (by omega)
end Go.Proofs.Ytjnookhdiolhgaa

namespace Go.Proofs.Ytjnookhdiolhgaa
set_option linter.unusedVariables false
set_option linter.unusedSimpArgs false
open Go.RowKit Go.Proofs.YtjnookhdiolhgaaW.PrintWords
open PAll (S26 k26 rd_T26)

mutual
/-- No map of it has more than a thousand keys. -/
def okK : S26 → Prop
 | ⟨_, _, _, _, _, keys, kids⟩ => keys.length ≤ 1000 ∧ okKs kids
def okKs : List S26 → Prop
 | [] => True
 | x :: r => okK x ∧ okKs r
end
theorem okKs_at {l : List S26} (ho : okKs l) {j : Nat} {x : S26} (h : l[j]? = some x) : okK x := by
 induction l generalizing j with
 | nil => simp at h
 | cons y r ih =>
  simp only [okKs] at ho
  cases j with
  | zero => simp at h; subst h; exact ho.1
  | succ j => exact ih ho.2 (by simpa using h)
theorem same_l2 (N : Nat) (a0 : Int) (a1 : Bool) (a2 a3 : Int) (a4 : ByteArray) (a5 : List ByteArray) (l : List S26) (hl : l.length ≤ 6000) (ih : ∀ (j : Nat) y, l[j]? = some y → Same N y) : ∀ (m j : Nat), j + m = l.length → ∀ k, 5 * N + 5 + m + 1 ≤ k →
  PAll.laws_same.l0 k (l.length : Int) (j : Int) a0 a1 a2 a3 a4 a5 l a0 a1 a2 a3 a4 a5 l = some true := by
 intro m
 induction m with
 | zero =>
  intro j hj k hk
  obtain ⟨k, rfl⟩ : ∃ k', k = k' + 1 := ⟨k - 1, by omega⟩
  simp only [PAll.laws_same.l0]
  rw [if_neg (by omega)]
 | succ m ihm =>
  intro j hj k hk
  obtain ⟨k, rfl⟩ : ∃ k', k = k' + 1 := ⟨k - 1, by omega⟩
  have hj' : j < l.length := by omega
  have hr : rd_T26 l (j : Int) = l[j] := by unfold PAll.rd_T26; rw [Int.toNat_natCast, List.getD_eq_getElem?_getD, List.getElem?_eq_getElem hj']; rfl
  simp only [PAll.laws_same.l0]
  rw [if_pos (by omega), if_pos (by omega), if_pos (by omega), if_pos (by omega), hr, ih j l[j] (List.getElem?_eq_getElem hj') k (by omega)]
  simp only [if_true, if_pos, Option.bind_some]
  rw [wrap64_self' (by omega)]
  exact ihm (j + 1) (by omega) k (by omega)
theorem same_f2 (x : S26) : ∀ N, nodes x ≤ N → N ≤ 6000 → okK x → Same (6001 * N) x := by
 intro N
 induction N generalizing x with
 | zero => intro h; have := nodes_pos x; omega
 | succ N ih =>
  intro h hN hok k hk
  obtain ⟨a0, a1, a2, a3, a4, a5, l⟩ := x
  simp only [nodes] at h
  simp only [okK] at hok
  have hl := nodesAll_len l
  obtain ⟨k, rfl⟩ : ∃ k', k = k' + 2 := ⟨k - 2, by omega⟩
  simp only [PAll.laws_same.f]
  rw [if_pos trivial, if_neg (by simp), if_pos trivial, if_pos trivial, if_pos trivial, texts_f a5 (by omega) _ (by omega)]
  simp only [if_true, if_pos, Option.bind_some]
  simp only [PAll.laws_same.j0]
  rw [if_neg (by simp)]
  exact same_l2 (6001 * N) a0 a1 a2 a3 a4 a5 l (by omega) (fun j y hy => ih y (by have := nodes_at hy; omega) (by omega) (okKs_at hok.2 hy)) l.length 0 (by omega) k (by omega)
/-- Two values in memory that are the same. -/
theorem same_any2 (x : S26) (hok : okK x) (hn : nodes x ≤ 6000) (A5 : Option Addr) (c5 : Nat) (A6 : Option Addr) (c6 : Nat) (B5 : Option Addr) (d5 : Nat) (B6 : Option Addr) (d6 : Nat) (w : World)
  (h5 : Kd.C Kd.string w A5 x.f5.length x.f5) (l5 : x.f5.length ≤ c5) (h6 : Kd.C k26 w A6 x.f6.length x.f6) (l6 : x.f6.length ≤ c6) (g5 : Kd.C Kd.string w B5 x.f5.length x.f5) (m5 : x.f5.length ≤ d5) (g6 : Kd.C k26 w B6 x.f6.length x.f6) (m6 : x.f6.length ≤ d6) :
  Calls Try.prog 32 #[.agg #[.int .i64 x.f0, .bool x.f1, .int .i64 x.f2, .int .u64 x.f3, .string x.f4, .slice A5 x.f5.length c5, .slice A6 x.f6.length c6], .agg #[.int .i64 x.f0, .bool x.f1, .int .i64 x.f2, .int .u64 x.f3, .string x.f4, .slice B5 x.f5.length d5, .slice B6 x.f6.length d6]] w fun e w' => e = .returned (.bool true) ∧ Below w.heap.size w w' :=
 PAll.laws_same.calls _ _ _ _ _ _ _ _ _ _ _ _ _ _ _ _ _ _ _ _ _ _ _ true w h5 l5 h6 l6 g5 m5 g6 m6 (same_f2 x (nodes x) (Nat.le_refl _) hn hok _ (Nat.le_refl _))

theorem suRows_good (p : Nat → List Int → SUR) (m : Bool) (hp : ∀ n xs x r n', p n xs = .ok x r n' → nodes x + n' ≤ n ∧ okK x) :
  ∀ (k n : Nat) (r : List Int) (ks : List ByteArray) (ls : List S26) (r2 : List Int) (n2 : Nat), suRows p m k n r = .ok ks ls r2 n2 → nodesAll ls + n2 ≤ n ∧ okKs ls ∧ ks.length ≤ k := by
 intro k
 induction k with
 | zero => intro n r ks ls r2 n2 h; injection h with h3 h4 h1 h2; subst h1; subst h2; subst h3; subst h4; exact ⟨by simp [nodesAll], trivial, Nat.le_refl _⟩
 | succ k ihk =>
  intro n r ks ls r2 n2 h
  have main : ∀ (r1 : List Int) (kk : List ByteArray), kk.length ≤ 1 → (match p n r1 with | .opn => SURs.opn | .bad => .bad | .ok x r2 n2 => (suRows p m k n2 r2).pre kk x) = .ok ks ls r2 n2 → nodesAll ls + n2 ≤ n ∧ okKs ls ∧ ks.length ≤ k + 1 := by
   intro r1 kk hr1 h
   cases hq : p n r1 with
   | opn => rw [hq] at h; cases h
   | bad => rw [hq] at h; cases h
   | ok x r3 n3 =>
    rw [hq] at h
    simp only at h
    have h3 := hp n r1 x r3 n3 hq
    cases hs : suRows p m k n3 r3 with
    | opn => rw [hs] at h; cases h
    | bad => rw [hs] at h; cases h
    | ok a b r4 n4 =>
     rw [hs] at h
     injection h with h3' h4' h1 h2
     subst h1
     subst h2
     subst h3'
     subst h4'
     have h4 := ihk n3 r3 a b r4 n4 hs
     simp only [nodesAll, okKs, List.length_append]
     exact ⟨by omega, ⟨h3.2, h4.2.1⟩, by omega⟩
  unfold suRows at h
  cases m with
  | false => exact main r [] (Nat.zero_le _) h
  | true =>
   simp only [if_true] at h
   cases hT : tks r with
   | wild => rw [hT] at h; cases h
   | bad => rw [hT] at h; cases h
   | ok t r1 =>
    rw [hT] at h
    simp only at h
    by_cases h3 : t.c ≠ 3
    ·rw [if_pos h3] at h; cases h
    ·rw [if_neg h3] at h
     exact main r1 [t.s] (Nat.le_refl _) h
theorem tv_good (t : TKN) : nodes (tv t) = 1 ∧ okK (tv t) := by
 have h0 : ∀ a b c d s, nodes ⟨a, b, c, d, s, [], []⟩ = 1 ∧ okK ⟨a, b, c, d, s, [], []⟩ := fun a b c d s => ⟨by simp [nodes, nodesAll], by simp [okK, okKs]⟩
 unfold tv
 split
 ·exact h0 _ _ _ _ _
 split
 ·exact h0 _ _ _ _ _
 split
 ·exact h0 _ _ _ _ _
 split
 ·exact h0 _ _ _ _ _
 split
 ·exact h0 _ _ _ _ _
 exact h0 _ _ _ _ _
theorem su_good : ∀ (f n : Nat) (xs : List Int) (x : S26) (r : List Int) (n' : Nat), su f n xs = .ok x r n' → nodes x + n' ≤ n ∧ okK x := by
 intro f
 induction f with
 | zero => intro n xs x r n' h; cases h
 | succ f ih =>
  intro n xs x r n' h
  cases n with
  | zero => cases h
  | succ n =>
   unfold su at h
   cases hT : tks xs with
   | wild => rw [hT] at h; cases h
   | bad => rw [hT] at h; cases h
   | ok t r1 =>
    rw [hT] at h
    simp only at h
    by_cases hN : 1000 < t.n
    ·rw [if_pos hN] at h; cases h
    rw [if_neg hN] at h
    by_cases h0 : t.c = 0
    ·rw [if_pos h0] at h; cases h
    rw [if_neg h0] at h
    by_cases h4 : t.c = 4 ∨ t.c = 6 ∨ t.c = 7
    ·rw [if_pos h4] at h
     cases hs : suRows (su f) (t.c == 7) t.n.toNat n r1 with
     | opn => rw [hs] at h; cases h
     | bad => rw [hs] at h; cases h
     | ok a b r4 n4 =>
      rw [hs] at h
      injection h with h0 h1 h2
      subst h0
      subst h1
      subst h2
      have := suRows_good (su f) (t.c == 7) ih _ _ _ _ _ _ _ hs
      simp only [nodes, okK]
      exact ⟨by omega, by omega, this.2.1⟩
    ·rw [if_neg h4] at h
     injection h with h0 h1 h2
     subst h0
     subst h1
     subst h2
     have := tv_good t
     exact ⟨by omega, this.2⟩
end Go.Proofs.Ytjnookhdiolhgaa

namespace Go.Proofs.Ytjnookhdiolhgaa
set_option linter.unusedVariables false
set_option linter.unusedSimpArgs false
open Go.RowKit Go.Proofs.YtjnookhdiolhgaaW.PrintWords
open Go.Proofs.YtjnookhdiolhgaaW.PrintLast (goes_)
open PAll (S26 k26 S35 k35 rd_T35)

mutual
/-- A reference's value as the program's. -/
def unc : S35 → S26
 | ⟨k, b, i, f, s, keys, kids⟩ => ⟨k, b, i, f, s, keys, uncAll kids⟩
def uncAll : List S35 → List S26
 | [] => []
 | x :: r => unc x :: uncAll r
end
theorem uncAll_length : ∀ l : List S35, (uncAll l).length = l.length
 | [] => rfl
 | x :: r => by simp [uncAll, uncAll_length r]
theorem uncAll_take {l : List S35} {j : Nat} {x : S35} (h : l[j]? = some x) : uncAll (l.take (j + 1)) = uncAll (l.take j) ++ [unc x] := by
 induction l generalizing j with
 | nil => simp at h
 | cons y r ih =>
  cases j with
  | zero => simp at h; subst h; simp [uncAll]
  | succ j => simp at h; simp only [List.take_succ_cons, uncAll, List.cons_append]; rw [ih h]
theorem uncAll_at {l : List S35} {j : Nat} {x : S35} (h : l[j]? = some x) : (uncAll l)[j]? = some (unc x) := by
 induction l generalizing j with
 | nil => simp at h
 | cons y r ih =>
  cases j with
  | zero => simp at h; subst h; simp [uncAll]
  | succ j => simp at h; simp only [uncAll, List.getElem?_cons_succ]; exact ih h
mutual
theorem unc_conv : ∀ x : S26, unc (conv x) = x
 | ⟨k, b, i, f, s, keys, kids⟩ => by simp only [conv, unc]; rw [uncAll_conv kids]
theorem uncAll_conv : ∀ l : List S26, uncAll (convAll l) = l
 | [] => rfl
 | x :: r => by simp only [convAll, uncAll]; rw [unc_conv x, uncAll_conv r]
end
def nodes35 (x : S35) : Nat := nodes (unc x)
def nodesAll35 (l : List S35) : Nat := nodesAll (uncAll l)
theorem nodes35_pos (x : S35) : 1 ≤ nodes35 x := nodes_pos _
theorem nodesAll35_len (l : List S35) : l.length ≤ nodesAll35 l := by rw [← uncAll_length]; exact nodesAll_len _
theorem nodes35_at {l : List S35} {j : Nat} {x : S35} (h : l[j]? = some x) : nodes35 x ≤ nodesAll35 l := nodes_at (uncAll_at h)
def valOf35 (x : S35) (A5 : Option Addr) (c5 : Nat) (A6 : Option Addr) (c6 : Nat) : Value :=
 .agg #[.int .i64 x.f0, .bool x.f1, .int .i64 x.f2, .int .u64 x.f3, .string x.f4, .slice A5 x.f5.length c5, .slice A6 x.f6.length c6]

/-- A reference's value that is made, but for its keys, which came in. -/
def G26 (w0 : World) (d : Kd S26) : Kd S26 := Kd.iso (Kd.pair (Kd.int .i64) (Kd.pair Kd.bool (Kd.pair (Kd.int .i64) (Kd.pair (Kd.int .u64) (Kd.pair Kd.string (Kd.pair (Kd.fixed (Kd.slice 9 Kd.string) w0) (Kd.slice 26 d))))))) (fun x : S26 => (x.f0, x.f1, x.f2, x.f3, x.f4, x.f5, x.f6))
theorem mono26s (w0 : World) : Kd.Mono (G26 w0) := Kd.mono_iso _ (Kd.mono_pair (Kd.mono_const _) (Kd.mono_pair (Kd.mono_const _) (Kd.mono_pair (Kd.mono_const _) (Kd.mono_pair (Kd.mono_const _) (Kd.mono_pair (Kd.mono_const _) (Kd.mono_pair (Kd.mono_const _) (Kd.mono_slice 26 Kd.mono_id)))))))
theorem sub26s (w0 : World) : Kd.Sub (G26 w0) [9, 26] := Kd.sub_iso _ (Kd.sub_pair (Kd.sub_const _ (by intro q h; cases h)) (Kd.sub_pair (Kd.sub_const _ (by intro q h; cases h)) (Kd.sub_pair (Kd.sub_const _ (by intro q h; cases h)) (Kd.sub_pair (Kd.sub_const _ (by intro q h; cases h)) (Kd.sub_pair (Kd.sub_const _ (by intro q h; cases h)) (Kd.sub_pair (Kd.sub_const _ (by intro q h; cases h)) (Kd.sub_slice 26 (by decide) Kd.sub_id)))))))
theorem sz26s (w0 : World) : ∀ n, (Kd.upto (G26 w0) 7 [9, 26] n).sz = 7 := Kd.upto_sz (fun _ => rfl)
def k26s (w0 : World) : Kd S26 := Kd.fix (G26 w0) 7 [9, 26] (sz26s w0) (Kd.upto_E (sub26s w0))
theorem k26s_mkM (w0 w : World) (base : Nat) (ok : Nat → Prop) (x : S26) {A5 : Option Addr} {c5 : Nat} (l5 : x.f5.length ≤ c5) (g5 : Kd.string.C w0 A5 x.f5.length x.f5) {v6 : Value} (g6 : (k26s w0).R 26 w base ok v6 x.f6) : (k26s w0).M w base ok x [.int .i64 x.f0, .bool x.f1, .int .i64 x.f2, .int .u64 x.f3, .string x.f4, .slice A5 x.f5.length c5, v6] := by
 obtain ⟨n6, q6⟩ := Kd.fix_R_back (mono26s w0) g6
 exact ⟨n6 + 1, ⟨[.int .i64 x.f0], [.bool x.f1, .int .i64 x.f2, .int .u64 x.f3, .string x.f4, .slice A5 x.f5.length c5, v6], rfl, rfl, ⟨[.bool x.f1], [.int .i64 x.f2, .int .u64 x.f3, .string x.f4, .slice A5 x.f5.length c5, v6], rfl, rfl, ⟨[.int .i64 x.f2], [.int .u64 x.f3, .string x.f4, .slice A5 x.f5.length c5, v6], rfl, rfl, ⟨[.int .u64 x.f3], [.string x.f4, .slice A5 x.f5.length c5, v6], rfl, rfl, ⟨[.string x.f4], [.slice A5 x.f5.length c5, v6], rfl, rfl, ⟨[.slice A5 x.f5.length c5], [v6], rfl, ⟨A5, c5, rfl, l5, g5⟩, ⟨v6, rfl, q6⟩⟩⟩⟩⟩⟩⟩⟩
theorem k26s_K (w0 : World) (n : Nat) : ∀ (w : World) (x : S26) (cs : List Value), Below w0.heap.size w0 w → (Kd.upto (G26 w0) 7 [9, 26] n).K w x cs → k26.K w x cs := by
 induction n with
 | zero => intro w x cs hb h; exact h.elim
 | succ n ih =>
  intro w x cs hb h
  obtain ⟨_, _, rfl, rfl, ⟨_, _, rfl, rfl, ⟨_, _, rfl, rfl, ⟨_, _, rfl, rfl, ⟨_, _, rfl, rfl, ⟨_, _, rfl, ⟨A5, c5, rfl, l5, g5⟩, ⟨A6, c6, rfl, l6, g6⟩⟩⟩⟩⟩⟩⟩ := h
  have g6' : k26.C w A6 x.f6.length x.f6 := Kd.C_read (by rw [sz26s]; rfl) (fun y cs hy => ih w y cs hb hy) g6
  exact PAll.k26_mk w x l5 (Kd.C_below g5 hb) l6 g6'
theorem k26s_read {w0 w : World} {x : S26} {cs : List Value} (hb : Below w0.heap.size w0 w) (h : (k26s w0).K w x cs) : k26.K w x cs := by
 obtain ⟨n, h⟩ := h
 exact k26s_K w0 n w x cs hb h
theorem k26s_C {w0 w : World} {A : Option Addr} {n : Nat} {xs : List S26} (hb : Below w0.heap.size w0 w) (h : (k26s w0).C w A n xs) : k26.C w A n xs := Kd.C_read (d := k26) (dm := k26s w0) rfl (fun _ _ hy => k26s_read hb hy) h
/-- specVal's contract for values of at most N parts. -/
def ImplSaid (N : Nat) : Prop :=
 ∀ (x : S35) (A5 : Option Addr) (c5 : Nat) (A6 : Option Addr) (c6 : Nat) (w0 w : World), nodes35 x ≤ N → N ≤ 6000 → x.f5.length ≤ c5 → x.f6.length ≤ c6 → Kd.C Kd.string w0 A5 x.f5.length x.f5 → Kd.C k35 w0 A6 x.f6.length x.f6 → Below w0.heap.size w0 w →
  Calls Try.prog 33 #[valOf35 x A5 c5 A6 c6] w fun e w' => ∃ v6, e = .returned (.agg #[.int .i64 x.f0, .bool x.f1, .int .i64 x.f2, .int .u64 x.f3, .string x.f4, .slice A5 x.f5.length c5, v6]) ∧
   (k26s w0).R 26 w' w.heap.size (fun k => w.heap.size ≤ k) v6 (uncAll x.f6) ∧ Below w.heap.size w w'

/-- What the loop holds. -/
structure IV (w0 w wr : World) (k : Int) (b : Bool) (i f : Int) (s : ByteArray) (A5 : Option Addr) (n5 c5 : Nat) (v6 : Value) (A6 : Option Addr) (n6 c6 : Nat) (l : List S26) : Prop where
 bel : Below w.heap.size w wr
 inn : wr.heap[w.heap.size]? = some (.cells #[.int .i64 k, .bool b, .int .i64 i, .int .u64 f, .string s, .slice A5 n5 c5, .slice A6 n6 c6] 35 (0, 0))
 res : wr.heap[w.heap.size + 1]? = some (.cells #[.int .i64 0, .bool false, .int .i64 0, .int .u64 0, .string ⟨#[]⟩, .slice none 0 0, .slice none 0 0] 26 (0, 0))
 out : wr.heap[w.heap.size + 1 + 1]? = some (.cells #[.int .i64 k, .bool b, .int .i64 i, .int .u64 f, .string s, .slice A5 n5 c5, v6] 26 (0, 0))
 row : (k26s w0).R 26 wr (w.heap.size + 3) (fun k => w.heap.size + 3 ≤ k) v6 l

theorem unc_eq (y : S35) : unc y = ⟨y.f0, y.f1, y.f2, y.f3, y.f4, y.f5, uncAll y.f6⟩ := by cases y; rfl
theorem iv_own {w0 w wr : World} {k : Int} {b : Bool} {i f : Int} {s : ByteArray} {A5 : Option Addr} {n5 c5 : Nat} {v6 : Value} {A6 : Option Addr} {n6 c6 : Nat} {l : List S26} (h : IV w0 w wr k b i f s A5 n5 c5 v6 A6 n6 c6 l) :
  ∀ g, v6.ownBlock = some g → w.heap.size + 3 ≤ g ∧ g < wr.heap.size := fun g hg => by
 have h1 := (Kd.R_bound h.row).1 g hg
 exact ⟨h1.1, h1.2.2.1⟩
theorem iv_keep {w0 w wr w2 w1 : World} {k : Int} {b : Bool} {i f : Int} {s : ByteArray} {A5 : Option Addr} {n5 c5 : Nat} {v6 : Value} {A6 : Option Addr} {n6 c6 : Nat} {l : List S26} (h : IV w0 w wr k b i f s A5 n5 c5 v6 A6 n6 c6 l)
  (hb : Below wr.heap.size wr w2) (hg : w2.grownBy w1 v6.ownBlock) : Below w.heap.size w w1 ∧ ∀ g, g < w.heap.size + 3 → g < wr.heap.size → w1.heap[g]? = wr.heap[g]? := by
 have ho := iv_own h
 have hsz := h.bel.size
 have hsz2 := hb.size
 refine ⟨(h.bel.trans (hb.mono hsz)).grown hg (by omega) (by intro q hq; have := ho q hq; omega), fun g hg1 hg2 => ?_⟩
 exact (hg.block g (by omega) (by intro e; have := ho g e.symm; omega)).trans (hb.block g hg2)
theorem iv_next {w0 w wr w2 w1 : World} {k : Int} {b : Bool} {i f : Int} {s : ByteArray} {A5 : Option Addr} {n5 c5 : Nat} {v6 v1 : Value} {A6 : Option Addr} {n6 c6 : Nat} {l : List S26} {p : S26} (h : IV w0 w wr k b i f s A5 n5 c5 v6 A6 n6 c6 l)
  (hb : Below wr.heap.size wr w2) (hg : w2.grownBy w1 v6.ownBlock) (hr : (k26s w0).R 26 w1 (w.heap.size + 3) (fun k => w.heap.size + 3 ≤ k) v1 (l ++ [p])) :
  IV w0 w (w1.setCell ⟨w.heap.size + 1 + 1, 6, none⟩ v1) k b i f s A5 n5 c5 v1 A6 n6 c6 (l ++ [p]) := by
 obtain ⟨h1, h2⟩ := iv_keep h hb hg
 have l0 := blk_lt h.inn
 have l1 := blk_lt h.res
 have l2 := blk_lt h.out
 refine ⟨h1.setCell (by show w.heap.size ≤ w.heap.size + 1 + 1; omega) _, ?_, ?_, ?_, ?_⟩
 ·exact (Below.heap_setCell w1 ⟨w.heap.size + 1 + 1, 6, none⟩ v1 _ (by show w.heap.size ≠ w.heap.size + 1 + 1; omega)).trans ((h2 _ (by omega) l0).trans h.inn)
 ·exact (Below.heap_setCell w1 ⟨w.heap.size + 1 + 1, 6, none⟩ v1 _ (by show w.heap.size + 1 ≠ w.heap.size + 1 + 1; omega)).trans ((h2 _ (by omega) l1).trans h.res)
 ·exact blk_put ((h2 _ (by omega) l2).trans h.out) 6 v1 rfl
 ·exact Kd.R_far hr (p := ⟨w.heap.size + 1 + 1, 6, none⟩) (fun q hq => by show q ≠ w.heap.size + 1 + 1; omega) v1


set_option maxHeartbeats 4000000 in
set_option maxRecDepth 100000 in
theorem impl_step (N : Nat) (ih : ImplSaid N) (k : Int) (b : Bool) (i f : Int) (s : ByteArray) (keys : List ByteArray) (kids : List S35) (A5 : Option Addr) (c5 : Nat) (A6 : Option Addr) (c6 : Nat) (w0 w : World)
  (hN : nodesAll35 kids ≤ N) (hN2 : N ≤ 5999) (hc5 : keys.length ≤ c5) (hc6 : kids.length ≤ c6) (hk5 : Kd.C Kd.string w0 A5 keys.length keys) (hk6 : Kd.C k35 w0 A6 kids.length kids) (hw : Below w0.heap.size w0 w) :
  Calls Try.prog 33 #[.agg #[.int .i64 k, .bool b, .int .i64 i, .int .u64 f, .string s, .slice A5 keys.length c5, .slice A6 kids.length c6]] w fun e w' => ∃ v6, e = .returned (.agg #[.int .i64 k, .bool b, .int .i64 i, .int .u64 f, .string s, .slice A5 keys.length c5, v6]) ∧
   (k26s w0).R 26 w' w.heap.size (fun k => w.heap.size ≤ k) v6 (uncAll kids) ∧ Below w.heap.size w w' := by
 have hkn := nodesAll35_len kids
 have hkn2 : kids.length ≤ 6000 := by omega
 have HK5 := Aside0.mk hk5
 have HK6 := Aside0.mk hk6
 have HW := Aside0.mk hw
 have HN := Aside0.mk (And.intro hN hN2)
 have HC5 := Aside0.mk hc5
 have HC6 := Aside0.mk hc6
 clear hk5 hk6 hw hN hN2 hkn hc5 hc6
 go_enter Try.func33, Try.ntmps33
 go_wp2_with fail
 have hiv : IV w0 w (((w.alloc (.cells #[.int .i64 k, .bool b, .int .i64 i, .int .u64 f, .string s, .slice A5 keys.length c5, .slice A6 kids.length c6] 35)).alloc (.cells #[.int .i64 0, .bool false, .int .i64 0, .int .u64 0, .string ⟨#[]⟩, .slice none 0 0, .slice none 0 0] 26)).alloc (.cells #[.int .i64 k, .bool b, .int .i64 i, .int .u64 f, .string s, .slice A5 keys.length c5, .slice none 0 0] 26)) k b i f s A5 keys.length c5 (.slice none 0 0) A6 kids.length c6 [] := by
  refine ⟨below_alloc (below_alloc (below_alloc (Below.refl _ _) _) _) _, ?_, ?_, ?_, Kd.R_nil _ _ _ _ _⟩
  ·exact (Below.heap_alloc _ _ _ (by simp; omega)).trans ((Below.heap_alloc _ _ _ (by simp)).trans (heap_alloc_new w _))
  ·refine (Below.heap_alloc _ _ _ (by simp)).trans ?_
   have h := heap_alloc_new (w.alloc (.cells #[.int .i64 k, .bool b, .int .i64 i, .int .u64 f, .string s, .slice A5 keys.length c5, .slice A6 kids.length c6] 35)) (.cells #[.int .i64 0, .bool false, .int .i64 0, .int .u64 0, .string ⟨#[]⟩, .slice none 0 0, .slice none 0 0] 26)
   rw [World.size_alloc] at h
   exact h
  ·have h := heap_alloc_new ((w.alloc (.cells #[.int .i64 k, .bool b, .int .i64 i, .int .u64 f, .string s, .slice A5 keys.length c5, .slice A6 kids.length c6] 35)).alloc (.cells #[.int .i64 0, .bool false, .int .i64 0, .int .u64 0, .string ⟨#[]⟩, .slice none 0 0, .slice none 0 0] 26)) (.cells #[.int .i64 k, .bool b, .int .i64 i, .int .u64 f, .string s, .slice A5 keys.length c5, .slice none 0 0] 26)
   rw [World.size_alloc, World.size_alloc] at h
   exact h
 have HIV := Aside0.mk hiv
 clear hiv
 go_loopg [22] kids.length (fun gk v22 wr => ∃ (j : Nat) (v6 : Value), v22 = .int .i64 j ∧ Aside0 (j ≤ kids.length ∧ gk = kids.length - j) ∧ Aside0 (IV w0 w wr k b i f s A5 keys.length c5 v6 A6 kids.length c6 (uncAll (kids.take j))))
 case atStart => exact ⟨0, _, rfl, ⟨by omega⟩, ⟨by simpa [uncAll] using HIV.out⟩⟩
 case round =>
  clear HIV
  obtain ⟨j, v6, rfl, HJ, HVJ⟩ := hrel
  obtain ⟨e0, e1, e2, e3, e4, e5, e6⟩ := box7 HVJ.out.out
  have f6 : wr.frozen? ⟨w.heap.size + 1 + 1, 6, none⟩ = false := blk_frozen HVJ.out.out 6
  have hszb : w.heap.size + 1 + 1 < wr.heap.size := blk_lt HVJ.out.out
  by_cases hj : j < kids.length
  ·clear e0 e1 e2 e3 e4 e5
   obtain ⟨y, hy⟩ : ∃ y, kids[j]? = some y := ⟨_, List.getElem?_eq_getElem hj⟩
   have hbr : Below w0.heap.size w0 wr := HW.out.trans (HVJ.out.bel.mono HW.out.size)
   obtain ⟨ad, B5, d5, B6, d6, hA, g0, g1, g2, g3, g4, g5, g6, l5, q5, l6, q6⟩ := PAll.at_T35 HK6.out (j : Int) (by omega) (by omega)
   have hry : rd_T35 kids (j : Int) = y := by unfold Go.Proofs.Ytjnookhdiolhgaa.PAll.rd_T35; rw [Int.toNat_natCast, List.getD_eq_getElem?_getD, hy]; rfl
   rw [hry] at g0 g1 g2 g3 g4 g5 g6 l5 q5 l6 q6
   rw [Int.toNat_natCast] at g0 g1 g2 g3 g4 g5 g6
   have h0 := pw_cell_below hbr g0
   have h1 := pw_cell_below hbr g1
   have h2 := pw_cell_below hbr g2
   have h3 := pw_cell_below hbr g3
   have h4 := pw_cell_below hbr g4
   have h5 := pw_cell_below hbr g5
   have h6 := pw_cell_below hbr g6
   subst hA
   have HY := Aside0.mk hy
   have HQ := Aside0.mk (And.intro l5 (And.intro q5 (And.intro l6 q6)))
   have HBR := Aside0.mk hbr
   have hny := nodes35_at hy
   have HNY := Aside0.mk hny
   clear g0 g1 g2 g3 g4 g5 g6 l5 q5 l6 q6 hry hy hbr hny
   have HIH := ih y B5 d5 B6 d6 w0 (wr.alloc (.cells #[.int .i64 y.f0, .bool y.f1, .int .i64 y.f2, .int .u64 y.f3, .string y.f4, .slice B5 y.f5.length d5, .slice B6 y.f6.length d6] 35)).drew (by have := HNY.out; have := HN.out.1; omega) (by have := HN.out.2; omega) HQ.out.1 HQ.out.2.2.1 HQ.out.2.1 HQ.out.2.2.2 (below_drew (below_alloc HBR.out (.cells #[.int .i64 y.f0, .bool y.f1, .int .i64 y.f2, .int .u64 y.f3, .string y.f4, .slice B5 y.f5.length d5, .slice B6 y.f6.length d6] 35)))
   unfold valOf35 at HIH
   have HX := Aside0.mk HIH
   clear HIH
   go_wp2_with fail
   have hb0 : Below wr.heap.size wr (wr.alloc (.cells #[.int .i64 y.f0, .bool y.f1, .int .i64 y.f2, .int .u64 y.f3, .string y.f4, .slice B5 y.f5.length d5, .slice B6 y.f6.length d6] 35)).drew := below_drew (below_alloc (Below.refl _ _) _)
   have hzz : (wr.alloc (.cells #[.int .i64 y.f0, .bool y.f1, .int .i64 y.f2, .int .u64 y.f3, .string y.f4, .slice B5 y.f5.length d5, .slice B6 y.f6.length d6] 35)).drew.heap.size = wr.heap.size + 1 := by show (wr.alloc (.cells #[.int .i64 y.f0, .bool y.f1, .int .i64 y.f2, .int .u64 y.f3, .string y.f4, .slice B5 y.f5.length d5, .slice B6 y.f6.length d6] 35)).heap.size = _; rw [World.size_alloc]
   have HAP : Aside0 (∀ (w2 : World) (v62 : Value), (k26s w0).R 26 w2 (wr.alloc (.cells #[.int .i64 y.f0, .bool y.f1, .int .i64 y.f2, .int .u64 y.f3, .string y.f4, .slice B5 y.f5.length d5, .slice B6 y.f6.length d6] 35)).drew.heap.size (fun k => (wr.alloc (.cells #[.int .i64 y.f0, .bool y.f1, .int .i64 y.f2, .int .u64 y.f3, .string y.f4, .slice B5 y.f5.length d5, .slice B6 y.f6.length d6] 35)).drew.heap.size ≤ k) v62 (uncAll y.f6) → Below (wr.alloc (.cells #[.int .i64 y.f0, .bool y.f1, .int .i64 y.f2, .int .u64 y.f3, .string y.f4, .slice B5 y.f5.length d5, .slice B6 y.f6.length d6] 35)).drew.heap.size (wr.alloc (.cells #[.int .i64 y.f0, .bool y.f1, .int .i64 y.f2, .int .u64 y.f3, .string y.f4, .slice B5 y.f5.length d5, .slice B6 y.f6.length d6] 35)).drew w2 →
     (k26s w0).M w2 (w.heap.size + 3) (fun k => wr.heap.size ≤ k) (unc y) [.int .i64 y.f0, .bool y.f1, .int .i64 y.f2, .int .u64 y.f3, .string y.f4, .slice B5 y.f5.length d5, v62] ∧
     (∀ k, wr.heap.size ≤ k → w.heap.size + 3 ≤ k ∧ some k ≠ v6.ownBlock) ∧ (∀ k, w2.heap.size ≤ k → w.heap.size + 3 ≤ k) ∧ (k26s w0).R 26 w2 (w.heap.size + 3) (fun k => w.heap.size + 3 ≤ k) v6 (uncAll (kids.take j)) ∧
     w.heap.size + 3 ≤ w2.heap.size ∧ ((uncAll (kids.take j)).length + 1) * 96 ≤ 140737488355328 ∧ Below wr.heap.size wr w2) := ⟨by
    intro w2 v62 hr hb
    rw [hzz] at hr hb
    have hb2 : Below wr.heap.size wr w2 := hb0.trans (hb.mono (by omega))
    have hs2 := hb2.size
    refine ⟨?_, fun q hq => ⟨by omega, fun e => by have := (iv_own HVJ.out) q e.symm; omega⟩, fun q hq => by omega, Kd.R_below HVJ.out.row hb2, by omega, ?_, hb2⟩
    ·rw [unc_eq]
     exact k26s_mkM w0 w2 _ _ ⟨y.f0, y.f1, y.f2, y.f3, y.f4, y.f5, uncAll y.f6⟩ HQ.out.1 HQ.out.2.1 (Kd.R_lower (Kd.R_mono hr (fun q (hq : wr.heap.size + 1 ≤ q) => by show wr.heap.size ≤ q; omega)) (by omega))
    ·rw [uncAll_length, List.length_take]
     omega⟩
   clear hb0 hzz
   go_region_law (first
    | (refine goes_ Try.func33 (by kernel_rfl) rfl #[.agg #[.int .i64 y.f0, .bool y.f1, .int .i64 y.f2, .int .u64 y.f3, .string y.f4, .slice B5 y.f5.length d5, .slice B6 y.f6.length d6]] (by rfl) rfl rfl (by simp only [List.map_toArray, List.map_cons, List.map_nil]; rfl) ?_
       refine (HX.out).mono ?_
       rintro e w2 ⟨v62, rfl, hr, hb⟩
       refine ⟨_, rfl, ?_⟩
       have hap := HAP.out w2 v62 hr hb
       have hk2 : w2.heap[w.heap.size + 1 + 1]? = some (.cells #[.int .i64 k, .bool b, .int .i64 i, .int .u64 f, .string s, .slice A5 keys.length c5, v6] 26 (0, 0)) := (hap.2.2.2.2.2.2.block _ hszb).trans HVJ.out.out
       have e6w : w2.cell? ⟨w.heap.size + 1 + 1, 6, none⟩ = some v6 := blk_cell hk2 6
       have hlt2 : w.heap.size + 1 + 1 < w2.heap.size := blk_lt hk2
       clear hk2)
    | (refine Kd.R_append_step (W := w2) (w0 := w2) (k26s w0) (w.heap.size + 3) (by rfl) (.tmp 27) (.tmp 30) 24 26 _ 96 rfl Try.underlying24 info26 rfl (by show 0 < 7; decide) (by decide) v6 (uncAll (kids.take j)) (unc y) [.int .i64 y.f0, .bool y.f1, .int .i64 y.f2, .int .u64 y.f3, .string y.f4, .slice B5 y.f5.length d5, v62] (fun k => w.heap.size + 3 ≤ k) (fun k => wr.heap.size ≤ k) (by simp [Act.eval]) (by simp [Act.eval]) hap.1 hap.2.1 hap.2.2.1 hap.2.2.2.1 (Below.refl _ _) hap.2.2.2.2.1 hap.2.2.2.2.2.1 ?_
       intro v1 w1 hr1 hb1 hg1 hat1
       obtain ⟨A1, n1, c1, rfl⟩ : ∃ A1 n1 c1, v1 = .slice A1 n1 c1 := by obtain ⟨A, c, h⟩ := Kd.R_slice hr1; exact ⟨A, _, c, h⟩
       have hkp := (iv_keep HVJ.out hap.2.2.2.2.2.2 hg1).2 (w.heap.size + 1 + 1) (by omega) hszb
       have hout : w1.heap[w.heap.size + 1 + 1]? = some (.cells #[.int .i64 k, .bool b, .int .i64 i, .int .u64 f, .string s, .slice A5 keys.length c5, v6] 26 (0, 0)) := hkp.trans HVJ.out.out
       have e6' : w1.cell? ⟨w.heap.size + 1 + 1, 6, none⟩ = some v6 := blk_cell hout 6
       have f6' : w1.frozen? ⟨w.heap.size + 1 + 1, 6, none⟩ = false := blk_frozen hout 6))
   all_goals
    have HNX := Aside0.mk (iv_next HVJ.out hap.2.2.2.2.2.2 hg1 hr1)
    clear hr hb hap hr1 hb1 hg1 hat1 hkp hout HX HAP
    go_wp2_with fail
    go_roundg (kids.length - (j + 1))
    case measure => have := HJ.out.2; omega
    case rel =>
     exact ⟨j + 1, .slice A1 n1 c1, by go_num, ⟨by omega⟩, ⟨by rw [uncAll_take HY.out]; exact HNX.out⟩⟩
  ·have hje : j = kids.length := by have := HJ.out.1; omega
   subst hje
   obtain ⟨A1, n1, c1, rfl⟩ : ∃ A1 n1 c1, v6 = .slice A1 n1 c1 := by obtain ⟨A, c, h⟩ := Kd.R_slice HVJ.out.row; exact ⟨A, _, c, h⟩
   obtain ⟨r0, r1, r2, r3, r4, r5, r6⟩ := box7 HVJ.out.res
   have s0 := blk_frozen HVJ.out.res 0
   have s1 := blk_frozen HVJ.out.res 1
   have s2 := blk_frozen HVJ.out.res 2
   have s3 := blk_frozen HVJ.out.res 3
   have s4 := blk_frozen HVJ.out.res 4
   have s5 := blk_frozen HVJ.out.res 5
   have s6 := blk_frozen HVJ.out.res 6
   go_wp2_with fail
   have hp0 := blk_put (cs' := #[.int .i64 k, .bool false, .int .i64 0, .int .u64 0, .string ⟨#[]⟩, .slice none 0 0, .slice none 0 0]) HVJ.out.res 0 (.int .i64 k) rfl
   have hp1 := blk_put (cs' := #[.int .i64 k, .bool b, .int .i64 0, .int .u64 0, .string ⟨#[]⟩, .slice none 0 0, .slice none 0 0]) hp0 1 (.bool b) rfl
   have hp2 := blk_put (cs' := #[.int .i64 k, .bool b, .int .i64 i, .int .u64 0, .string ⟨#[]⟩, .slice none 0 0, .slice none 0 0]) hp1 2 (.int .i64 i) rfl
   have hp3 := blk_put (cs' := #[.int .i64 k, .bool b, .int .i64 i, .int .u64 f, .string ⟨#[]⟩, .slice none 0 0, .slice none 0 0]) hp2 3 (.int .u64 f) rfl
   have hp4 := blk_put (cs' := #[.int .i64 k, .bool b, .int .i64 i, .int .u64 f, .string s, .slice none 0 0, .slice none 0 0]) hp3 4 (.string s) rfl
   have hp5 := blk_put (cs' := #[.int .i64 k, .bool b, .int .i64 i, .int .u64 f, .string s, .slice A5 keys.length c5, .slice none 0 0]) hp4 5 (.slice A5 keys.length c5) rfl
   have hp6 := blk_put (cs' := #[.int .i64 k, .bool b, .int .i64 i, .int .u64 f, .string s, .slice A5 keys.length c5, .slice A1 n1 c1]) hp5 6 (.slice A1 n1 c1) rfl
   refine bodyPost_ret (results_cell_row rfl _ _ (w.heap.size + 1) 26 #[.int .i64 k, .bool b, .int .i64 i, .int .u64 f, .string s, .slice A5 keys.length c5, .slice A1 n1 c1] (0, 0) _ rfl hp6 Try.underlying26 rfl (by kernel_rfl)) rfl ?_
   have hrow := HVJ.out.row
   rw [List.take_length] at hrow
   have hbl := HVJ.out.bel
   have hq : ∀ q, w.heap.size + 3 ≤ q → q ≠ w.heap.size + 1 := fun q h => by omega
   refine ⟨_, rfl, ?_, ?_⟩
   ·exact Kd.R_lower (Kd.R_mono (Kd.R_far (Kd.R_far (Kd.R_far (Kd.R_far (Kd.R_far (Kd.R_far (Kd.R_far hrow (p := ⟨w.heap.size + 1, 0, none⟩) hq _) (p := ⟨w.heap.size + 1, 1, none⟩) hq _) (p := ⟨w.heap.size + 1, 2, none⟩) hq _) (p := ⟨w.heap.size + 1, 3, none⟩) hq _) (p := ⟨w.heap.size + 1, 4, none⟩) hq _) (p := ⟨w.heap.size + 1, 5, none⟩) hq _) (p := ⟨w.heap.size + 1, 6, none⟩) hq _) (fun q (h : w.heap.size + 3 ≤ q) => by show w.heap.size ≤ q; omega)) (by omega)
   ·have hg1 : w.heap.size ≤ w.heap.size + 1 := by omega
    exact below_set (below_set (below_set (below_set (below_set (below_set (below_set hbl hg1) hg1) hg1) hg1) hg1) hg1) hg1
theorem implVal_any : ∀ N, ImplSaid N := by
 intro N
 induction N with
 | zero =>
  intro x A5 c5 A6 c6 w0 w hn
  have := nodes35_pos x
  omega
 | succ N ih =>
  intro x A5 c5 A6 c6 w0 w hn hN h5 h6 hk5 hk6 hw
  obtain ⟨k, b, i, f, s, keys, kids⟩ := x
  simp only [nodes35, unc, nodes] at hn
  exact impl_step N ih k b i f s keys kids A5 c5 A6 c6 w0 w (by show nodesAll (uncAll kids) ≤ N; omega) (by omega) h5 h6 hk5 hk6 hw
end Go.Proofs.Ytjnookhdiolhgaa

namespace Go.Proofs.Ytjnookhdiolhgaa
set_option linter.unusedVariables false
set_option linter.unusedSimpArgs false
open Go.RowKit Go.Proofs.YtjnookhdiolhgaaW.PrintWords

theorem opensL_snoc (l : List Int) (x : Int) : opensL (l ++ [x]) = opensL l + if isO x then 1 else 0 := by
 unfold opensL
 rw [List.filter_append, List.length_append]
 congr 1
 by_cases h : isO x = true
 ·rw [if_pos h, List.filter_cons, if_pos h]; rfl
 ·rw [if_neg h, List.filter_cons, if_neg h]; rfl
theorem isO_cases (x : Int) : (isO x = true ∧ ((144 ≤ x ∧ x ≤ 191) ∨ (212 ≤ x ∧ x ≤ 221))) ∨ (isO x = false ∧ (x < 144 ∨ (191 < x ∧ x < 212) ∨ 221 < x)) := by
 unfold isO
 rcases Int.lt_or_le x 144 with h | h
 ·right; refine ⟨?_, .inl h⟩; rw [decide_eq_false (by omega), decide_eq_false (p := 212 ≤ x) (by omega)]; rfl
 rcases Int.lt_or_le 191 x with h2 | h2
 ·rcases Int.lt_or_le x 212 with h3 | h3
  ·right; refine ⟨?_, .inr (.inl ⟨h2, h3⟩)⟩; rw [decide_eq_false (p := x ≤ 191) (by omega), decide_eq_false (p := 212 ≤ x) (by omega), Bool.and_false, Bool.false_and]; rfl
  rcases Int.lt_or_le 221 x with h4 | h4
  ·right; refine ⟨?_, .inr (.inr h4)⟩; rw [decide_eq_false (p := x ≤ 191) (by omega), decide_eq_false (p := x ≤ 221) (by omega), Bool.and_false, Bool.and_false]; rfl
  ·left; refine ⟨?_, .inr ⟨h3, h4⟩⟩; rw [decide_eq_true h3, decide_eq_true h4, Bool.and_true, Bool.or_true]
 ·left; refine ⟨?_, .inl ⟨h, h2⟩⟩; rw [decide_eq_true h, decide_eq_true h2]; rfl
theorem opensL_le (l : List Int) : opensL l ≤ l.length := List.length_filter_le _ _

set_option maxHeartbeats 8000000 in
set_option maxRecDepth 100000 in
theorem opens_any (s : ByteArray) (w : World) (hs : s.size ≤ 2000) :
  Calls Try.prog 30 #[.string s] w fun e w' => e = .returned (.int .i64 (opensL (bytesOf s))) ∧ w' = w := by
 go_enter Try.func30, Try.ntmps30
 go_wp2_with fail
 go_loopg [3, 8] s.size (fun gk v3 v8 wr => ∃ (j c : Nat), v3 = .int .i64 c ∧ v8 = .int .i64 j ∧ Aside0 (c = opensL ((bytesOf s).take j)) ∧ Aside0 (j ≤ s.size ∧ gk = s.size - j) ∧ wr = w)
 case atStart => exact ⟨0, 0, rfl, rfl, ⟨rfl⟩, ⟨by omega⟩, rfl⟩
 case round =>
  obtain ⟨j, c, rfl, rfl, HX, HJ, rfl⟩ := hrel
  by_cases hj : j < s.size
  ·have hsj : (bytesOf s)[j]? = some ((s[j].toNat : Nat) : Int) := by
    obtain ⟨⟨l⟩⟩ := s
    have hj' : j < l.length := hj
    unfold bytesOf
    rw [List.getElem?_map]
    simp only
    rw [List.getElem?_eq_getElem hj']
    rfl
   have hc2 : c ≤ 2000 := by
    have h1 := opensL_le ((bytesOf s).take j)
    rw [← HX.out, List.length_take, bytesOf_length] at h1
    omega
   obtain ⟨bb, hbb⟩ : ∃ bb : Int, ((s[j].toNat : Nat) : Int) = bb := ⟨_, rfl⟩
   have hnx : opensL ((bytesOf s).take (j + 1)) = c + if isO bb then 1 else 0 := by
    rw [List.take_add_one, hsj, Option.toList_some, opensL_snoc, ← HX.out, hbb]
   clear hsj
   rcases isO_cases bb with ⟨h0, h1 | h1⟩ | ⟨h0, h1 | h1 | h1⟩
   all_goals
    rw [h0] at hnx
    have HN := Aside0.mk hnx
    clear hnx h0
    go_wp2_with fail
    go_roundg (s.size - (j + 1))
    case measure => have := HJ.out.2; omega
    case rel => first
     | exact ⟨j + 1, c + 1, by go_num, by go_num, ⟨HN.out.symm⟩, ⟨by omega⟩, rfl⟩
     | exact ⟨j + 1, c, by go_num, by go_num, ⟨HN.out.symm⟩, ⟨by omega⟩, rfl⟩
  ·have hje : j = s.size := by have := HJ.out.1; omega
   subst hje
   have HXS : Aside0 (c = opensL (bytesOf s)) := ⟨by have := HX.out; rwa [List.take_of_length_le (by rw [bytesOf_length]; omega)] at this⟩
   clear HX
   go_wp2_with fail
   go_ret
   exact ⟨by rw [HXS.out]; rfl, rfl⟩
end Go.Proofs.Ytjnookhdiolhgaa

namespace Go.Proofs.Ytjnookhdiolhgaa
set_option linter.unusedVariables false
set_option linter.unusedSimpArgs false
open Go.RowKit Go.Proofs.YtjnookhdiolhgaaW.PrintWords

/-- It returns. -/
def ShR (w : World) (e : Ending) (w' : World) : Prop := ∃ b : Bool, e = .returned (.bool b) ∧ w' = w
set_option maxHeartbeats 8000000 in
set_option maxRecDepth 100000 in
theorem short_any (s : ByteArray) (w : World) (hs : s.size ≤ 2000) :
  Calls Try.prog 26 #[.string s] w fun e w' => ShR w e w' := by
 go_enter Try.func26, Try.ntmps26
 go_wp2_with fail
 go_loopg [6] s.size (fun gk v6 wr => ∃ (j : Nat), v6 = .int .i64 j ∧ Aside0 (j ≤ s.size ∧ gk = s.size - j) ∧ wr = w)
 case atStart => exact ⟨0, rfl, ⟨by omega⟩, rfl⟩
 case round =>
  obtain ⟨j, rfl, HJ, rfl⟩ := hrel
  by_cases hj : j < s.size
  ·obtain ⟨bb, hbb⟩ : ∃ bb : Int, ((s[j].toNat : Nat) : Int) = bb := ⟨_, rfl⟩
   have hc : (bb = 206 ∨ bb = 210 ∨ bb = 214 ∨ bb = 218) ∨ (bb ≠ 206 ∧ bb ≠ 210 ∧ bb ≠ 214 ∧ bb ≠ 218) := by omega
   rcases hc with hc | ⟨h1, h2, h3, h4⟩
   ·by_cases g1 : j + 2 < s.size
    ·by_cases g2 : j + 4 < s.size
     ·obtain ⟨b1, hb1⟩ : ∃ bb : Int, ((s[j + 1].toNat : Nat) : Int) = bb := ⟨_, rfl⟩
      obtain ⟨b2, hb2⟩ : ∃ bb : Int, ((s[j + 2].toNat : Nat) : Int) = bb := ⟨_, rfl⟩
      obtain ⟨b3, hb3⟩ : ∃ bb : Int, ((s[j + 3].toNat : Nat) : Int) = bb := ⟨_, rfl⟩
      obtain ⟨b4, hb4⟩ : ∃ bb : Int, ((s[j + 4].toNat : Nat) : Int) = bb := ⟨_, rfl⟩
      rcases hc with rfl | rfl | rfl | rfl
      all_goals
       go_wp2_with fail
       all_goals first
        | (go_roundg (s.size - (j + 1)); (case measure => have := HJ.out.2; omega); (case rel => exact ⟨j + 1, by go_num, ⟨by omega⟩, rfl⟩))
        | (go_ret; exact ⟨_, rfl, rfl⟩)
     ·obtain ⟨b1, hb1⟩ : ∃ bb : Int, ((s[j + 1].toNat : Nat) : Int) = bb := ⟨_, rfl⟩
      obtain ⟨b2, hb2⟩ : ∃ bb : Int, ((s[j + 2].toNat : Nat) : Int) = bb := ⟨_, rfl⟩
      rcases hc with rfl | rfl | rfl | rfl
      all_goals
       go_wp2_with fail
       all_goals first
        | (go_roundg (s.size - (j + 1)); (case measure => have := HJ.out.2; omega); (case rel => exact ⟨j + 1, by go_num, ⟨by omega⟩, rfl⟩))
        | (go_ret; exact ⟨_, rfl, rfl⟩)
    ·rcases hc with rfl | rfl | rfl | rfl
     all_goals
      go_wp2_with fail
      all_goals first
       | (go_roundg (s.size - (j + 1)); (case measure => have := HJ.out.2; omega); (case rel => exact ⟨j + 1, by go_num, ⟨by omega⟩, rfl⟩))
       | (go_ret; exact ⟨_, rfl, rfl⟩)
   ·go_wp2_with fail
    go_roundg (s.size - (j + 1))
    case measure => have := HJ.out.2; omega
    case rel => exact ⟨j + 1, by go_num, ⟨by omega⟩, rfl⟩
  ·go_wp2_with fail
   go_ret
   exact ⟨_, rfl, rfl⟩
end Go.Proofs.Ytjnookhdiolhgaa

namespace Go.Proofs.Ytjnookhdiolhgaa
set_option linter.unusedVariables false
set_option linter.unusedSimpArgs false
open Go.RowKit Go.Proofs.YtjnookhdiolhgaaW.PrintWords
open PAll (S26 k26 S35 k35)
open Go.Proofs.YtjnookhdiolhgaaW.PrintLast (goes_)

theorem iv_any (x : S26) (A5 : Option Addr) (c5 : Nat) (A6 : Option Addr) (c6 : Nat) (w0 w : World) (hn : nodes x ≤ 6000) (l5 : x.f5.length ≤ c5) (l6 : (convAll x.f6).length ≤ c6)
  (h5 : Kd.C Kd.string w0 A5 x.f5.length x.f5) (h6 : Kd.C k35 w0 A6 (convAll x.f6).length (convAll x.f6)) (hb : Below w0.heap.size w0 w) :
  Calls Try.prog 33 #[.agg #[.int .i64 x.f0, .bool x.f1, .int .i64 x.f2, .int .u64 x.f3, .string x.f4, .slice A5 x.f5.length c5, .slice A6 (convAll x.f6).length c6]] w fun e w' =>
   ∃ B6 d6, e = .returned (.agg #[.int .i64 x.f0, .bool x.f1, .int .i64 x.f2, .int .u64 x.f3, .string x.f4, .slice A5 x.f5.length c5, .slice B6 x.f6.length d6]) ∧ x.f6.length ≤ d6 ∧ Kd.C k26 w' B6 x.f6.length x.f6 ∧ Below w.heap.size w w' := by
 have h := implVal_any 6000 (conv x) A5 c5 A6 c6 w0 w (by unfold nodes35; rw [unc_conv]; exact hn) (Nat.le_refl _)
 obtain ⟨k, b, i, f, s, keys, kids⟩ := x
 simp only [conv] at h
 refine (h l5 l6 h5 h6 hb).mono ?_
 rintro e w' ⟨v6, rfl, hr, hb2⟩
 simp only [uncAll_conv] at hr
 obtain ⟨B6, d6, rfl⟩ := Kd.R_slice hr
 obtain ⟨-, hl, hC⟩ := Kd.R_reads' hr
 exact ⟨B6, d6, rfl, hl, k26s_C (hb.trans (hb2.mono hb.size)) hC, hb2⟩
theorem read_held {w4 wi : World} (h : Below w4.heap.size w4 wi) {a0 a1 a2 a3 a4 a5 a6 b0 b1 b2 b3 b4 b5 b6 : Addr} {u0 u1 u2 u3 u4 u5 u6 v0 v1 v2 v3 v4 v5 v6 : Value}
  (g0 : w4.cell? a0 = some u0) (g1 : w4.cell? a1 = some u1) (g2 : w4.cell? a2 = some u2) (g3 : w4.cell? a3 = some u3) (g4 : w4.cell? a4 = some u4) (g5 : w4.cell? a5 = some u5) (g6 : w4.cell? a6 = some u6)
  (p0 : w4.cell? b0 = some v0) (p1 : w4.cell? b1 = some v1) (p2 : w4.cell? b2 = some v2) (p3 : w4.cell? b3 = some v3) (p4 : w4.cell? b4 = some v4) (p5 : w4.cell? b5 = some v5) (p6 : w4.cell? b6 = some v6) :
  Below w4.heap.size w4 wi ∧ wi.cell? a0 = some u0 ∧ wi.cell? a1 = some u1 ∧ wi.cell? a2 = some u2 ∧ wi.cell? a3 = some u3 ∧ wi.cell? a4 = some u4 ∧ wi.cell? a5 = some u5 ∧ wi.cell? a6 = some u6 ∧
   wi.cell? b0 = some v0 ∧ wi.cell? b1 = some v1 ∧ wi.cell? b2 = some v2 ∧ wi.cell? b3 = some v3 ∧ wi.cell? b4 = some v4 ∧ wi.cell? b5 = some v5 ∧ wi.cell? b6 = some v6 :=
 ⟨h, pw_cell_below h g0, pw_cell_below h g1, pw_cell_below h g2, pw_cell_below h g3, pw_cell_below h g4, pw_cell_below h g5, pw_cell_below h g6, pw_cell_below h p0, pw_cell_below h p1, pw_cell_below h p2, pw_cell_below h p3, pw_cell_below h p4, pw_cell_below h p5, pw_cell_below h p6⟩
theorem bel_step {w a b c : World} (h : Below w.heap.size w a) (hd : Below a.heap.size a b) (h2 : Below b.heap.size b c) : Below w.heap.size w c :=
 (h.trans (hd.mono h.size)).trans (h2.mono (Nat.le_trans h.size hd.size))

set_option maxHeartbeats 8000000 in
set_option maxRecDepth 100000 in
theorem FnPackRead_walk (hup : UpSaid 6000) (s : ByteArray) (w : World) :
  Calls Try.prog 10 #[.string s] w fun e w' => e = .returned (.bool true) ∧ Below w.heap.size w w' := by
 go_enter Try.func10, Try.ntmps10
 by_cases hz1 : (s.size : Int) > 2147483647
 ·go_wp2_with fail
  go_ret
  exact ⟨rfl, Below.refl _ _⟩
 by_cases hz2 : (s.size : Int) > 2000
 ·go_wp2_with fail
  go_ret
  exact ⟨rfl, Below.refl _ _⟩
 have hs2 : s.size ≤ 2000 := by omega
 have HS2 := Aside0.mk hs2
 go_wp2_with fail
 refine (short_any s w hs2).mono ?_
 rintro e w1 ⟨b, rfl, rfl⟩
 cases b
 case false =>
  go_wp2_with fail
  go_ret
  exact ⟨rfl, Below.refl _ _⟩
 have HO := opens_any s w1 hs2
 have HPA := fun h => su_parse 6000 5000 (bytesOf s) 0 5000 (bytesOf_bytes s) (Int.le_refl 0) h (Nat.le_refl _)
 generalize opensL (bytesOf s) = c at HO HPA
 have HO2 := Aside0.mk HO
 have HPA2 := Aside0.mk HPA
 clear HO HPA
 go_wp2_with fail
 refine HO2.out.mono ?_
 rintro e w2 ⟨rfl, rfl⟩
 by_cases hc5 : (c : Int) > 500
 ·go_wp2_with fail
  go_ret
  exact ⟨rfl, Below.refl _ _⟩
 have HSY := Aside0.mk (HPA2.out (by omega))
 have HSP := spU_any hup s w2 hs2
 have HG := fun x r n => su_good 6000 5000 (bytesOf s) x r n
 have HUN := fun wi => Unpack_any 5000 s wi (by omega)
 obtain ⟨P, hP⟩ : ∃ P, parse 5000 0 (bytesOf s) = P := ⟨_, rfl⟩
 rw [hP] at HSY HUN
 obtain ⟨S, hS⟩ : ∃ S, su 6000 5000 (bytesOf s) = S := ⟨_, rfl⟩
 rw [hS] at HSY HSP HG
 have HSP2 := Aside0.mk HSP
 have HG2 := Aside0.mk HG
 have HUN2 := Aside0.mk HUN
 clear hP hS HO2 HPA2 HSP HG HUN hup
 go_wp2_with fail
 refine HSP2.out.mono ?_
 rintro e w3 ⟨hb, hP⟩
 cases S with
 | opn =>
  obtain rfl := hP
  unfold z35v
  have HB := Aside0.mk hb
  clear hb HSP2
  go_wp2_with fail
  go_ret
  exact ⟨rfl, below_alloc HB.out _⟩
 | bad =>
  obtain rfl := hP
  unfold z35v
  have HB := Aside0.mk hb
  clear hb HSP2
  obtain ⟨cc, rfl, hcc⟩ := HSY.out
  rcases hcc with rfl | rfl
  all_goals
   have HU := Aside0.mk (fun wi => HUN2.out wi (by intro h; cases h))
   clear HUN2 HSY
   go_wp2_with fail
   refine (HU.out _).mono ?_
   rintro e w4 ⟨hb4, rfl⟩
   have HB4 := Aside0.mk (HB.out.trans ((below_alloc (Below.refl _ _) _ |>.trans (hb4.mono (by simp))).mono HB.out.size))
   clear hb4
   go_wp2_with fail
   refine (alive_any _).mono ?_
   rintro e w5 ⟨rfl, hb5⟩
   have HB5 := Aside0.mk (bel_step (below_alloc HB4.out _) (Below.refl _ _) hb5)
   clear hb5
   go_wp2_with fail
   go_ret
   exact ⟨rfl, HB5.out⟩
 | ok x r n =>
  obtain ⟨v5, v6, rfl, hr5, hr6⟩ := hP
  obtain ⟨A5, c5, rfl⟩ := Kd.R_slice hr5
  obtain ⟨A6, c6, rfl⟩ := Kd.R_slice hr6
  obtain ⟨-, l5, q5⟩ := Kd.R_reads' hr5
  obtain ⟨-, l6, q6⟩ := Kd.R_reads' hr6
  have hpx : P = .ok x r := HSY.out.1
  subst hpx
  have hgd := HG2.out x r n rfl
  have HX := Aside0.mk (show nodes x ≤ 6000 ∧ okK x from ⟨by omega, hgd.2⟩)
  have HU := Aside0.mk (fun wi => HUN2.out wi (by intro h; cases h))
  have HIV := Aside0.mk (fun wi (h : Below w3.heap.size w3 wi) => iv_any x A5 c5 A6 c6 w3 wi HX.out.1 l5 l6 q5 q6 h)
  have HB := Aside0.mk hb
  have HQ := Aside0.mk (And.intro l5 q5)
  generalize hrl : r.length = rl
  clear hgd HUN2 HG2 hr5 hr6 l5 q5 l6 q6 hb HSP2 HSY
  go_wp2_with fail
  refine (HU.out _).mono ?_
  rintro e w4 ⟨hb4, u5, u6, rfl, hr5, hr6⟩
  obtain ⟨U5, m5, rfl⟩ := Kd.R_slice hr5
  obtain ⟨U6, m6, rfl⟩ := Kd.R_slice hr6
  obtain ⟨-, l5, q5⟩ := Kd.R_reads' hr5
  obtain ⟨-, l6, q6⟩ := Kd.R_reads' hr6
  rw [hrl]
  have HQ2 := Aside0.mk (And.intro l5 (And.intro q5 (And.intro l6 q6)))
  generalize hn6 : (convAll x.f6).length = n6 at *
  obtain ⟨O3, hO3⟩ : ∃ O, Obj.cells #[.int .i64 x.f0, .bool x.f1, .int .i64 x.f2, .int .u64 x.f3, .string x.f4, .slice A5 x.f5.length c5, .slice A6 n6 c6] 35 = O := ⟨_, rfl⟩
  have hb34 : Below w3.heap.size w3 w4 := (below_alloc (Below.refl _ _) (.cells #[.int .i64 x.f0, .bool x.f1, .int .i64 x.f2, .int .u64 x.f3, .string x.f4, .slice A5 x.f5.length c5, .slice A6 n6 c6] 35)).trans (hb4.mono (by simp))
  have hbx : w4.heap[w3.heap.size]? = some (.cells #[.int .i64 x.f0, .bool x.f1, .int .i64 x.f2, .int .u64 x.f3, .string x.f4, .slice A5 x.f5.length c5, .slice A6 n6 c6] 35 (0, 0)) := (hb4.block _ (by simp)).trans (heap_alloc_new w3 _)
  have hlt := blk_lt hbx
  obtain ⟨wz, hwz⟩ : ∃ wz, w4.alloc (.cells #[.int .i64 x.f0, .bool x.f1, .int .i64 x.f2, .int .u64 x.f3, .string x.f4, .slice U5 x.f5.length m5, .slice U6 x.f6.length m6] 26) = wz := ⟨_, rfl⟩
  have hz7 : wz.heap[w4.heap.size]? = some (.cells #[.int .i64 x.f0, .bool x.f1, .int .i64 x.f2, .int .u64 x.f3, .string x.f4, .slice U5 x.f5.length m5, .slice U6 x.f6.length m6] 26 (0, 0)) := by rw [← hwz]; exact heap_alloc_new w4 _
  have hz3 : wz.heap[w3.heap.size]? = some (.cells #[.int .i64 x.f0, .bool x.f1, .int .i64 x.f2, .int .u64 x.f3, .string x.f4, .slice A5 x.f5.length c5, .slice A6 n6 c6] 35 (0, 0)) := by rw [← hwz]; exact (Below.heap_alloc w4 _ _ hlt).trans hbx
  have hbz : Below w4.heap.size w4 wz := by rw [← hwz]; exact below_alloc (Below.refl _ _) _
  have hb3z := hb34.trans (hbz.mono hb34.size)
  have HZ3 := Aside0.mk hb3z
  have HS := Aside0.mk (fun (wi : World) (B6 : Option Addr) (d6 : Nat) (hl : x.f6.length ≤ d6) (hC : Kd.C k26 wi B6 x.f6.length x.f6) (hw : Below wz.heap.size wz wi) => same_any2 x HX.out.2 HX.out.1 U5 m5 U6 m6 A5 c5 B6 d6 wi (Kd.C_below HQ2.out.2.1 (hbz.trans (hw.mono hbz.size))) HQ2.out.1 (Kd.C_below HQ2.out.2.2.2 (hbz.trans (hw.mono hbz.size))) HQ2.out.2.2.1 (Kd.C_below HQ.out.2 (hb3z.trans (hw.mono hb3z.size))) HQ.out.1 hC hl)
  have HBW := Aside0.mk (HB.out.trans (hb3z.mono HB.out.size))
  have HWZ := Aside0.mk hwz
  have HP := Aside0.mk (And.intro hz7 hz3)
  clear hr5 hr6 l5 l6 q5 q6 hb4 hb34 hbx hO3 O3 HU hrl hwz hz7 hz3 hbz hb3z HQ HQ2 HX HS2 HB
  go_wp2_with fail
  rw [HWZ.out]
  obtain ⟨hz7, hz3⟩ := HP.out
  obtain ⟨b0, b1, b2, b3, b4, b5, b6⟩ := box7 hz3
  obtain ⟨p0, p1, p2, p3, p4, p5, p6⟩ := box7 hz7
  clear hz7 hz3 HP
  go_region_held3 (fun wi : World => Below wz.heap.size wz wi ∧ wi.cell? ⟨w4.heap.size, 0, none⟩ = some (.int .i64 x.f0) ∧ wi.cell? ⟨w4.heap.size, 1, none⟩ = some (.bool x.f1) ∧ wi.cell? ⟨w4.heap.size, 2, none⟩ = some (.int .i64 x.f2) ∧ wi.cell? ⟨w4.heap.size, 3, none⟩ = some (.int .u64 x.f3) ∧ wi.cell? ⟨w4.heap.size, 4, none⟩ = some (.string x.f4) ∧ wi.cell? ⟨w4.heap.size, 5, none⟩ = some (.slice U5 x.f5.length m5) ∧ wi.cell? ⟨w4.heap.size, 6, none⟩ = some (.slice U6 x.f6.length m6) ∧
    wi.cell? ⟨w3.heap.size, 0, none⟩ = some (.int .i64 x.f0) ∧ wi.cell? ⟨w3.heap.size, 1, none⟩ = some (.bool x.f1) ∧ wi.cell? ⟨w3.heap.size, 2, none⟩ = some (.int .i64 x.f2) ∧ wi.cell? ⟨w3.heap.size, 3, none⟩ = some (.int .u64 x.f3) ∧ wi.cell? ⟨w3.heap.size, 4, none⟩ = some (.string x.f4) ∧ wi.cell? ⟨w3.heap.size, 5, none⟩ = some (.slice A5 x.f5.length c5) ∧ wi.cell? ⟨w3.heap.size, 6, none⟩ = some (.slice A6 n6 c6))
   (first
    | exact read_held (below_drew (Below.refl _ _)) p0 p1 p2 p3 p4 p5 p6 b0 b1 b2 b3 b4 b5 b6
    | exact read_held ((‹Below wz.heap.size wz _ ∧ _›).1.trans (hb5.mono (‹Below wz.heap.size wz _ ∧ _›).1.size)) p0 p1 p2 p3 p4 p5 p6 b0 b1 b2 b3 b4 b5 b6)
   (first
    | (go_at_call 33; refine (HIV.out _ (HZ3.out.trans ((‹Below wz.heap.size wz _ ∧ _›).1.mono HZ3.out.size))).mono ?_; rintro e w5 ⟨B6, d6, rfl, l6i, q6i, hb5⟩)
    | (go_at_call 32; refine (HS.out _ B6 d6 l6i q6i (‹Below wz.heap.size wz _ ∧ _›).1).mono ?_; rintro e w6 ⟨rfl, hb5⟩)
    | (go_at_call 18; refine (alive_any _).mono ?_; rintro e w7 ⟨rfl, hb5⟩))
  all_goals
   go_wp2_with fail
   go_ret
   exact ⟨rfl, HBW.out.trans ((‹Below wz.heap.size wz _ ∧ _›).1.mono HBW.out.size)⟩
theorem FnPackRead_row (s : ByteArray) (w : World) (hs : s.size ≤ 140737488351232) : Calls Try.prog 10 #[.string s] w fun e w' => e = .returned (.bool true) ∧ Below w.heap.size w w' := FnPackRead_walk (up_any 6000) s w
end Go.Proofs.Ytjnookhdiolhgaa
