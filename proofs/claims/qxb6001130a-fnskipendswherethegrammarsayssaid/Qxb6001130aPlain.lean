/-
  PLAIN MATHEMATICS FOR 'FnSkipEndsWhereTheGrammarSays': no Go in sight.
-/
import Derived.Lib.Bytealg
import Derived.Lib.Bytes
namespace Go.Proofs.Qxb6001130a.Plain
open Go

def gt (l : List Int) (k : Nat) : Int := l.getD k 0
def U8 (l : List Int) : Prop := ∀ k, 0 ≤ gt l k ∧ gt l k ≤ 255

/-- A string's bytes as numbers. -/
def bts (s : ByteArray) : List Int := s.data.toList.map (fun b => (b.toNat : Int))
theorem bts_get (s : ByteArray) (k : Nat) (h : k < s.size) : (s[k].toNat : Int) = gt (bts s) k := by
  unfold gt bts
  have h' : k < s.data.size := h
  rw [List.getD_eq_getElem?_getD, List.getElem?_map, Array.getElem?_toList, Array.getElem?_eq_getElem h']
  rfl

/-! ### The closing quote -/
/-- Where closingQuote stops that stands at place j. -/
def cq (l : List Int) : Nat → Nat → Option Nat
  | 0, _ => none
  | f + 1, j => if j < l.length then (if gt l j = 34 then some j else if gt l j = 92 then cq l f (j + 2) else cq l f (j + 1)) else none
def Q (l : List Int) (j q : Nat) : Prop := ∃ f, cq l f j = some q

theorem cq_succ (l : List Int) : ∀ f j q, cq l f j = some q → cq l (f + 1) j = some q
  | 0, j, q, h => by simp [cq] at h
  | f + 1, j, q, h => by
    rw [cq] at h ⊢
    by_cases hj : j < l.length
    · rw [if_pos hj] at h ⊢
      by_cases h34 : gt l j = 34
      · rw [if_pos h34] at h ⊢; exact h
      · rw [if_neg h34] at h ⊢
        by_cases h92 : gt l j = 92
        · rw [if_pos h92] at h ⊢; exact cq_succ l f _ q h
        · rw [if_neg h92] at h ⊢; exact cq_succ l f _ q h
    · rw [if_neg hj] at h; cases h
theorem cq_mono (l : List Int) (j q : Nat) (f : Nat) (h : cq l f j = some q) : ∀ n, cq l (f + n) j = some q
  | 0 => h
  | n + 1 => cq_succ l _ _ _ (cq_mono l j q f h n)

theorem Q_hit {l : List Int} {j : Nat} (hj : j < l.length) (h : gt l j = 34) : Q l j j := ⟨1, by rw [cq, if_pos hj, if_pos h]⟩
theorem Q_one {l : List Int} {j q : Nat} (hj : j < l.length) (h1 : gt l j ≠ 34) (h2 : gt l j ≠ 92) (h : Q l (j + 1) q) : Q l j q := by
  obtain ⟨f, hf⟩ := h
  exact ⟨f + 1, by rw [cq, if_pos hj, if_neg h1, if_neg h2]; exact hf⟩
theorem Q_two {l : List Int} {j q : Nat} (hj : j < l.length) (h2 : gt l j = 92) (h : Q l (j + 2) q) : Q l j q := by
  obtain ⟨f, hf⟩ := h
  exact ⟨f + 1, by rw [cq, if_pos hj, if_neg (by omega), if_pos h2]; exact hf⟩
/-- What stands at the head of a text whose closing quote is known. -/
theorem Q_cases {l : List Int} {j q : Nat} (h : Q l j q) : j < l.length ∧ (gt l j = 34 ∧ q = j ∨ gt l j ≠ 34 ∧ gt l j = 92 ∧ Q l (j + 2) q ∨ gt l j ≠ 34 ∧ gt l j ≠ 92 ∧ Q l (j + 1) q) := by
  obtain ⟨f, hf⟩ := h
  cases f with
  | zero => simp [cq] at hf
  | succ f =>
    rw [cq] at hf
    by_cases hj : j < l.length
    · refine ⟨hj, ?_⟩
      rw [if_pos hj] at hf
      by_cases h34 : gt l j = 34
      · rw [if_pos h34] at hf
        left
        exact ⟨h34, by cases hf; rfl⟩
      · rw [if_neg h34] at hf
        by_cases h92 : gt l j = 92
        · rw [if_pos h92] at hf
          exact Or.inr (Or.inl ⟨h34, h92, f, hf⟩)
        · rw [if_neg h92] at hf
          exact Or.inr (Or.inr ⟨h34, h92, f, hf⟩)
    · rw [if_neg hj] at hf; cases hf
theorem cq_bounds (l : List Int) : ∀ f j q, cq l f j = some q → j ≤ q ∧ q < l.length
  | 0, j, q, h => by simp [cq] at h
  | f + 1, j, q, h => by
    rw [cq] at h
    by_cases hj : j < l.length
    · rw [if_pos hj] at h
      by_cases h34 : gt l j = 34
      · rw [if_pos h34] at h; cases h; exact ⟨Nat.le_refl _, hj⟩
      · rw [if_neg h34] at h
        by_cases h92 : gt l j = 92
        · rw [if_pos h92] at h; have := cq_bounds l f _ q h; omega
        · rw [if_neg h92] at h; have := cq_bounds l f _ q h; omega
    · rw [if_neg hj] at h; cases h
theorem Q_bounds {l : List Int} {j q : Nat} (h : Q l j q) : j ≤ q ∧ q < l.length := by
  obtain ⟨f, hf⟩ := h
  exact cq_bounds l f j q hf

/-! ### The walk over brackets -/
def opn (c : Int) : Prop := c = 123 ∨ c = 91
def cls (c : Int) : Prop := c = 125 ∨ c = 93
def spec (c : Int) : Prop := c = 34 ∨ opn c ∨ cls c

/-- Where the loop over brackets ends that stands at place k with depth d. -/
def dp (l : List Int) : Nat → Nat → Nat → Option Nat
  | 0, _, _ => none
  | f + 1, k, d => if k < l.length then
      (if gt l k = 34 then (match cq l f (k + 1) with | none => none | some q => if d = 0 then some (q + 1) else dp l f (q + 1) d)
      else if gt l k = 123 ∨ gt l k = 91 then dp l f (k + 1) (d + 1)
      else if gt l k = 125 ∨ gt l k = 93 then (if d = 0 then none else if d = 1 then some (k + 1) else dp l f (k + 1) (d - 1))
      else if d = 0 then some (k + 1) else dp l f (k + 1) d)
    else none
def D (l : List Int) (k d r : Nat) : Prop := ∃ f, dp l f k d = some r

theorem dp_succ (l : List Int) : ∀ f k d r, dp l f k d = some r → dp l (f + 1) k d = some r
  | 0, k, d, r, h => by simp [dp] at h
  | f + 1, k, d, r, h => by
    rw [dp] at h ⊢
    by_cases hk : k < l.length
    · rw [if_pos hk] at h ⊢
      by_cases h34 : gt l k = 34
      · rw [if_pos h34] at h ⊢
        cases hc : cq l f (k + 1) with
        | none => rw [hc] at h; cases h
        | some q =>
          rw [hc] at h
          rw [cq_succ l f _ q hc]
          dsimp only at h ⊢
          by_cases hd : d = 0
          · rw [if_pos hd] at h ⊢; exact h
          · rw [if_neg hd] at h ⊢; exact dp_succ l f _ _ r h
      · rw [if_neg h34] at h ⊢
        by_cases ho : gt l k = 123 ∨ gt l k = 91
        · rw [if_pos ho] at h ⊢; exact dp_succ l f _ _ r h
        · rw [if_neg ho] at h ⊢
          by_cases hcl : gt l k = 125 ∨ gt l k = 93
          · rw [if_pos hcl] at h ⊢
            by_cases hd : d = 0
            · rw [if_pos hd] at h; cases h
            · rw [if_neg hd] at h ⊢
              by_cases hd1 : d = 1
              · rw [if_pos hd1] at h ⊢; exact h
              · rw [if_neg hd1] at h ⊢; exact dp_succ l f _ _ r h
          · rw [if_neg hcl] at h ⊢
            by_cases hd : d = 0
            · rw [if_pos hd] at h ⊢; exact h
            · rw [if_neg hd] at h ⊢; exact dp_succ l f _ _ r h
    · rw [if_neg hk] at h; cases h
theorem dp_mono (l : List Int) (k d r f : Nat) (h : dp l f k d = some r) : ∀ n, dp l (f + n) k d = some r
  | 0 => h
  | n + 1 => dp_succ l _ _ _ _ (dp_mono l k d r f h n)

section
variable {l : List Int} {k d r : Nat}
theorem D_quote {q : Nat} (hk : k < l.length) (h : gt l k = 34) (hq : Q l (k + 1) q) (hd : 1 ≤ d) (hD : D l (q + 1) d r) : D l k d r := by
  obtain ⟨f1, h1⟩ := hq
  obtain ⟨f2, h2⟩ := hD
  refine ⟨f1 + f2 + 1, ?_⟩
  have e2 : dp l (f1 + f2) (q + 1) d = some r := by rw [Nat.add_comm]; exact dp_mono l _ _ _ f2 h2 f1
  rw [dp, if_pos hk, if_pos h, cq_mono l _ _ f1 h1 f2]
  dsimp only
  rw [if_neg (by omega), e2]
theorem D_open (hk : k < l.length) (h : opn (gt l k)) (hD : D l (k + 1) (d + 1) r) : D l k d r := by
  obtain ⟨f, hf⟩ := hD
  unfold opn at h
  exact ⟨f + 1, by rw [dp, if_pos hk, if_neg (by omega), if_pos h]; exact hf⟩
theorem D_close (hk : k < l.length) (h : cls (gt l k)) (hd : 1 ≤ d) (hD : D l (k + 1) d r) : D l k (d + 1) r := by
  obtain ⟨f, hf⟩ := hD
  unfold cls at h
  exact ⟨f + 1, by rw [dp, if_pos hk, if_neg (by omega), if_neg (by omega), if_pos h, if_neg (by omega), if_neg (by omega)]; exact hf⟩
theorem D_last (hk : k < l.length) (h : cls (gt l k)) : D l k 1 (k + 1) := by
  unfold cls at h
  exact ⟨1, by rw [dp, if_pos hk, if_neg (by omega), if_neg (by omega), if_pos h, if_neg (by omega), if_pos rfl]⟩
theorem D_other (hk : k < l.length) (h : ¬ spec (gt l k)) (hd : 1 ≤ d) (hD : D l (k + 1) d r) : D l k d r := by
  obtain ⟨f, hf⟩ := hD
  unfold spec opn cls at h
  exact ⟨f + 1, by rw [dp, if_pos hk, if_neg (by omega), if_neg (by omega), if_neg (by omega), if_neg (by omega)]; exact hf⟩

/-- What the loop over brackets does next, its end known. -/
theorem D_cases (h : D l k d r) : k < l.length ∧
    (gt l k = 34 ∧ (∃ q, Q l (k + 1) q ∧ (d = 0 ∧ r = q + 1 ∨ 1 ≤ d ∧ D l (q + 1) d r)) ∨
     opn (gt l k) ∧ D l (k + 1) (d + 1) r ∨
     cls (gt l k) ∧ (d = 1 ∧ r = k + 1 ∨ 2 ≤ d ∧ D l (k + 1) (d - 1) r) ∨
     ¬ spec (gt l k) ∧ (d = 0 ∧ r = k + 1 ∨ 1 ≤ d ∧ D l (k + 1) d r)) := by
  obtain ⟨f, hf⟩ := h
  cases f with
  | zero => simp [dp] at hf
  | succ f =>
    rw [dp] at hf
    by_cases hk : k < l.length
    · refine ⟨hk, ?_⟩
      rw [if_pos hk] at hf
      by_cases h34 : gt l k = 34
      · rw [if_pos h34] at hf
        left
        cases hc : cq l f (k + 1) with
        | none => rw [hc] at hf; cases hf
        | some q =>
          rw [hc] at hf
          dsimp only at hf
          refine ⟨h34, q, ⟨f, hc⟩, ?_⟩
          by_cases hd : d = 0
          · rw [if_pos hd] at hf; cases hf; exact Or.inl ⟨hd, rfl⟩
          · rw [if_neg hd] at hf; exact Or.inr ⟨by omega, f, hf⟩
      · rw [if_neg h34] at hf
        right
        by_cases ho : gt l k = 123 ∨ gt l k = 91
        · rw [if_pos ho] at hf; exact Or.inl ⟨ho, f, hf⟩
        · rw [if_neg ho] at hf
          right
          by_cases hcl : gt l k = 125 ∨ gt l k = 93
          · rw [if_pos hcl] at hf
            left
            refine ⟨hcl, ?_⟩
            by_cases hd : d = 0
            · rw [if_pos hd] at hf; cases hf
            · rw [if_neg hd] at hf
              by_cases hd1 : d = 1
              · rw [if_pos hd1] at hf; cases hf; exact Or.inl ⟨hd1, rfl⟩
              · rw [if_neg hd1] at hf; exact Or.inr ⟨by omega, f, hf⟩
          · rw [if_neg hcl] at hf
            right
            refine ⟨fun h => ?_, ?_⟩
            · rcases h with h | h | h
              · exact h34 h
              · exact ho h
              · exact hcl h
            · by_cases hd : d = 0
              · rw [if_pos hd] at hf; cases hf; exact Or.inl ⟨hd, rfl⟩
              · rw [if_neg hd] at hf; exact Or.inr ⟨by omega, f, hf⟩
    · rw [if_neg hk] at hf; cases hf
end

/-- From place i to place e the loop passes, its depth as it was. -/
def Pass (l : List Int) (i e : Nat) : Prop := ∀ d r, 1 ≤ d → D l e d r → D l i d r
theorem Pass.refl (l : List Int) (i : Nat) : Pass l i i := fun _ _ _ h => h
theorem Pass.trans {l : List Int} {i j e : Nat} (h1 : Pass l i j) (h2 : Pass l j e) : Pass l i e := fun d r hd h => h1 d r hd (h2 d r hd h)
theorem Pass.plain {l : List Int} {k : Nat} (hk : k < l.length) (h : ¬ spec (gt l k)) : Pass l k (k + 1) := fun _ _ hd hD => D_other hk h hd hD
theorem Pass.range {l : List Int} {i : Nat} : ∀ (n : Nat), i + n ≤ l.length → (∀ j, i ≤ j → j < i + n → ¬ spec (gt l j)) → Pass l i (i + n)
  | 0, _, _ => Pass.refl l i
  | n + 1, hn, h => (Pass.range n (by omega) (fun j h1 h2 => h j h1 (by omega))).trans (Pass.plain (k := i + n) (by omega) (h _ (by omega) (by omega)))
theorem Pass.rangeTo {l : List Int} {i e : Nat} (hie : i ≤ e) (he : e ≤ l.length) (h : ∀ j, i ≤ j → j < e → ¬ spec (gt l j)) : Pass l i e := by
  obtain ⟨n, rfl⟩ : ∃ n, e = i + n := ⟨e - i, by omega⟩
  exact Pass.range n he h
theorem Pass.str {l : List Int} {i q : Nat} (hi : i < l.length) (h : gt l i = 34) (hq : Q l (i + 1) q) : Pass l i (q + 1) := fun _ _ hd hD => D_quote hi h hq hd hD
theorem Pass.brk {l : List Int} {i j : Nat} (hi : i < l.length) (h : opn (gt l i)) (hp : Pass l (i + 1) j) (hj : j < l.length) (hc : cls (gt l j)) : Pass l i (j + 1) :=
  fun _ _ hd hD => D_open hi h (hp _ _ (by omega) (D_close hj hc hd hD))
theorem top_brk {l : List Int} {i j : Nat} (hi : i < l.length) (h : opn (gt l i)) (hp : Pass l (i + 1) j) (hj : j < l.length) (hc : cls (gt l j)) : D l i 0 (j + 1) :=
  D_open hi h (hp _ _ (by omega) (D_last hj hc))

/-! ### What a well-formed value is worth to skip -/
def wsp (c : Int) : Prop := c = 32 ∨ c = 9 ∨ c = 10 ∨ c = 13
def dlm (c : Int) : Prop := c = 44 ∨ c = 125 ∨ c = 93 ∨ wsp c
/-- A byte that a scalar may hold: neither a delimiter nor a quote nor a bracket; ASCII. -/
def scb (c : Int) : Prop := ¬ dlm c ∧ ¬ spec c ∧ 0 ≤ c ∧ c < 128

def Val (l : List Int) (i e : Nat) (kind : Int) : Prop :=
  i < e ∧ e ≤ l.length ∧
  ((kind = 1 ∨ kind = 2) ∧ opn (gt l i) ∧ D l i 0 e ∧ Pass l i e ∨
   kind = 3 ∧ gt l i = 34 ∧ (∃ q, e = q + 1 ∧ Q l (i + 1) q) ∨
   (kind = 4 ∨ kind = 5 ∨ kind = 6) ∧ ∀ j, i ≤ j → j < e → scb (gt l j))

theorem Val.pass {l : List Int} {i e : Nat} {kind : Int} (h : Val l i e kind) : Pass l i e := by
  obtain ⟨h1, h2, ⟨_, _, _, h⟩ | ⟨_, h3, q, rfl, hq⟩ | ⟨_, h⟩⟩ := h
  · exact h
  · exact Pass.str (by omega) h3 hq
  · exact Pass.rangeTo (by omega) h2 (fun j a b => (h j a b).2.1)

theorem Val.brk {l : List Int} {i j : Nat} {kind : Int} (hk : kind = 1 ∨ kind = 2) (hi : i < l.length) (h : opn (gt l i)) (hp : Pass l (i + 1) j) (hij : i < j) (hj : j < l.length) (hc : cls (gt l j)) : Val l i (j + 1) kind :=
  ⟨by omega, by omega, Or.inl ⟨hk, h, top_brk hi h hp hj hc, Pass.brk hi h hp hj hc⟩⟩
theorem Val.str {l : List Int} {i q : Nat} (h : gt l i = 34) (hq : Q l (i + 1) q) : Val l i (q + 1) 3 := by
  have := Q_bounds hq
  exact ⟨by omega, by omega, Or.inr (Or.inl ⟨rfl, h, q, rfl, hq⟩)⟩
theorem Val.scalar {l : List Int} {i e : Nat} {kind : Int} (hk : kind = 4 ∨ kind = 5 ∨ kind = 6) (h1 : i < e) (h2 : e ≤ l.length) (h : ∀ j, i ≤ j → j < e → scb (gt l j)) : Val l i e kind :=
  ⟨h1, h2, Or.inr (Or.inr ⟨hk, h⟩)⟩

/-- A byte of a number. -/
def numc (c : Int) : Prop := 48 ≤ c ∧ c ≤ 57 ∨ c = 43 ∨ c = 45 ∨ c = 46 ∨ c = 101 ∨ c = 69
theorem numc_scb {c : Int} (h : numc c) : scb c := by
  unfold numc at h
  unfold scb dlm spec wsp opn cls
  omega
theorem wsp_spec {c : Int} (h : wsp c) : ¬ spec c := by
  unfold wsp at h
  unfold spec opn cls
  omega
/-- Between i and e stand bytes of a number. -/
def Num (l : List Int) (i e : Nat) : Prop := ∀ j, i ≤ j → j < e → numc (gt l j)
theorem Num.refl (l : List Int) (i : Nat) : Num l i i := fun j a b => by omega
theorem Num.trans {l : List Int} {i j e : Nat} (h1 : Num l i j) (h2 : Num l j e) : Num l i e := fun x a b => by
  by_cases h : x < j
  · exact h1 x a h
  · exact h2 x (by omega) b
theorem Num.one {l : List Int} {i : Nat} (h : numc (gt l i)) : Num l i (i + 1) := fun j a b => by
  obtain rfl : j = i := by omega
  exact h

end Go.Proofs.Qxb6001130a.Plain
