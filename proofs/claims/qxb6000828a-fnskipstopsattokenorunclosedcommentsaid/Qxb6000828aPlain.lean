/-
  PLAIN MATHEMATICS FOR THE LAWS OVER 'skip': no Go in sight.
-/
import Derived.Lib.Bytealg
import Derived.Lib.Bytes
import Derived.Lib.Index
import Derived.RowKit
namespace Go.Proofs.Qxb6000828a.Plain
open Go Go.RowKit

/-- A string's bytes as numbers. -/
def toI (b : UInt8) : Int := (b.toNat : Int)
def bts (s : ByteArray) : List Int := s.data.toList.map toI
def gt (l : List Int) (k : Nat) : Int := l.getD k 0

theorem bts_length (s : ByteArray) : (bts s).length = s.size := by
  unfold bts; simp
theorem bts_get (s : ByteArray) (k : Nat) (h : k < s.size) : (s[k].toNat : Int) = gt (bts s) k := by
  unfold gt bts
  have h' : k < s.data.size := h
  rw [List.getD_eq_getElem?_getD, List.getElem?_map, Array.getElem?_toList, Array.getElem?_eq_getElem h']
  rfl
theorem toI_inj {a b : UInt8} : toI a = toI b ↔ a = b := by
  unfold toI
  constructor
  · intro h; exact UInt8.toNat_inj.1 (by omega)
  · rintro rfl; rfl
theorem gt_drop (l : List Int) (k j : Nat) : gt (l.drop k) j = gt l (k + j) := by
  unfold gt; simp

def twc (c : Int) (l : List Int) : Nat := (l.takeWhile (fun z => !(z == c))).length
theorem twc_le (c : Int) (l : List Int) : twc c l ≤ l.length := List.Sublist.length_le (List.takeWhile_sublist _)
theorem twc_cons (c z : Int) (l : List Int) : twc c (z :: l) = if z = c then 0 else twc c l + 1 := by
  unfold twc
  by_cases h : z = c <;> simp [h]

theorem indexByte_eq (c : UInt8) : ∀ (L : List UInt8), Lib.indexByte L c = if twc (toI c) (L.map toI) < L.length then (twc (toI c) (L.map toI) : Int) else -1 := by
  intro L
  induction L with
  | nil => rfl
  | cons z L ih =>
    have e : (z == c) = decide (toI z = toI c) := by
      rw [Bool.eq_iff_iff]
      simp only [beq_iff_eq, decide_eq_true_eq, toI_inj]
    rw [List.map_cons, Lib.indexByte, e, ih, twc_cons]
    by_cases hzc : toI z = toI c
    · simp [hzc]
    · simp only [hzc, decide_false, Bool.false_eq_true, if_false, List.length_cons]
      by_cases hlt : twc (toI c) (L.map toI) < L.length
      · have h1 : ¬ ((twc (toI c) (L.map toI) : Int) = -1) := by omega
        simp only [hlt, if_true, beq_iff_eq, h1, if_false]
        rw [if_pos (by omega)]
        omega
      · simp only [hlt, if_false]
        simp
        omega

/-- Does the list begin with a, then b? -/
def hp2 (a b : Int) (l : List Int) : Bool := decide (1 < l.length ∧ gt l 0 = a ∧ gt l 1 = b)

theorem hasPrefix_eq (a b : UInt8) (L : List UInt8) : Lib.hasPrefix L [a, b] = hp2 (toI a) (toI b) (L.map toI) := by
  unfold Lib.hasPrefix hp2
  match L with
  | [] => rfl
  | [x] => simp [List.isPrefixOf]
  | x :: y :: r =>
    rw [Bool.eq_iff_iff]
    simp only [List.isPrefixOf_cons_cons, Bool.and_eq_true, beq_iff_eq, List.isPrefixOf_nil_left, decide_eq_true_eq, List.map_cons, List.length_cons, gt, List.getD_cons_zero, List.getD_cons_succ, toI_inj]
    constructor
    · rintro ⟨rfl, rfl, _⟩; exact ⟨by omega, rfl, rfl⟩
    · rintro ⟨_, rfl, rfl⟩; exact ⟨rfl, rfl, trivial⟩

/-- Where the first star with a slash behind it stands. -/
def ci : List Int → Option Nat
  | [] => none
  | z :: l => if hp2 42 47 (z :: l) = true then some 0 else (ci l).map (· + 1)

theorem index_eq (L : List UInt8) : Lib.index L [42, 47] = (match ci (L.map toI) with | none => -1 | some e => (e : Int)) := by
  induction L with
  | nil => rfl
  | cons z L ih =>
    rw [List.map_cons, Lib.index, ci]
    have e := hasPrefix_eq 42 47 (z :: L)
    unfold Lib.hasPrefix at e
    rw [e]
    have e1 : toI 42 = 42 := rfl
    have e2 : toI 47 = 47 := rfl
    rw [e1, e2, List.map_cons]
    by_cases h : hp2 42 47 (toI z :: L.map toI) = true
    · simp [h]
    · simp only [h, ih]
      cases hc : ci (L.map toI) with
      | none => simp
      | some e =>
        have : ¬ ((e : Int) = -1) := by omega
        simp [this]

theorem ci_some : ∀ (l : List Int) (e : Nat), ci l = some e → e + 1 < l.length ∧ gt l e = 42 ∧ gt l (e + 1) = 47
  | [], e, h => by simp [ci] at h
  | z :: l, e, h => by
    rw [ci] at h
    by_cases hp : hp2 42 47 (z :: l) = true
    · rw [if_pos hp] at h
      cases h
      have := of_decide_eq_true hp
      exact ⟨by simpa using this.1, this.2⟩
    · rw [if_neg hp] at h
      cases hc : ci l with
      | none => rw [hc] at h; simp at h
      | some e' =>
        rw [hc] at h
        simp at h
        subst h
        have := ci_some l e' hc
        unfold gt at *
        exact ⟨by simp; omega, by simpa using this.2.1, by simpa using this.2.2⟩

theorem ci_none : ∀ (l : List Int), ci l = none → ∀ j, j + 1 < l.length → ¬ (gt l j = 42 ∧ gt l (j + 1) = 47)
  | [], _, j, hj => by simp at hj
  | z :: l, h, j, hj => by
    rw [ci] at h
    by_cases hp : hp2 42 47 (z :: l) = true
    · rw [if_pos hp] at h; cases h
    · rw [if_neg hp] at h
      have hn : ci l = none := by cases hc : ci l with
        | none => rfl
        | some e => rw [hc] at h; simp at h
      cases j with
      | zero =>
        intro hh
        exact hp (decide_eq_true ⟨by simpa using hj, hh⟩)
      | succ j =>
        have := ci_none l hn j (by simpa using hj)
        unfold gt at *
        simpa using this

def lay (c : Int) : Prop := c = 32 ∨ c = 9 ∨ c = 13 ∨ c = 10
def layB (c : Int) : Bool := c == 32 || c == 9 || c == 13 || c == 10

/-- One round of skip at place k: it stops (with what verdict), or goes on. -/
def nx (l : List Int) (k : Nat) : Bool ⊕ Nat :=
  if layB (gt l k) = true then .inr (k + 1)
  else if hp2 47 47 (l.drop k) = true then .inr (k + twc 10 (l.drop k))
  else if hp2 47 42 (l.drop k) = true then (match ci (l.drop (k + 2)) with | none => .inl false | some e => .inr (k + 2 + e + 2))
  else .inl true

/-- What skip answers from place k on: the verdict, and where it stops. -/
def sk (l : List Int) : Nat → Nat → Bool × Nat
  | 0, k => (true, k)
  | f + 1, k => if k < l.length then (match nx l k with | .inl b => (b, k) | .inr k' => sk l f k') else (true, k)

theorem sk_go {l : List Int} {f k k' : Nat} (hk : k < l.length) (h : nx l k = .inr k') : sk l (f + 1) k = sk l f k' := by rw [sk, if_pos hk, h]
theorem sk_stop {l : List Int} {f k : Nat} {b : Bool} (hk : k < l.length) (h : nx l k = .inl b) : sk l (f + 1) k = (b, k) := by rw [sk, if_pos hk, h]
theorem sk_out {l : List Int} {k : Nat} (hk : ¬ k < l.length) : ∀ f, sk l f k = (true, k)
  | 0 => rfl
  | f + 1 => by rw [sk, if_neg hk]

/-- How many line breaks stand in l[a:b]. -/
def nlc (l : List Int) (a b : Nat) : Nat := ((l.drop a).take (b - a)).count 10
theorem nlc_self (l : List Int) (a : Nat) : nlc l a a = 0 := by simp [nlc]
theorem nlc_add (l : List Int) (a b c : Nat) (h1 : a ≤ b) (h2 : b ≤ c) : nlc l a c = nlc l a b + nlc l b c := by
  unfold nlc
  have e : c - a = (b - a) + (c - b) := by omega
  rw [e, List.take_add, List.count_append, List.drop_drop]
  have e2 : a + (b - a) = b := by omega
  rw [e2]
theorem nlc_one (l : List Int) (k : Nat) (hk : k < l.length) : nlc l k (k + 1) = if gt l k = 10 then 1 else 0 := by
  have hg : gt l k = l[k] := by unfold gt; simp [hk]
  have e : k + 1 - k = 1 := by omega
  have e2 : (l.drop k).take 1 = [l[k]] := by rw [List.drop_eq_getElem_cons hk]; rfl
  unfold nlc
  rw [e, e2, hg]
  by_cases h : l[k] = 10 <;> simp [h]
theorem nlc_line (l : List Int) (k : Nat) : nlc l k (k + twc 10 (l.drop k)) = 0 := by
  unfold nlc
  have e : k + twc 10 (l.drop k) - k = twc 10 (l.drop k) := by omega
  rw [e]
  have h : ∀ (m : List Int), (m.take (twc 10 m)).count 10 = 0 := by
    intro m
    induction m with
    | nil => rfl
    | cons z m ih =>
      rw [twc_cons]
      by_cases hz : z = 10
      · simp [hz]
      · simp [hz, ih]
  exact h _
theorem nlc_le (l : List Int) (a b : Nat) : nlc l a b ≤ l.length := by
  unfold nlc
  refine Nat.le_trans List.count_le_length ?_
  simp; omega

theorem twc_pos {l : List Int} {k : Nat} (hk : k < l.length) (h : gt l k ≠ 10) : 1 ≤ twc 10 (l.drop k) := by
  rw [List.drop_eq_getElem_cons hk, twc_cons]
  have : gt l k = l[k] := by unfold gt; simp [hk]
  rw [← this, if_neg h]
  omega

theorem hp2_drop {a b : Int} {l : List Int} {k : Nat} (h : hp2 a b (l.drop k) = true) : k + 1 < l.length ∧ gt l k = a ∧ gt l (k + 1) = b := by
  have h' := of_decide_eq_true h
  rw [gt_drop, gt_drop, List.length_drop] at h'
  exact ⟨by omega, h'.2⟩

/-- A round goes on strictly behind, and not past the end. -/
theorem nx_bounds {l : List Int} {k k' : Nat} (hk : k < l.length) (h : nx l k = .inr k') : k < k' ∧ k' ≤ l.length := by
  unfold nx at h
  split at h
  · cases h; omega
  · rename_i hl
    split at h
    · cases h
      have hc : gt l k ≠ 10 := fun hc => hl (by simp [layB, hc])
      have := twc_pos hk hc
      have h2 := twc_le 10 (l.drop k)
      rw [List.length_drop] at h2
      omega
    · split at h
      · split at h
        · cases h
        · rename_i e he
          cases h
          have := ci_some _ _ he
          rw [List.length_drop] at this
          omega
      · cases h

theorem sk_ge (l : List Int) : ∀ f k, k ≤ l.length → k ≤ (sk l f k).2 ∧ (sk l f k).2 ≤ l.length
  | 0, k, h => ⟨Nat.le_refl _, h⟩
  | f + 1, k, h => by
    by_cases hk : k < l.length
    · cases hn : nx l k with
      | inl b => rw [sk_stop hk hn]; exact ⟨Nat.le_refl _, h⟩
      | inr k' =>
        have hb := nx_bounds hk hn
        rw [sk_go hk hn]
        have := sk_ge l f k' hb.2
        omega
    · rw [sk_out hk]; exact ⟨Nat.le_refl _, h⟩

/-- WHERE skip STOPS, with enough fuel. -/
theorem sk_end (l : List Int) : ∀ f k, k ≤ l.length → l.length + 1 ≤ f + k →
    (sk l f k).2 = l.length ∧ (sk l f k).1 = true ∨ (sk l f k).2 < l.length ∧ nx l (sk l f k).2 = .inl (sk l f k).1
  | 0, k, h, hf => by omega
  | f + 1, k, h, hf => by
    by_cases hk : k < l.length
    · cases hn : nx l k with
      | inl b => rw [sk_stop hk hn]; exact Or.inr ⟨hk, hn⟩
      | inr k' =>
        have hb := nx_bounds hk hn
        rw [sk_go hk hn]
        exact sk_end l f k' hb.2 (by omega)
    · rw [sk_out hk]; exact Or.inl ⟨by show k = _; omega, rfl⟩

theorem nx_true {l : List Int} {k : Nat} (h : nx l k = .inl true) : layB (gt l k) = false ∧ ¬ (gt l k = 47 ∧ k + 1 < l.length ∧ (gt l (k + 1) = 47 ∨ gt l (k + 1) = 42)) := by
  unfold nx at h
  split at h
  · cases h
  · rename_i hl
    split at h
    · cases h
    · rename_i h1
      split at h
      · split at h <;> cases h
      · rename_i h2
        refine ⟨by simpa using hl, ?_⟩
        rintro ⟨ha, hb, hc | hc⟩
        · exact h1 (decide_eq_true (by rw [gt_drop, gt_drop, List.length_drop]; exact ⟨by omega, ha, hc⟩))
        · exact h2 (decide_eq_true (by rw [gt_drop, gt_drop, List.length_drop]; exact ⟨by omega, ha, hc⟩))

theorem nx_false {l : List Int} {k : Nat} (h : nx l k = .inl false) : k + 1 < l.length ∧ gt l k = 47 ∧ gt l (k + 1) = 42 ∧ ∀ j, k + 2 ≤ j → j + 1 < l.length → ¬ (gt l j = 42 ∧ gt l (j + 1) = 47) := by
  unfold nx at h
  split at h
  · cases h
  · split at h
    · cases h
    · split at h
      · rename_i h2
        split at h
        · rename_i hn
          have h3 := hp2_drop h2
          refine ⟨h3.1, h3.2.1, h3.2.2, ?_⟩
          intro j hj hj1
          have := ci_none _ hn (j - (k + 2)) (by rw [List.length_drop]; omega)
          rw [gt_drop, gt_drop] at this
          have e1 : k + 2 + (j - (k + 2)) = j := by omega
          have e2 : k + 2 + (j - (k + 2) + 1) = j + 1 := by omega
          rw [e1, e2] at this
          exact this
        · cases h
      · cases h

/-! ### The shift by leading layout -/
theorem gt_right (a b : List Int) (k : Nat) : gt (a ++ b) (a.length + k) = gt b k := by
  unfold gt; simp [List.getElem?_append_right]
theorem drop_right (a b : List Int) (k : Nat) : (a ++ b).drop (a.length + k) = b.drop k := by
  rw [List.drop_append]; simp
theorem nx_shift (a b : List Int) (k : Nat) : nx (a ++ b) (a.length + k) = (match nx b k with | .inl v => .inl v | .inr k' => .inr (a.length + k')) := by
  unfold nx
  have e : a.length + k + 2 = a.length + (k + 2) := by omega
  rw [gt_right, drop_right, e, drop_right]
  split
  · rfl
  · split
    · simp; omega
    · split
      · cases ci (b.drop (k + 2)) with
        | none => rfl
        | some e => simp; omega
      · rfl
theorem sk_shift (a b : List Int) : ∀ f k, sk (a ++ b) f (a.length + k) = ((sk b f k).1, a.length + (sk b f k).2)
  | 0, k => rfl
  | f + 1, k => by
    have hs := nx_shift a b k
    by_cases hk : k < b.length
    · have hk' : a.length + k < (a ++ b).length := by simp; omega
      cases hn : nx b k with
      | inl v => rw [hn] at hs; rw [sk_stop hk hn, sk_stop hk' hs]
      | inr k' => rw [hn] at hs; rw [sk_go hk hn, sk_go hk' hs, sk_shift a b f k']
    · have hk' : ¬ a.length + k < (a ++ b).length := by simp; omega
      rw [sk_out hk, sk_out hk']
theorem sk_lead (a b : List Int) (ha : ∀ c ∈ a, layB c = true) (f : Nat) : sk (a ++ b) (f + a.length) 0 = ((sk b f 0).1, a.length + (sk b f 0).2) := by
  have h : ∀ m, m ≤ a.length → sk (a ++ b) (f + m) (a.length - m) = sk (a ++ b) f a.length := by
    intro m
    induction m with
    | zero => intro _; rfl
    | succ m ih =>
      intro hm
      have hlt : a.length - (m + 1) < a.length := by omega
      have hn : nx (a ++ b) (a.length - (m + 1)) = .inr (a.length - (m + 1) + 1) := by
        unfold nx
        have : gt (a ++ b) (a.length - (m + 1)) = a[a.length - (m + 1)] := by unfold gt; simp [List.getElem?_append_left hlt, hlt]
        rw [this, if_pos (ha _ (List.getElem_mem hlt))]
      rw [← Nat.add_assoc, sk_go (by simp; omega) hn, ← ih (by omega)]
      congr 1
      omega
  have h1 := h a.length (Nat.le_refl _)
  rw [Nat.sub_self] at h1
  rw [h1]
  exact sk_shift a b f 0
theorem nlc_lead (a b : List Int) (p : Nat) : nlc (a ++ b) 0 (a.length + p) = nlc a 0 a.length + nlc b 0 p := by
  rw [nlc_add (a ++ b) 0 a.length _ (Nat.zero_le _) (by omega)]
  unfold nlc
  simp

theorem wrap_add (a b : Int) : wrap64 (wrap64 a + b) = wrap64 (a + b) := by unfold wrap64; omega

end Go.Proofs.Qxb6000828a.Plain
