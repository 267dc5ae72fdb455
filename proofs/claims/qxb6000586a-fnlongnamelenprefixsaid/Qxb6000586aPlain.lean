/-
  PLAIN MATHEMATICS FOR 'FnLongNameLenPrefix': no Go in sight.
-/
import Derived.Lib.Bytealg
import Derived.Lib.Bytes
namespace Go.Proofs.Qxb6000586a.Plain
open Go

/-- A byte that ends no name. -/
def okB (z : Int) : Bool := !(z == 34 || z == 92)
/-- How many numbers at the head of a list are not c. -/
def twc (c : Int) (l : List Int) : Nat := (l.takeWhile (fun z => !(z == c))).length
/-- How many numbers at the head of a list end no name. -/
def tw (l : List Int) : Nat := (l.takeWhile okB).length
/-- What longNameLen answers. -/
def lnl (l : List Int) : Nat := (l.take 8).length + tw (l.drop 8)
def U8 (l : List Int) : Prop := ∀ z ∈ l, 0 ≤ z ∧ z ≤ 255

theorem twc_le (c : Int) (l : List Int) : twc c l ≤ l.length := List.Sublist.length_le (List.takeWhile_sublist _)
theorem tw_le (l : List Int) : tw l ≤ l.length := List.Sublist.length_le (List.takeWhile_sublist _)
theorem U8.take {l : List Int} (h : U8 l) (n : Nat) : U8 (l.take n) := fun z hz => h z (List.mem_of_mem_take hz)
theorem U8.drop {l : List Int} (h : U8 l) (n : Nat) : U8 (l.drop n) := fun z hz => h z (List.mem_of_mem_drop hz)

theorem twc_cons (c z : Int) (l : List Int) : twc c (z :: l) = if z = c then 0 else twc c l + 1 := by
  unfold twc
  by_cases h : z = c <;> simp [h]
theorem tw_cons (z : Int) (l : List Int) : tw (z :: l) = if okB z then tw l + 1 else 0 := by
  unfold tw
  cases h : okB z <;> simp [h]

theorem ofNat_eq (z c : Int) (hz : 0 ≤ z ∧ z ≤ 255) (hc : 0 ≤ c ∧ c ≤ 255) : (UInt8.ofNat z.toNat == c.toNat.toUInt8) = decide (z = c) := by
  rw [Bool.eq_iff_iff]
  simp only [beq_iff_eq, decide_eq_true_eq]
  constructor
  · intro h
    have h2 := congrArg UInt8.toNat h
    simp at h2
    omega
  · rintro rfl; rfl

theorem indexByte_eq (c : Int) (hc : 0 ≤ c ∧ c ≤ 255) : ∀ (l : List Int), U8 l → Lib.indexByte (Lib.bytesOf l) c.toNat.toUInt8 = if twc c l < l.length then (twc c l : Int) else -1 := by
  intro l
  induction l with
  | nil => intro _; rfl
  | cons z l ih =>
    intro h
    have hz := h z (List.mem_cons_self ..)
    have ih' := ih (fun x hx => h x (List.mem_cons_of_mem _ hx))
    have e : Lib.bytesOf (z :: l) = UInt8.ofNat z.toNat :: Lib.bytesOf l := rfl
    rw [e, Lib.indexByte, ofNat_eq z c hz hc, ih', twc_cons]
    by_cases hzc : z = c
    · simp [hzc]
    · simp only [hzc, decide_false, Bool.false_eq_true, if_false, List.length_cons]
      by_cases hlt : twc c l < l.length
      · have h1 : ¬ ((twc c l : Int) = -1) := by omega
        simp [hlt, h1]
      · simp [hlt]

/-- The first quote, then the first backslash ahead of it: the first of both. -/
theorem tw_both : ∀ (l : List Int), tw l = twc 92 (l.take (twc 34 l)) := by
  intro l
  induction l with
  | nil => rfl
  | cons z l ih =>
    rw [tw_cons, twc_cons]
    by_cases h34 : z = 34
    · simp [h34, okB, twc]
    · by_cases h92 : z = 92
      · subst h92; simp [okB, twc_cons]
      · simp [okB, h34, h92, twc_cons, ih]

theorem twc_take_len (l : List Int) : (l.take (twc 34 l)).length = twc 34 l := by
  have := twc_le 34 l
  simp; omega

theorem tw_split (l : List Int) : ∀ (n : Nat), tw (l.take n) = (l.take n).length → tw l = (l.take n).length + tw (l.drop n) := by
  induction l with
  | nil => intro n _; simp [tw]
  | cons z l ih =>
    intro n h
    cases n with
    | zero => simp
    | succ n =>
      rw [List.take_succ_cons, tw_cons] at h
      rw [List.take_succ_cons, List.drop_succ_cons, tw_cons]
      cases hz : okB z with
      | false => rw [hz] at h; simp at h
      | true =>
        rw [hz] at h
        simp only [if_true, List.length_cons] at h ⊢
        have := ih n (by omega)
        omega

theorem tw_take (l : List Int) : ∀ n, tw (l.take n) = min n (tw l) := by
  induction l with
  | nil => intro n; simp [tw]
  | cons z l ih =>
    intro n
    cases n with
    | zero => simp [tw]
    | succ n =>
      rw [List.take_succ_cons, tw_cons, tw_cons, ih]
      split <;> omega

/-- THE LAW: the answer on a prefix is the lesser of its length and the whole's answer. -/
theorem lnl_take (l : List Int) (k : Nat) (hk : k ≤ l.length) : lnl (l.take k) = min k (lnl l) := by
  unfold lnl
  have e : (l.take k).drop 8 = (l.drop 8).take (k - 8) := by rw [List.drop_take]
  have ht := tw_le (l.drop 8)
  rw [e, tw_take]
  simp at ht ⊢
  omega

theorem lnl_le (l : List Int) : lnl l ≤ l.length := by
  unfold lnl
  have ht := tw_le (l.drop 8)
  simp at ht ⊢
  omega
theorem lnl_ge (l : List Int) : min 8 l.length ≤ lnl l := by
  unfold lnl
  simp
theorem lnl_short (l : List Int) (h : l.length < 8) : lnl l = l.length := by
  have := lnl_le l; have := lnl_ge l; omega

/-- One round's step of the windowed search: what has been passed holds no stop. -/
theorem tw_step (l : List Int) (s : Nat) (h8 : 8 ≤ s) (h : lnl (l.take s) = (l.take s).length) : lnl l = s + tw (l.drop s) ∨ l.length ≤ s := by
  by_cases hs : l.length ≤ s
  · exact Or.inr hs
  · left
    have h1 := lnl_take l s (by omega)
    unfold lnl at *
    have e : (l.take s).drop 8 = (l.drop 8).take (s - 8) := by rw [List.drop_take]
    rw [e] at h
    have hh : tw ((l.drop 8).take (s - 8)) = ((l.drop 8).take (s - 8)).length := by simp at h ⊢; omega
    have := tw_split (l.drop 8) (s - 8) hh
    rw [this, List.drop_drop]
    have e2 : 8 + (s - 8) = s := by omega
    rw [e2]
    simp
    omega

theorem round_yes (zs v : List Int) (s m : Nat) (h8 : 8 ≤ s) (hlt : s < zs.length) (hl : lnl (zs.take s) = (zs.take s).length) (_hm : s + m ≤ zs.length) (hv : v = (zs.drop s).take m) :
    tw v < m → lnl zs = s + tw v := by
  intro h
  rcases tw_step zs s h8 hl with h1 | h1
  · subst hv
    rw [tw_take] at h ⊢
    rw [h1]
    omega
  · omega

theorem round_no (zs v : List Int) (s m : Nat) (h8 : 8 ≤ s) (hlt : s < zs.length) (hl : lnl (zs.take s) = (zs.take s).length) (hm : s + m ≤ zs.length) (hv : v = (zs.drop s).take m) :
    tw v = m → lnl (zs.take (s + m)) = (zs.take (s + m)).length := by
  intro h
  rcases tw_step zs s h8 hl with h1 | h1
  · subst hv
    rw [tw_take] at h
    rw [lnl_take zs _ hm, h1]
    simp
    omega
  · omega

theorem round_next (zs : List Int) (s q len : Nat) (hz : zs.length = len) (hm : q = 256 ∧ s + 256 ≤ len ∨ s + q = len ∧ len < s + 256) (h : lnl (zs.take (s + q)) = (zs.take (s + q)).length) :
    lnl (zs.take (s + 256)) = (zs.take (s + 256)).length := by
  rcases hm with ⟨rfl, _⟩ | ⟨h1, h2⟩
  · exact h
  · rw [List.take_of_length_le (by omega)] at h ⊢
    exact h

end Go.Proofs.Qxb6000586a.Plain
