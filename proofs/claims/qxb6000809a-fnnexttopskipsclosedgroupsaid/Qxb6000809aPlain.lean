/-
  PLAIN MATHEMATICS FOR 'FnNextTopSkipsClosedGroup': no Go in sight.
-/
import Derived.Lib.Bytealg
import Derived.Lib.Bytes
namespace Go.Proofs.Qxb6000809a.Plain
open Go

/-- A string's bytes as numbers. -/
def bts (s : ByteArray) : List Int := s.data.toList.map (fun b => (b.toNat : Int))
def gt (l : List Int) (k : Nat) : Int := l.getD k 0

theorem bts_length (s : ByteArray) : (bts s).length = s.size := by
  unfold bts; simp
theorem bts_get (s : ByteArray) (k : Nat) (h : k < s.size) : (s[k].toNat : Int) = gt (bts s) k := by
  unfold gt bts
  have h' : k < s.data.size := h
  rw [List.getD_eq_getElem?_getD, List.getElem?_map, Array.getElem?_toList, Array.getElem?_eq_getElem h']
  rfl
theorem gt_u8 (s : ByteArray) (k : Nat) : 0 ≤ gt (bts s) k ∧ gt (bts s) k ≤ 255 := by
  by_cases h : k < s.size
  · rw [← bts_get s k h]
    have := s[k].toNat_lt
    omega
  · unfold gt
    rw [List.getD_eq_getElem?_getD, List.getElem?_eq_none (by rw [bts_length]; omega)]
    simp

def twc (c : Int) (l : List Int) : Nat := (l.takeWhile (fun z => !(z == c))).length
theorem twc_le (c : Int) (l : List Int) : twc c l ≤ l.length := List.Sublist.length_le (List.takeWhile_sublist _)
theorem twc_cons (c z : Int) (l : List Int) : twc c (z :: l) = if z = c then 0 else twc c l + 1 := by
  unfold twc
  by_cases h : z = c <;> simp [h]

theorem indexByte_eq (c : UInt8) : ∀ (L : List UInt8), Lib.indexByte L c = if twc (c.toNat : Int) (L.map (fun b => (b.toNat : Int))) < L.length then (twc (c.toNat : Int) (L.map (fun b => (b.toNat : Int))) : Int) else -1 := by
  intro L
  induction L with
  | nil => rfl
  | cons z L ih =>
    have e : (z == c) = decide ((z.toNat : Int) = (c.toNat : Int)) := by
      rw [Bool.eq_iff_iff]
      simp only [beq_iff_eq, decide_eq_true_eq]
      constructor
      · rintro rfl; rfl
      · intro h; exact UInt8.toNat_inj.1 (by omega)
    rw [List.map_cons, Lib.indexByte, e, ih, twc_cons]
    by_cases hzc : (z.toNat : Int) = (c.toNat : Int)
    · simp [hzc]
    · simp only [hzc, decide_false, Bool.false_eq_true, if_false, List.length_cons]
      by_cases hlt : twc (c.toNat : Int) (L.map (fun b => (b.toNat : Int))) < L.length
      · have h1 : ¬ ((twc (c.toNat : Int) (L.map (fun b => (b.toNat : Int))) : Int) = -1) := by omega
        simp only [hlt, if_true, beq_iff_eq, h1, if_false]
        rw [if_pos (by omega)]
        omega
      · simp only [hlt, if_false]
        simp
        omega

/-- How long the run of backslashes is that ends ahead of place k, behind place o. -/
def slash (l : List Int) (o : Nat) : Nat → Nat
  | 0 => 0
  | k + 1 => if o < k ∧ gt l k = 92 then slash l o k + 1 else 0

theorem slash_le (l : List Int) (o : Nat) : ∀ k, slash l o k ≤ k
  | 0 => Nat.le_refl _
  | k + 1 => by
    have := slash_le l o k
    unfold slash
    split <;> omega

/-- What stringEnd answers from place i on. -/
def se (l : List Int) (o : Nat) : Nat → Nat → Int
  | 0, _ => -1
  | f + 1, i => if i + twc 34 (l.drop i) < l.length then
      (if slash l o (i + twc 34 (l.drop i)) % 2 = 0 then ((i + twc 34 (l.drop i) : Nat) : Int) else se l o f (i + twc 34 (l.drop i) + 1))
    else -1
def SE (l : List Int) (o : Nat) : Int := se l o l.length (o + 1)

theorem se_bounds (l : List Int) (o : Nat) : ∀ f i, o < i → se l o f i = -1 ∨ ((o : Int) < se l o f i ∧ se l o f i < l.length)
  | 0, _, _ => Or.inl rfl
  | f + 1, i, h => by
    unfold se
    split
    · split
      · right; omega
      · exact se_bounds l o f _ (by omega)
    · exact Or.inl rfl
theorem SE_bounds (l : List Int) (o : Nat) : SE l o = -1 ∨ ((o : Int) < SE l o ∧ SE l o < l.length) := se_bounds l o _ _ (by omega)

/-- isAlnum. -/
def alB (c : Int) : Bool := decide (48 ≤ c ∧ c ≤ 57 ∨ 65 ≤ c ∧ c ≤ 90 ∨ 97 ≤ c ∧ c ≤ 122)
/-- Does a decoration begin here? -/
def decoB (l : List Int) (k : Nat) : Bool := decide (0 < k ∧ alB (gt l (k - 1)) = true ∧ k + 1 < l.length ∧ gt l (k + 1) ≠ 60 ∧ gt l (k + 1) ≠ 32)
def top (st : List Int) : Int := st.getLast?.getD 0
theorem top_nil : top [] = 0 := rfl
theorem top_snoc (ys : List Int) (t : Int) : top (ys ++ [t]) = t := by simp [top]

/-- One round of nextTop: it answers, or it goes on. -/
def nx (l : List Int) (stop : Int) (k : Nat) (st : List Int) : Int ⊕ (Nat × List Int) :=
  if top st = 62 then
    (if gt l k = 62 then .inr (k + 1, st.dropLast) else if gt l k = 91 ∧ gt l (k - 1) = 58 then .inr (k + 1, st ++ [1]) else .inr (k + 1, st))
  else if top st = 1 then (if gt l k = 93 then .inr (k + 1, st.dropLast) else .inr (k + 1, st))
  else if top st = 0 ∧ gt l k = stop then .inl k
  else if gt l k = 34 then (if SE l k < 0 then .inl (-1) else .inr ((SE l k).toNat + 1, st))
  else if gt l k = 40 then .inr (k + 1, st ++ [41])
  else if gt l k = 91 then .inr (k + 1, st ++ [93])
  else if gt l k = 123 then .inr (k + 1, st ++ [125])
  else if gt l k = 60 then (if decoB l k = true then .inr (k + 1, st ++ [62]) else .inr (k + 1, st))
  else if gt l k = 41 ∨ gt l k = 93 ∨ gt l k = 125 then (if top st = gt l k then .inr (k + 1, st.dropLast) else .inr (k + 1, st))
  else .inr (k + 1, st)

section
variable {l : List Int} {stop : Int} {k : Nat} {st : List Int}
theorem nx_62pop (h : top st = 62) (hc : gt l k = 62) : nx l stop k st = .inr (k + 1, st.dropLast) := by unfold nx; rw [if_pos h, if_pos hc]
theorem nx_62push (h : top st = 62) (hc : gt l k = 91) (hp : gt l (k - 1) = 58) : nx l stop k st = .inr (k + 1, st ++ [1]) := by unfold nx; rw [if_pos h, if_neg (by omega), if_pos ⟨hc, hp⟩]
theorem nx_62else (h : top st = 62) (hc : gt l k ≠ 62) (hp : ¬ (gt l k = 91 ∧ gt l (k - 1) = 58)) : nx l stop k st = .inr (k + 1, st) := by unfold nx; rw [if_pos h, if_neg hc, if_neg hp]
theorem nx_1pop (h : top st = 1) (hc : gt l k = 93) : nx l stop k st = .inr (k + 1, st.dropLast) := by unfold nx; rw [if_neg (by omega), if_pos h, if_pos hc]
theorem nx_1else (h : top st = 1) (hc : gt l k ≠ 93) : nx l stop k st = .inr (k + 1, st) := by unfold nx; rw [if_neg (by omega), if_pos h, if_neg hc]
theorem nx_stop (h : top st = 0) (hc : gt l k = stop) : nx l stop k st = .inl k := by unfold nx; rw [if_neg (by omega), if_neg (by omega), if_pos ⟨h, hc⟩]
theorem nx_q (g1 : top st ≠ 62) (g2 : top st ≠ 1) (g3 : ¬ (top st = 0 ∧ gt l k = stop)) (hc : gt l k = 34) (e : Nat) (he : SE l k = e) : nx l stop k st = .inr (e + 1, st) := by unfold nx; rw [if_neg g1, if_neg g2, if_neg g3, if_pos hc, he, if_neg (by omega), Int.toNat_natCast]
theorem nx_qno (g1 : top st ≠ 62) (g2 : top st ≠ 1) (g3 : ¬ (top st = 0 ∧ gt l k = stop)) (hc : gt l k = 34) (he : SE l k = -1) : nx l stop k st = .inl (-1) := by unfold nx; rw [if_neg g1, if_neg g2, if_neg g3, if_pos hc, he, if_pos (by omega)]
theorem nx_40 (g1 : top st ≠ 62) (g2 : top st ≠ 1) (g3 : ¬ (top st = 0 ∧ gt l k = stop)) (hc : gt l k = 40) : nx l stop k st = .inr (k + 1, st ++ [41]) := by unfold nx; rw [if_neg g1, if_neg g2, if_neg g3, if_neg (by omega), if_pos hc]
theorem nx_91 (g1 : top st ≠ 62) (g2 : top st ≠ 1) (g3 : ¬ (top st = 0 ∧ gt l k = stop)) (hc : gt l k = 91) : nx l stop k st = .inr (k + 1, st ++ [93]) := by unfold nx; rw [if_neg g1, if_neg g2, if_neg g3, if_neg (by omega), if_neg (by omega), if_pos hc]
theorem nx_123 (g1 : top st ≠ 62) (g2 : top st ≠ 1) (g3 : ¬ (top st = 0 ∧ gt l k = stop)) (hc : gt l k = 123) : nx l stop k st = .inr (k + 1, st ++ [125]) := by unfold nx; rw [if_neg g1, if_neg g2, if_neg g3, if_neg (by omega), if_neg (by omega), if_neg (by omega), if_pos hc]
theorem nx_60y (g1 : top st ≠ 62) (g2 : top st ≠ 1) (g3 : ¬ (top st = 0 ∧ gt l k = stop)) (hc : gt l k = 60) (hd : decoB l k = true) : nx l stop k st = .inr (k + 1, st ++ [62]) := by unfold nx; rw [if_neg g1, if_neg g2, if_neg g3, if_neg (by omega), if_neg (by omega), if_neg (by omega), if_neg (by omega), if_pos hc, if_pos hd]
theorem nx_60n (g1 : top st ≠ 62) (g2 : top st ≠ 1) (g3 : ¬ (top st = 0 ∧ gt l k = stop)) (hc : gt l k = 60) (hd : ¬ decoB l k = true) : nx l stop k st = .inr (k + 1, st) := by unfold nx; rw [if_neg g1, if_neg g2, if_neg g3, if_neg (by omega), if_neg (by omega), if_neg (by omega), if_neg (by omega), if_pos hc, if_neg hd]
theorem nx_close (g1 : top st ≠ 62) (g2 : top st ≠ 1) (g3 : ¬ (top st = 0 ∧ gt l k = stop)) (hc : gt l k = 41 ∨ gt l k = 93 ∨ gt l k = 125) (ht : top st = gt l k) : nx l stop k st = .inr (k + 1, st.dropLast) := by unfold nx; rw [if_neg g1, if_neg g2, if_neg g3, if_neg (by omega), if_neg (by omega), if_neg (by omega), if_neg (by omega), if_neg (by omega), if_pos hc, if_pos ht]
theorem nx_closen (g1 : top st ≠ 62) (g2 : top st ≠ 1) (g3 : ¬ (top st = 0 ∧ gt l k = stop)) (hc : gt l k = 41 ∨ gt l k = 93 ∨ gt l k = 125) (ht : ¬ top st = gt l k) : nx l stop k st = .inr (k + 1, st) := by unfold nx; rw [if_neg g1, if_neg g2, if_neg g3, if_neg (by omega), if_neg (by omega), if_neg (by omega), if_neg (by omega), if_neg (by omega), if_pos hc, if_neg ht]
theorem nx_else (g1 : top st ≠ 62) (g2 : top st ≠ 1) (g3 : ¬ (top st = 0 ∧ gt l k = stop)) (h1 : gt l k ≠ 34) (h2 : gt l k ≠ 40) (h3 : gt l k ≠ 91) (h4 : gt l k ≠ 123) (h5 : gt l k ≠ 60) (h6 : gt l k ≠ 41) (h7 : gt l k ≠ 93) (h8 : gt l k ≠ 125) : nx l stop k st = .inr (k + 1, st) := by
  unfold nx; rw [if_neg g1, if_neg g2, if_neg g3, if_neg h1, if_neg h2, if_neg h3, if_neg h4, if_neg h5, if_neg (by omega)]
end

/-- What nextTop answers from place k on, the stack being st. -/
def nt (l : List Int) (stop : Int) : Nat → Nat → List Int → Int
  | 0, _, _ => -1
  | f + 1, k, st => if k < l.length then (match nx l stop k st with | .inl r => r | .inr p => nt l stop f p.1 p.2) else -1

theorem nt_go {l : List Int} {stop : Int} {f k : Nat} {st : List Int} {k' : Nat} {st' : List Int} (hk : k < l.length) (h : nx l stop k st = .inr (k', st')) : nt l stop (f + 1) k st = nt l stop f k' st' := by
  rw [nt, if_pos hk, h]
theorem nt_ret {l : List Int} {stop : Int} {f k : Nat} {st : List Int} {r : Int} (hk : k < l.length) (h : nx l stop k st = .inl r) : nt l stop (f + 1) k st = r := by
  rw [nt, if_pos hk, h]
theorem nt_out {l : List Int} {stop : Int} {k : Nat} {st : List Int} (hk : ¬ k < l.length) : ∀ f, nt l stop f k st = -1
  | 0 => rfl
  | f + 1 => by rw [nt, if_neg hk]

/-- A round answers -1 or its own place, or goes on behind it. -/
def Geq (k : Nat) (x : Int ⊕ (Nat × List Int)) : Prop := (∃ r, x = .inl r ∧ (r = -1 ∨ r = k)) ∨ ∃ p, x = .inr p ∧ k ≤ p.1
theorem geq_stop (k : Nat) : Geq k (.inl (-1)) := Or.inl ⟨_, rfl, Or.inl rfl⟩
theorem geq_here (k : Nat) : Geq k (.inl (k : Int)) := Or.inl ⟨_, rfl, Or.inr rfl⟩
theorem geq_on (k k' : Nat) (st : List Int) (h : k ≤ k') : Geq k (.inr (k', st)) := Or.inr ⟨_, rfl, h⟩
theorem nx_ge (l : List Int) (stop : Int) (k : Nat) (st : List Int) : Geq k (nx l stop k st) := by
  have hse := SE_bounds l k
  unfold nx
  repeat' split
  all_goals first
    | exact geq_stop k
    | exact geq_here k
    | exact geq_on _ _ _ (Nat.le_succ _)
    | exact geq_on _ _ _ (by omega)

theorem nt_ge (l : List Int) (stop : Int) : ∀ f k st, nt l stop f k st = -1 ∨ (k : Int) ≤ nt l stop f k st
  | 0, _, _ => Or.inl rfl
  | f + 1, k, st => by
    by_cases hk : k < l.length
    · rcases nx_ge l stop k st with ⟨r, h, h1⟩ | ⟨p, h, h1⟩
      · rw [nt_ret hk h]; omega
      · rw [nt_go (k' := p.1) (st' := p.2) hk h]
        have := nt_ge l stop f p.1 p.2
        omega
    · exact Or.inl (nt_out hk _)

/-- A byte that is nothing to nextTop but a letter. -/
def plainB (c : Int) : Prop := c ≠ 34 ∧ c ≠ 92 ∧ c ≠ 40 ∧ c ≠ 41 ∧ c ≠ 91 ∧ c ≠ 93 ∧ c ≠ 123 ∧ c ≠ 125 ∧ c ≠ 60 ∧ c ≠ 62

theorem gt_append_right (a b : List Int) (k : Nat) : gt (a ++ b) (a.length + k) = gt b k := by
  unfold gt; simp [List.getElem?_append_right]
theorem gt_append_left (a b : List Int) (k : Nat) (h : k < a.length) : gt (a ++ b) k = gt a k := by
  unfold gt; simp [List.getElem?_append_left h]

/-- THE PARENTHESISED GROUP is passed over. -/
theorem paren_skip (q tl : List Int) (stop : Int) (hq : ∀ c ∈ q, plainB c) (hstop : stop ≠ 40) (f : Nat) :
    nt ((40 : Int) :: (q ++ ((41 : Int) :: tl))) stop (f + 1 + q.length + 1) 0 [] = nt ((40 : Int) :: (q ++ ((41 : Int) :: tl))) stop f (q.length + 2) [] := by
  obtain ⟨l, hl⟩ : ∃ l, l = (40 : Int) :: (q ++ ((41 : Int) :: tl)) := ⟨_, rfl⟩
  have hlen : l.length = q.length + 2 + tl.length := by subst hl; simp; omega
  have h0 : gt l 0 = 40 := by subst hl; rfl
  have hmid : ∀ j, j < q.length → plainB (gt l (j + 1)) := by
    intro j hj
    have : gt l (j + 1) = q[j] := by subst hl; unfold gt; simp [List.getElem?_append_left hj, hj]
    rw [this]
    exact hq _ (List.getElem_mem hj)
  have hend : gt l (q.length + 1) = 41 := by
    subst hl; unfold gt; simp
  rw [← hl]
  have step : ∀ m, m ≤ q.length → nt l stop (f + 1 + m) (q.length - m + 1) [41] = nt l stop (f + 1) (q.length + 1) [41] := by
    intro m
    induction m with
    | zero => intro _; rfl
    | succ m ih =>
      intro hm
      rw [← ih (by omega), ← Nat.add_assoc]
      have hp := hmid (q.length - (m + 1)) (by omega)
      have hh : nx l stop (q.length - (m + 1) + 1) [41] = .inr (q.length - (m + 1) + 1 + 1, [41]) := by
        obtain ⟨p1, p2, p3, p4, p5, p6, p7, p8, p9, p10⟩ := hp
        unfold nx
        simp [top, p1, p3, p4, p5, p6, p7, p8, p9]
      rw [nt_go (by omega) hh]
      congr 1
      omega
  have e0 : nx l stop 0 [] = .inr (1, [41]) := by
    unfold nx
    have : ¬ (40 : Int) = stop := fun h => hstop h.symm
    simp [top, h0, this]
  rw [nt_go (by omega) e0]
  have e1 := step q.length (Nat.le_refl _)
  rw [Nat.sub_self, Nat.zero_add] at e1
  rw [e1]
  have e2 : nx l stop (q.length + 1) [41] = .inr (q.length + 1 + 1, []) := by
    unfold nx
    simp [top, hend]
  rw [nt_go (by omega) e2]

/-- THE QUOTED GROUP is passed over. -/
theorem quote_skip (q tl : List Int) (stop : Int) (hq : ∀ c ∈ q, plainB c) (hstop : stop ≠ 34) (f : Nat) :
    nt ((34 : Int) :: (q ++ ((34 : Int) :: tl))) stop (f + 1) 0 [] = nt ((34 : Int) :: (q ++ ((34 : Int) :: tl))) stop f (q.length + 2) [] := by
  obtain ⟨l, hl⟩ : ∃ l, l = (34 : Int) :: (q ++ ((34 : Int) :: tl)) := ⟨_, rfl⟩
  have hlen : l.length = q.length + 2 + tl.length := by subst hl; simp; omega
  have h0 : gt l 0 = 34 := by subst hl; rfl
  have htw : ∀ (q : List Int), (∀ c ∈ q, plainB c) → twc 34 (q ++ ((34 : Int) :: tl)) = q.length := by
    intro q
    induction q with
    | nil => intro _; simp [twc_cons]
    | cons c q ih =>
      intro h
      have h1 := (h c (List.mem_cons_self ..)).1
      rw [List.cons_append, twc_cons, if_neg h1, ih (fun x hx => h x (List.mem_cons_of_mem _ hx))]
      rfl
  have hd : l.drop 1 = q ++ ((34 : Int) :: tl) := by subst hl; rfl
  have hsl : slash l 0 (1 + q.length) % 2 = 0 := by
    have hz : slash l 0 (q.length + 1) = 0 := by
      unfold slash
      split
      · rename_i h
        exfalso
        have hj : q.length - 1 < q.length := by omega
        have : gt l q.length = q[q.length - 1] := by
          subst hl; unfold gt
          have e : q.length = (q.length - 1) + 1 := by omega
          rw [List.getD_eq_getElem?_getD]
          conv => lhs; arg 1; arg 2; rw [e]
          rw [List.getElem?_cons_succ, List.getElem?_append_left hj]
          simp [hj]
        have hp := hq _ (List.getElem_mem hj)
        rw [← this] at hp
        exact hp.2.1 h.2
      · rfl
    rw [Nat.add_comm, hz]
  have hSE : SE l 0 = ((q.length + 1 : Nat) : Int) := by
    unfold SE
    obtain ⟨m, hm⟩ : ∃ m, l.length = m + 1 := ⟨l.length - 1, by omega⟩
    rw [hm, se, Nat.zero_add, hd, htw q hq, if_pos (by omega), if_pos hsl]
    omega
  rw [← hl]
  have e0 : nx l stop 0 [] = .inr (q.length + 2, []) := by
    unfold nx
    have h1 : ¬ (34 : Int) = stop := fun h => hstop h.symm
    have h2 : ¬ ((q.length : Int) + 1 < 0) := by omega
    simp [top, h0, h1, hSE, h2]
  rw [nt_go (by omega) e0]

end Go.Proofs.Qxb6000809a.Plain
