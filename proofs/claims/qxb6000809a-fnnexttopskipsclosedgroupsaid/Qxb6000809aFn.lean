/-
  THE WALK OF 'FnNextTopSkipsClosedGroup'.
-/
import Derived.Test.Qxb6000809aTop
import Derived.Lib.AppendStr
import Derived.Laws.IdiomStrings
namespace Go.Proofs.Qxb6000809a
open Go.RowKit
open Plain

theorem mem_bts {s : ByteArray} {c : Int} : c ∈ bts s ↔ ∃ j, j < s.size ∧ gt (bts s) j = c := by
  rw [List.mem_iff_getElem]
  constructor
  · rintro ⟨j, hj, h⟩
    refine ⟨j, by rw [bts_length] at hj; exact hj, ?_⟩
    unfold gt
    simp [hj, h]
  · rintro ⟨j, hj, h⟩
    have hj' : j < (bts s).length := by rw [bts_length]; exact hj
    refine ⟨j, hj', ?_⟩
    unfold gt at h
    simpa [hj'] using h

/-- A bool is handed back: whether P holds. -/
def RetB (e : Ending) (P : Prop) : Prop := (e = .returned (.bool true) ∧ P) ∨ (e = .returned (.bool false) ∧ ¬ P)

theorem in_any (c : Int) (s : ByteArray) (w : World) (_hs : s.size ≤ 1000000) :
    Calls Try.prog 11 #[.int .u8 c, .string s] w fun e w' => RetB e (c ∈ bts s) ∧ w = w' := by
  obtain ⟨P, HP⟩ : ∃ P : Prop, Hid (P = (c ∈ bts s)) := ⟨_, rfl⟩
  rw [← HP.out]
  obtain ⟨l, HB⟩ : ∃ l, Hid (bts s = l) := ⟨_, rfl⟩
  go_enter Try.func11, Try.ntmps11
  go_wp2
  go_loop [5] (fun t => ∃ k : Nat, t = .int .i64 k ∧ k ≤ s.size ∧ Hid (∀ j, j < k → gt l j ≠ c)) (fun t => s.size - (intOf t).toNat)
  case atStart => exact ⟨0, rfl, Nat.zero_le _, fun j hj => by omega⟩
  case round =>
    obtain ⟨k, rfl, hk, hall⟩ := hrel
    by_cases hlt : k < s.size
    · have hgk := bts_get s k hlt
      rw [HB.out] at hgk
      obtain ⟨d, HD⟩ : ∃ d, Hid (gt l k = d) := ⟨_, rfl⟩
      rw [HD.out] at hgk
      by_cases hdc : d = c
      · have HR : Hid P := by
          rw [HP.out, mem_bts]
          exact ⟨k, hlt, by rw [HB.out, HD.out]; exact hdc⟩
        clear hall
        go_wp2
        go_ret
        exact ⟨Or.inl ⟨rfl, HR.out⟩, rfl⟩
      · have hb : (d == c) = false := by simpa using hdc
        have HR : Hid (∀ j, j < k + 1 → gt l j ≠ c) := fun j hj => by
          by_cases hjk : j = k
          · subst hjk; rw [HD.out]; exact hdc
          · exact hall.out j (by omega)
        clear hall
        go_wp2
        go_round
        case rel => exact ⟨k + 1, by go_num, by omega, HR⟩
        case measure => simp [intOf]; omega
    · have HR : Hid (¬ P) := by
        rw [HP.out, mem_bts]
        rintro ⟨j, hj, h⟩
        rw [HB.out] at h
        exact hall.out j (by omega) h
      clear hall
      go_wp2
      go_ret
      exact ⟨Or.inr ⟨rfl, HR.out⟩, rfl⟩

/-- The ten bytes that a group's text may not hold. -/
def setS : ByteArray := { data := #[34, 92, 40, 41, 91, 93, 123, 125, 60, 62] }
theorem not_set {c : Int} (h : ¬ c ∈ bts setS) : plainB c := by
  have e : bts setS = [34, 92, 40, 41, 91, 93, 123, 125, 60, 62] := by rfl
  rw [e] at h
  simp at h
  unfold plainB
  omega

theorem bound_yes (q t : ByteArray) (p : Bool) (st : Int) (w : World) (h : (q.size : Int) + t.size ≤ 1048576) :
    Calls Try.prog 10 #[.string q, .string t, .bool p, .int .u8 st] w fun e w' => e = .returned (.bool true) ∧ w = w' := by
  go_enter Try.func10, Try.ntmps10
  go_wp2
  go_ret
  exact ⟨rfl, rfl⟩

theorem bound_no (q t : ByteArray) (p : Bool) (st : Int) (w : World) (hq : q.size ≤ maxLen) (ht : t.size ≤ maxLen) (h : (1048576 : Int) < (q.size : Int) + t.size) :
    Calls Try.prog 10 #[.string q, .string t, .bool p, .int .u8 st] w fun e w' => e = .returned (.bool false) ∧ w = w' := by
  unfold maxLen at hq ht
  by_cases h1 : (1048576 : Int) < q.size
  · go_enter Try.func10, Try.ntmps10
    go_wp2
    go_ret
    exact ⟨rfl, rfl⟩
  · by_cases h2 : (1048576 : Int) < t.size
    · go_enter Try.func10, Try.ntmps10
      go_wp2
      go_ret
      exact ⟨rfl, rfl⟩
    · go_enter Try.func10, Try.ntmps10
      go_wp2
      go_ret
      exact ⟨rfl, rfl⟩

theorem zz_any (s : ByteArray) (i : Nat) (stop : Int) (f : Nat) (w : World) (hs : s.size ≤ 1048576) (hi0 : i ≤ s.size) (hf : s.size + 1 ≤ f + i) (hst : 0 ≤ stop ∧ stop ≤ 255) :
    Calls Try.prog 7 #[.string s, .int .i64 i, .int .u8 stop] w fun e w' => e = .returned (.int .i64 (nt (bts s) stop f i [])) ∧ Below w.heap.size w w' := by
  have H := top_any s i stop f w hs hi0 hf hst
  obtain ⟨r, HR⟩ : ∃ r, Hid (nt (bts s) stop f i [] = r) := ⟨_, rfl⟩
  rw [HR.out] at H ⊢
  clear hs hi0 hf hst HR
  go_enter Try.func7, Try.ntmps7
  go_wp2_with (go_at_call 12; refine H.mono ?_; rintro e w' ⟨rfl, hb⟩)
  go_ret
  exact ⟨rfl, hb⟩

theorem zz_any' (s : ByteArray) (i : Nat) (stop : Int) (f : Nat) (w : World) (iv : Int) (hiv : iv = i) (hs : s.size ≤ 1048576) (hi0 : i ≤ s.size) (hf : s.size + 1 ≤ f + i) (hst : 0 ≤ stop ∧ stop ≤ 255) :
    Calls Try.prog 7 #[.string s, .int .i64 iv, .int .u8 stop] w fun e w' => e = .returned (.int .i64 (nt (bts s) stop f i [])) ∧ Below w.heap.size w w' := by
  subst hiv
  exact zz_any s i stop f w hs hi0 hf hst

theorem Stk.pushStr {w wr w1 : World} {v v' : Value} {st : List Int} {s : ByteArray} (h : Stk w wr v st) (h1 : w1.ownsRow w.heap.size 5 1 v' (st.length + s.size) (st.map (Value.int .u8) ++ Lib.strCells s))
    (hg : wr.grownBy w1 v.ownBlock) : Stk w w1 v' (st ++ bts s) := by
  refine ⟨?_, ?_⟩
  · have e1 : (st ++ bts s).length = st.length + s.size := by rw [List.length_append, bts_length]
    have e2 : (st ++ bts s).map (Value.int .u8) = st.map (Value.int .u8) ++ Lib.strCells s := by
      rw [List.map_append]
      unfold bts Lib.strCells
      rw [List.map_map]
      rfl
    rw [e1, e2]
    exact h1
  · refine h.2.grown hg h.2.size ?_
    intro k hk
    obtain ⟨⟨_, h2 | ⟨g, cap, cur, hv, hb, _⟩⟩, _⟩ := h
    · rw [h2.1] at hk; simp [Value.ownBlock] at hk
    · rw [hv] at hk
      simp [Value.ownBlock] at hk
      omega

/-- 'string(b)' of the bytes that the call owns. -/
theorem Stk.conv {w wr : World} {v : Value} {st : List Int} {L : List UInt8} (h : Stk w wr v st) (hL : st = L.map (fun b => (b.toNat : Int))) (hne : 0 < L.length) :
    ∃ g cap, v = .slice (some ⟨g, 0, none⟩) L.length cap ∧ (convert 28 9 v).run Try.prog wr = .ok (.string ⟨L.toArray⟩) wr := by
  subst hL
  obtain ⟨⟨_, h2 | ⟨g, cap, cur, hv, hb, hrest⟩⟩, hB⟩ := id h
  · have := h2.2; rw [List.length_map] at this; omega
  · have hlen : (L.map (fun b : UInt8 => (b.toNat : Int))).length = L.length := by simp
    rw [hlen] at hv
    refine ⟨g, cap, hv, ?_⟩
    have h1 := h.1
    rw [hlen, hv] at h1
    rw [hv]
    refine run_convert_bytes_back wr 28 9 5 ⟨g, 0, none⟩ cap L Try.underlying28 Try.underlying5 Try.underlying9 ?_
    intro j hj
    have h3 := h1.cellAt j (by omega)
    have e : (⟨g, 0, none⟩ : Addr).add j = ⟨g, j, none⟩ := by unfold Addr.add; split <;> simp_all
    rw [e, h3]
    simp [hj]

theorem fn_bound (q t : ByteArray) (p : Bool) (st : Int) (w : World) (hq : q.size ≤ maxLen) (ht : t.size ≤ maxLen) (h : (1048576 : Int) < (q.size : Int) + t.size) :
    Calls Try.prog 5 #[.string q, .string t, .bool p, .int .u8 st] w fun e w' => e = .returned (.bool true) ∧ Below w.heap.size w w' := by
  have H := bound_no q t p st w hq ht h
  clear hq ht h
  go_enter Try.func5, Try.ntmps5
  go_wp2_with (go_at_call 10; refine H.mono ?_; rintro e w' ⟨rfl, rfl⟩)
  go_ret
  exact ⟨rfl, Below.refl _ _⟩

theorem fn_long (q t : ByteArray) (p : Bool) (st : Int) (w : World) (h : (q.size : Int) + t.size ≤ 1048576) (h2 : (65536 : Int) < q.size ∨ (q.size : Int) ≤ 65536 ∧ (65536 : Int) < t.size) :
    Calls Try.prog 5 #[.string q, .string t, .bool p, .int .u8 st] w fun e w' => e = .returned (.bool true) ∧ Below w.heap.size w w' := by
  have H := bound_yes q t p st w h
  rcases h2 with h2 | ⟨h2, h3⟩
  all_goals
    go_enter Try.func5, Try.ntmps5
    go_wp2_with (go_at_call 10; refine H.mono ?_; rintro e w' ⟨rfl, rfl⟩)
    go_ret
    exact ⟨rfl, Below.refl _ _⟩

/-- THE TEXT BEHIND THE GROUP's: what the two calls of nextTop answer. -/
theorem answers (q t : ByteArray) (paren : Bool) (stop : Int) (S : ByteArray) (hq : ∀ c ∈ bts q, plainB c) (o cl : Int) (ho : o = if paren then 40 else 34) (hcl : cl = if paren then 41 else 34) (hstop : stop ≠ o)
    (hS : bts S = o :: (bts q ++ (cl :: bts t))) :
    ∃ f : Nat, S.size + 1 ≤ f ∧ nt (bts S) stop f 0 [] = nt (bts S) stop (S.size + 1) (q.size + 2) [] := by
  have hl := bts_length q
  cases paren with
  | true =>
    simp at ho hcl
    subst ho hcl
    refine ⟨S.size + 1 + 1 + (bts q).length + 1, by omega, ?_⟩
    rw [hS, paren_skip _ _ _ hq hstop, hl]
  | false =>
    simp at ho hcl
    subst ho hcl
    refine ⟨S.size + 1 + 1, by omega, ?_⟩
    rw [hS, quote_skip _ _ _ hq hstop, hl]

theorem own3 (o : Int) (q : ByteArray) {w : World} {B : Nat} {v : Value} (h : w.ownsRow B 5 1 v ([o] ++ bts q).length (([o] ++ bts q).map (Value.int .u8))) : w.ownsRow B 5 1 v (1 + q.size) (([o] ++ bts q).map (Value.int .u8)) := by
  have e : ([o] ++ bts q).length = 1 + q.size := by rw [List.length_append, bts_length]; rfl
  rw [e] at h; exact h
theorem own3' (o : Int) (q : ByteArray) {w : World} {B : Nat} {v : Value} {xs : List Value} (h : w.ownsRow B 5 1 v (1 + q.size + 1) xs) : w.ownsRow B 5 1 v (([o] ++ bts q).length + 1) xs := by
  have e : ([o] ++ bts q).length = 1 + q.size := by rw [List.length_append, bts_length]; rfl
  rw [e]; exact h
theorem own4 (o cl : Int) (q : ByteArray) {w : World} {B : Nat} {v : Value} (h : w.ownsRow B 5 1 v ([o] ++ bts q ++ [cl]).length (([o] ++ bts q ++ [cl]).map (Value.int .u8))) : w.ownsRow B 5 1 v (1 + q.size + 1) (([o] ++ bts q ++ [cl]).map (Value.int .u8)) := by
  have e : ([o] ++ bts q ++ [cl]).length = 1 + q.size + 1 := by rw [List.length_append, List.length_append, bts_length]; rfl
  rw [e] at h; exact h
theorem own4' (o cl : Int) (q : ByteArray) {w : World} {B n : Nat} {v : Value} {xs : List Value} (h : w.ownsRow B 5 1 v (1 + q.size + 1 + n) xs) : w.ownsRow B 5 1 v (([o] ++ bts q ++ [cl]).length + n) xs := by
  have e : ([o] ++ bts q ++ [cl]).length = 1 + q.size + 1 := by rw [List.length_append, List.length_append, bts_length]; rfl
  rw [e]; exact h

theorem text (o cl : Int) (o8 c8 : UInt8) (ho : o = o8.toNat) (hc : cl = c8.toNat) (q t : ByteArray) {w w5 : World} {v : Value} (h : Stk w w5 v ([o] ++ bts q ++ [cl] ++ bts t)) :
    ∃ (S : ByteArray) (g cap : Nat), v = .slice (some ⟨g, 0, none⟩) (1 + q.size + 1 + t.size) cap ∧ Hid (bts S = o :: (bts q ++ (cl :: bts t))) ∧ (convert 28 9 (.slice (some ⟨g, 0, none⟩) (1 + q.size + 1 + t.size) cap)).run Try.prog w5 = .ok (.string S) w5 := by
  obtain ⟨L, hL⟩ : ∃ L, L = [o8] ++ q.data.toList ++ [c8] ++ t.data.toList := ⟨_, rfl⟩
  have hm : [o] ++ bts q ++ [cl] ++ bts t = L.map (fun b => (b.toNat : Int)) := by
    subst hL ho hc
    unfold bts
    simp
  have hlen : L.length = 1 + q.size + 1 + t.size := by
    have h1 := congrArg List.length hm
    rw [List.length_map] at h1
    rw [← h1, List.length_append, List.length_append, List.length_append, bts_length, bts_length]
    rfl
  obtain ⟨g, cap, hv, hr⟩ := h.conv hm (by omega)
  rw [hlen] at hv
  refine ⟨⟨L.toArray⟩, g, cap, hv, ?_, by rw [← hv]; exact hr⟩
  show bts ⟨L.toArray⟩ = _
  have e : bts ⟨L.toArray⟩ = L.map (fun b => (b.toNat : Int)) := rfl
  rw [e, ← hm]
  simp

set_option maxHeartbeats 1000000 in
theorem fn_main (q t : ByteArray) (paren : Bool) (stop : Int) (w : World) (hq : (q.size : Int) ≤ 65536) (ht : (t.size : Int) ≤ 65536) (hst : 0 ≤ stop ∧ stop ≤ 255) :
    Calls Try.prog 5 #[.string q, .string t, .bool paren, .int .u8 stop] w fun e w' => e = .returned (.bool true) ∧ Below w.heap.size w w' := by
  have H := bound_yes q t paren stop w (by omega)
  obtain ⟨l, HB⟩ : ∃ l, Hid (bts q = l) := ⟨_, rfl⟩
  obtain ⟨i0, hi, hz0, hz1, hz2⟩ := info_parts info5
  go_enter Try.func5, Try.ntmps5
  go_wp2_with (go_at_call 10; refine H.mono ?_; rintro e w' ⟨rfl, rfl⟩)
  clear H
  go_loop [9] (fun a => ∃ k : Nat, a = .int .i64 k ∧ k ≤ q.size ∧ Hid (∀ j, j < k → plainB (gt l j))) (fun a => q.size - (intOf a).toNat)
  case atStart => exact ⟨0, rfl, Nat.zero_le _, fun j hj => by omega⟩
  case round =>
    obtain ⟨k, rfl, hk, hall⟩ := hrel
    by_cases hlt : k < q.size
    · have hgk := bts_get q k hlt
      rw [HB.out] at hgk
      obtain ⟨d, HD⟩ : ∃ d, Hid (gt l k = d) := ⟨_, rfl⟩
      rw [HD.out] at hgk
      have HI := in_any d setS w (by decide)
      go_wp2_with (go_at_call 11; refine HI.mono ?_; rintro e w' ⟨hr, rfl⟩; rcases hr with ⟨rfl, hr⟩ | ⟨rfl, hr⟩)
      · go_ret
        exact ⟨rfl, Below.refl _ _⟩
      · have HN : Hid (∀ j, j < k + 1 → plainB (gt l j)) := fun j hj => by
          by_cases hjk : j = k
          · subst hjk; rw [HD.out]; exact not_set hr
          · exact hall.out j (by omega)
        go_round
        case rel => exact ⟨k + 1, by go_num, by omega, HN⟩
        case measure => simp [intOf]; omega
    · have HQ : Hid (∀ c ∈ bts q, plainB c) := fun c hc => by
        obtain ⟨j, hj, h⟩ := mem_bts.1 hc
        rw [HB.out] at h
        rw [← h]
        exact hall.out j (by omega)
      clear hall HB
      have hb2 : i0.bytes * (q.size + t.size + 2) ≤ 281474976710656 := by rw [hz2]; omega
      have hb3 : q.size + t.size + 2 ≤ maxLen := by unfold maxLen; omega
      have hm1 : 0 + 1 ≤ maxLen := by unfold maxLen; omega
      have hm2 : 1 + q.size ≤ maxLen := by unfold maxLen; omega
      have hm3 : 1 + q.size + 1 ≤ maxLen := by unfold maxLen; omega
      have hm4 : 1 + q.size + 1 + t.size ≤ maxLen := by unfold maxLen; omega
      cases paren
      · by_cases hso : stop = 34
        · go_wp2
          go_ret
          exact ⟨rfl, Below.refl _ _⟩
        · have bso : (stop == 34) = false := by simpa using hso
          go_wp2_with (first
            | (at_make; refine wpList_make_own _ rfl (.const (.int .i64 0)) (.tmp 47) 28 rfl w.heap.size 5 i0 (.int .u8 0) 1 Try.underlying28 hi hz0 hz1 .i64 .i64 _ (q.size + t.size + 2) rfl rfl (by omega) hb2 hb3 (Nat.le_refl _) ?_; intro w1 hown1 hg1; have S1 : Stk w w1 (.slice (some ⟨w.heap.size, 0, none⟩) 0 (q.size + t.size + 2)) [] := ⟨hown1, (Below.refl _ _).grown hg1 (Nat.le_refl _) (by simp)⟩; clear hown1 hg1; have hw1 := S1.2.size; have O1 : Hid (w1.ownsRow w.heap.size 5 1 (.slice (some ⟨w.heap.size, 0, none⟩) 0 (q.size + t.size + 2)) 0 []) := S1.1)
            | (at_builtin; refine wpList_append_own _ rfl (.tmp 49) (.tmp 51) 28 rfl w.heap.size 5 i0 (.int .u8 0) 1 1 Try.underlying28 hi hz0 hz1 hz2 rfl (by decide) _ 0 [] rfl (O1.out.alloc _) ⟨w1.heap.size, 0, none⟩ 1 1 [.int .u8 34] rfl rfl (cell_one_new _ _ _) (one_u8 34) hm1 (by omega) (by simp; omega) ?_; intro v2 w2 hown2 hg2 _; have S2 : Stk w w2 v2 [34] := S1.push (c := 34) hown2 hg2; clear hown2 hg2 O1 S1; have hw2 := S2.2.size; have O2 : Hid (w2.ownsRow w.heap.size 5 1 v2 1 [.int .u8 34]) := S2.1)
            | (at_builtin; refine Lib.wpList_append_own_string _ rfl (.tmp 53) (.tmp 54) 28 9 rfl w.heap.size 5 i0 Try.underlying28 Try.underlying9 hi hz0 hz1 hz2 _ 1 [.int .u8 34] rfl O2.out q rfl hm2 (by omega) hw2 ?_; intro v3 w3 hown3 hg3 _; have S3 : Stk w w3 v3 ([34] ++ bts q) := S2.pushStr hown3 hg3; clear hown3 hg3 O2 S2; have hw3 := S3.2.size; have O3 : Hid (w3.ownsRow w.heap.size 5 1 v3 (1 + q.size) (([34] ++ bts q).map (Value.int .u8))) := own3 34 q S3.1)
            | (at_builtin; refine wpList_append_own _ rfl (.tmp 56) (.tmp 58) 28 rfl w.heap.size 5 i0 (.int .u8 0) 1 1 Try.underlying28 hi hz0 hz1 hz2 rfl (by decide) _ _ _ rfl (O3.out.alloc _) ⟨w3.heap.size, 0, none⟩ 1 1 [.int .u8 34] rfl rfl (cell_one_new _ _ _) (one_u8 34) hm3 (by omega) (by simp; omega) ?_; intro v4 w4 hown4 hg4 _; have S4 : Stk w w4 v4 ([34] ++ bts q ++ [34]) := S3.push (c := 34) (own3' 34 q hown4) hg4; clear hown4 hg4 O3 S3; have hw4 := S4.2.size; have O4 : Hid (w4.ownsRow w.heap.size 5 1 v4 (1 + q.size + 1) (([34] ++ bts q ++ [34]).map (Value.int .u8))) := own4 34 34 q S4.1)
            | (at_builtin; refine Lib.wpList_append_own_string _ rfl (.tmp 60) (.tmp 61) 28 9 rfl w.heap.size 5 i0 Try.underlying28 Try.underlying9 hi hz0 hz1 hz2 _ _ _ rfl O4.out t rfl hm4 (by omega) hw4 ?_; intro v5 w5 hown5 hg5 _; have S5 : Stk w w5 v5 ([34] ++ bts q ++ [34] ++ bts t) := S4.pushStr (own4' 34 34 q hown5) hg5; clear hown5 hg5 O4 S4; obtain ⟨S, g, cap, hv5, hSb, hcv⟩ := text 34 34 34 34 rfl rfl q t S5; have hb5 := S5.2; clear S5; subst hv5))
          obtain ⟨f, hf, hans⟩ := answers q t false stop S HQ.out 34 34 rfl rfl hso hSb.out
          have hSz : S.size = q.size + 2 + t.size := by
            have h1 := congrArg List.length hSb.out
            simp [bts_length] at h1
            omega
          refine (zz_any S 0 stop f w5 (by omega) (Nat.zero_le _) (by omega) hst).mono ?_
          rintro e w6 ⟨rfl, hb6⟩
          rw [hans]
          have H2 := zz_any' S (q.size + 2) stop (S.size + 1) w6 ((q.size : Int) + 2) (by omega) (by omega) (by omega) (by omega) hst
          have hge := nt_ge (bts S) stop (S.size + 1) (q.size + 2) []
          obtain ⟨r, HR⟩ : ∃ r, Hid (nt (bts S) stop (S.size + 1) (q.size + 2) [] = r) := ⟨_, rfl⟩
          rw [HR.out] at H2 hge ⊢
          have HB6 : Hid (Below w.heap.size w w6) := hb5.trans (hb6.mono hb5.size)
          have HH2 : Hid (Calls Try.prog 7 #[.string S, .int .i64 ((q.size : Int) + 2), .int .u8 stop] w6 fun e w' => e = .returned (.int .i64 r) ∧ Below w6.heap.size w6 w') := H2
          clear H2 hans hf hSb hSz HR hb5 hb6 hcv HQ
          rcases hge with rfl | hge
          · go_wp2_with (go_at_call 7; refine HH2.out.mono ?_; rintro e w7 ⟨rfl, hb7⟩)
            go_ret
            exact ⟨rfl, HB6.out.trans (hb7.mono HB6.out.size)⟩
          · have hge' : (q.size : Int) + 2 ≤ r := by omega
            have hne : (r != -1) = true := by simp; omega
            clear hge
            go_wp2_with (go_at_call 7; refine HH2.out.mono ?_; rintro e w7 ⟨rfl, hb7⟩)
            go_ret
            exact ⟨rfl, HB6.out.trans (hb7.mono HB6.out.size)⟩
        
      · by_cases hso : stop = 40
        · go_wp2
          go_ret
          exact ⟨rfl, Below.refl _ _⟩
        · have bso : (stop == 40) = false := by simpa using hso
          go_wp2_with (first
            | (at_make; refine wpList_make_own _ rfl (.const (.int .i64 0)) (.tmp 47) 28 rfl w.heap.size 5 i0 (.int .u8 0) 1 Try.underlying28 hi hz0 hz1 .i64 .i64 _ (q.size + t.size + 2) rfl rfl (by omega) hb2 hb3 (Nat.le_refl _) ?_; intro w1 hown1 hg1; have S1 : Stk w w1 (.slice (some ⟨w.heap.size, 0, none⟩) 0 (q.size + t.size + 2)) [] := ⟨hown1, (Below.refl _ _).grown hg1 (Nat.le_refl _) (by simp)⟩; clear hown1 hg1; have hw1 := S1.2.size; have O1 : Hid (w1.ownsRow w.heap.size 5 1 (.slice (some ⟨w.heap.size, 0, none⟩) 0 (q.size + t.size + 2)) 0 []) := S1.1)
            | (at_builtin; refine wpList_append_own _ rfl (.tmp 49) (.tmp 51) 28 rfl w.heap.size 5 i0 (.int .u8 0) 1 1 Try.underlying28 hi hz0 hz1 hz2 rfl (by decide) _ 0 [] rfl (O1.out.alloc _) ⟨w1.heap.size, 0, none⟩ 1 1 [.int .u8 40] rfl rfl (cell_one_new _ _ _) (one_u8 40) hm1 (by omega) (by simp; omega) ?_; intro v2 w2 hown2 hg2 _; have S2 : Stk w w2 v2 [40] := S1.push (c := 40) hown2 hg2; clear hown2 hg2 O1 S1; have hw2 := S2.2.size; have O2 : Hid (w2.ownsRow w.heap.size 5 1 v2 1 [.int .u8 40]) := S2.1)
            | (at_builtin; refine Lib.wpList_append_own_string _ rfl (.tmp 53) (.tmp 54) 28 9 rfl w.heap.size 5 i0 Try.underlying28 Try.underlying9 hi hz0 hz1 hz2 _ 1 [.int .u8 40] rfl O2.out q rfl hm2 (by omega) hw2 ?_; intro v3 w3 hown3 hg3 _; have S3 : Stk w w3 v3 ([40] ++ bts q) := S2.pushStr hown3 hg3; clear hown3 hg3 O2 S2; have hw3 := S3.2.size; have O3 : Hid (w3.ownsRow w.heap.size 5 1 v3 (1 + q.size) (([40] ++ bts q).map (Value.int .u8))) := own3 40 q S3.1)
            | (at_builtin; refine wpList_append_own _ rfl (.tmp 56) (.tmp 58) 28 rfl w.heap.size 5 i0 (.int .u8 0) 1 1 Try.underlying28 hi hz0 hz1 hz2 rfl (by decide) _ _ _ rfl (O3.out.alloc _) ⟨w3.heap.size, 0, none⟩ 1 1 [.int .u8 41] rfl rfl (cell_one_new _ _ _) (one_u8 41) hm3 (by omega) (by simp; omega) ?_; intro v4 w4 hown4 hg4 _; have S4 : Stk w w4 v4 ([40] ++ bts q ++ [41]) := S3.push (c := 41) (own3' 40 q hown4) hg4; clear hown4 hg4 O3 S3; have hw4 := S4.2.size; have O4 : Hid (w4.ownsRow w.heap.size 5 1 v4 (1 + q.size + 1) (([40] ++ bts q ++ [41]).map (Value.int .u8))) := own4 40 41 q S4.1)
            | (at_builtin; refine Lib.wpList_append_own_string _ rfl (.tmp 60) (.tmp 61) 28 9 rfl w.heap.size 5 i0 Try.underlying28 Try.underlying9 hi hz0 hz1 hz2 _ _ _ rfl O4.out t rfl hm4 (by omega) hw4 ?_; intro v5 w5 hown5 hg5 _; have S5 : Stk w w5 v5 ([40] ++ bts q ++ [41] ++ bts t) := S4.pushStr (own4' 40 41 q hown5) hg5; clear hown5 hg5 O4 S4; obtain ⟨S, g, cap, hv5, hSb, hcv⟩ := text 40 41 40 41 rfl rfl q t S5; have hb5 := S5.2; clear S5; subst hv5))
          obtain ⟨f, hf, hans⟩ := answers q t true stop S HQ.out 40 41 rfl rfl hso hSb.out
          have hSz : S.size = q.size + 2 + t.size := by
            have h1 := congrArg List.length hSb.out
            simp [bts_length] at h1
            omega
          refine (zz_any S 0 stop f w5 (by omega) (Nat.zero_le _) (by omega) hst).mono ?_
          rintro e w6 ⟨rfl, hb6⟩
          rw [hans]
          have H2 := zz_any' S (q.size + 2) stop (S.size + 1) w6 ((q.size : Int) + 2) (by omega) (by omega) (by omega) (by omega) hst
          have hge := nt_ge (bts S) stop (S.size + 1) (q.size + 2) []
          obtain ⟨r, HR⟩ : ∃ r, Hid (nt (bts S) stop (S.size + 1) (q.size + 2) [] = r) := ⟨_, rfl⟩
          rw [HR.out] at H2 hge ⊢
          have HB6 : Hid (Below w.heap.size w w6) := hb5.trans (hb6.mono hb5.size)
          have HH2 : Hid (Calls Try.prog 7 #[.string S, .int .i64 ((q.size : Int) + 2), .int .u8 stop] w6 fun e w' => e = .returned (.int .i64 r) ∧ Below w6.heap.size w6 w') := H2
          clear H2 hans hf hSb hSz HR hb5 hb6 hcv HQ
          rcases hge with rfl | hge
          · go_wp2_with (go_at_call 7; refine HH2.out.mono ?_; rintro e w7 ⟨rfl, hb7⟩)
            go_ret
            exact ⟨rfl, HB6.out.trans (hb7.mono HB6.out.size)⟩
          · have hge' : (q.size : Int) + 2 ≤ r := by omega
            have hne : (r != -1) = true := by simp; omega
            clear hge
            go_wp2_with (go_at_call 7; refine HH2.out.mono ?_; rintro e w7 ⟨rfl, hb7⟩)
            go_ret
            exact ⟨rfl, HB6.out.trans (hb7.mono HB6.out.size)⟩
        
end Go.Proofs.Qxb6000809a
