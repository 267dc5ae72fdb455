/-
  THE WALKS: ZZSkip, countNL, layoutByte, hasCloser, the bounds' functions.
-/
import Derived.Test.Qxb6000828aWalk
namespace Go.Proofs.Qxb6000828a
open Go.RowKit
open Plain

set_option maxHeartbeats 400000 in
theorem zz_any (s : ByteArray) (k f : Nat) (line : Int) (m : Int) (w : World) (hs : s.size ≤ 1048576) (hk : k ≤ s.size) (hf : s.size + 1 ≤ f + k) (hl : -9223372036854775808 ≤ line ∧ line ≤ 9223372036854775807)
    (hw : 0 < w.heap.size) (hm : w.cell? ⟨0, 0, none⟩ = some (.int .i64 m)) :
    Calls Try.prog 10 #[.string s, .int .i64 k, .int .i64 line] w fun e w' =>
      e = .returned (.tuple #[.string (msg (sk (bts s) f k).1), .int .i64 (sk (bts s) f k).2, .int .i64 (wrap64 (line + nlc (bts s) k (sk (bts s) f k).2))]) ∧ Below w.heap.size w w' := by
  obtain ⟨W, HW⟩ : ∃ W, Hid (W = w.alloc (.cells #[.string s, .int .i64 k, .int .i64 line] 32)) := ⟨_, rfl⟩
  have hwl : wrap64 (line + nlc (bts s) k k) = line := by rw [nlc_self]; show wrap64 (line + 0) = line; rw [Int.add_zero]; exact IntWalk.wrap64_in _ hl
  have hI : Inv W w.heap.size s (bts s) k line m (sk (bts s) f k) k f W := by
    refine ⟨?_, ?_, ?_, ?_, ?_, ?_, Below.refl _ _, Nat.le_refl _, hk, hf, rfl⟩
    · rw [HW.out]; simp
    · rw [HW.out]; simp
    · rw [HW.out, hwl]; simp
    · rw [HW.out]; simp
    · rw [HW.out]; simp
    · rw [HW.out, World.cell?_alloc_lt _ _ _ (by exact hw)]; exact hm
  have H := skip_any s k f line w.heap.size m W hs hw hI
  rw [HW.out] at H
  rcases hans : sk (bts s) f k with ⟨ok, p⟩
  obtain ⟨ln, HLn⟩ : ∃ ln, Hid (wrap64 (line + nlc (bts s) k p) = ln) := ⟨_, rfl⟩
  obtain ⟨t, HT⟩ : ∃ t, Hid (msg ok = t) := ⟨_, rfl⟩
  rw [hans] at H
  dsimp only at H ⊢
  rw [HLn.out, HT.out] at H ⊢
  have HH : Hid (Calls Try.prog 21 #[.pointer (some ⟨w.heap.size, 0, none⟩)] (w.alloc (.cells #[.string s, .int .i64 k, .int .i64 line] 32)) fun e w' => e = .returned (.string t) ∧
      w'.cell? ⟨w.heap.size, 1, none⟩ = some (.int .i64 p) ∧ w'.cell? ⟨w.heap.size, 2, none⟩ = some (.int .i64 ln) ∧ Below w.heap.size (w.alloc (.cells #[.string s, .int .i64 k, .int .i64 line] 32)) w') := H
  clear H hI hwl hans hm hk hf
  go_enter Try.func10, Try.ntmps10
  go_wp2_with (go_at_call 21; refine HH.out.mono ?_; rintro e w1 ⟨rfl, c1, c2, hb1⟩)
  go_quiet (fail)
  go_wp2
  go_ret3
  exact ⟨rfl, ((Below.refl _ _).alloc (Nat.le_refl _) _).trans (drewN_below hb1 _)⟩

theorem nl_any (s : ByteArray) (a b : Nat) (w : World) (hs : s.size ≤ 1048576) (hab : a ≤ b) (hb : b ≤ s.size) :
    Calls Try.prog 11 #[.string s, .int .i64 a, .int .i64 b] w fun e w' => e = .returned (.int .i64 (nlc (bts s) a b)) ∧ w = w' := by
  have HL : Hid ((bts s).length = s.size) := bts_length s
  obtain ⟨l, HB⟩ : ∃ l, Hid (bts s = l) := ⟨_, rfl⟩
  rw [HB.out] at HL ⊢
  go_enter Try.func11, Try.ntmps11
  go_wp2
  go_loop [7, 8] (fun n j => ∃ k c : Nat, j = .int .i64 k ∧ n = .int .i64 c ∧ a ≤ k ∧ k ≤ b ∧ c ≤ k ∧ Hid (nlc l a k = c)) (fun _ j => b - (intOf j).toNat)
  case atStart => exact ⟨a, 0, rfl, rfl, Nat.le_refl _, hab, Nat.zero_le _, nlc_self l a⟩
  case round =>
    obtain ⟨k, c, rfl, rfl, hak, hkb, hck, HC⟩ := hrel
    by_cases hlt : k < b
    · have hks : k < s.size := by omega
      have hgk := bts_get s k hks
      rw [HB.out] at hgk
      obtain ⟨d, HD⟩ : ∃ d, Hid (gt l k = d) := ⟨_, rfl⟩
      rw [HD.out] at hgk
      have h1 := nlc_add l a k (k + 1) hak (by omega)
      rw [nlc_one l k (by rw [HL.out]; exact hks), HC.out, HD.out] at h1
      by_cases hd : d = 10
      · rw [if_pos hd] at h1
        have HN : Hid (nlc l a (k + 1) = c + 1) := h1
        clear h1
        go_wp2
        go_round
        case rel => exact ⟨k + 1, c + 1, by go_num, by go_num, by omega, by omega, by omega, HN⟩
        case measure => simp [intOf]; omega
      · rw [if_neg hd] at h1
        have HN : Hid (nlc l a (k + 1) = c) := h1
        have hdb : (d == 10) = false := by simpa using hd
        clear h1
        go_wp2
        go_round
        case rel => exact ⟨k + 1, c, by go_num, rfl, by omega, by omega, by omega, HN⟩
        case measure => simp [intOf]; omega
    · obtain rfl : k = b := by omega
      go_wp2
      go_ret
      exact ⟨ret_int (by rw [HC.out]), rfl⟩

theorem lay_yes (c : Int) (w : World) (h : layB c = true) : Calls Try.prog 12 #[.int .u8 c] w fun e w' => e = .returned (.bool true) ∧ w = w' := by
  have h' : c = 32 ∨ c = 9 ∨ c = 13 ∨ c = 10 := by simp [layB] at h; omega
  clear h
  rcases h' with rfl | rfl | rfl | rfl
  all_goals
    go_enter Try.func12, Try.ntmps12
    go_wp2
    go_ret
    exact ⟨rfl, rfl⟩

theorem lay_no (c : Int) (w : World) (h : layB c = false) : Calls Try.prog 12 #[.int .u8 c] w fun e w' => e = .returned (.bool false) ∧ w = w' := by
  simp [layB] at h
  obtain ⟨⟨⟨h1, h2⟩, h3⟩, h4⟩ := h
  have b1 : (c == 32) = false := by simpa using h1
  have b2 : (c == 9) = false := by simpa using h2
  have b3 : (c == 13) = false := by simpa using h3
  have b4 : (c == 10) = false := by simpa using h4
  go_enter Try.func12, Try.ntmps12
  go_wp2
  go_ret
  exact ⟨rfl, rfl⟩

theorem hc_no (s : ByteArray) (k : Nat) (iv : Int) (hiv : iv = k) (w : World) (hs : s.size ≤ 1048576) (hk : k ≤ s.size) (h : ∀ j, k ≤ j → j + 1 < s.size → ¬ (gt (bts s) j = 42 ∧ gt (bts s) (j + 1) = 47)) :
    Calls Try.prog 13 #[.string s, .int .i64 iv] w fun e w' => e = .returned (.bool false) ∧ w = w' := by
  subst hiv
  obtain ⟨l, HB⟩ : ∃ l, Hid (bts s = l) := ⟨_, rfl⟩
  rw [HB.out] at h
  have HH : Hid (∀ j, k ≤ j → j + 1 < s.size → ¬ (gt l j = 42 ∧ gt l (j + 1) = 47)) := h
  clear h
  go_enter Try.func13, Try.ntmps13
  go_wp2
  go_loop [5] (fun t => ∃ j : Nat, t = .int .i64 j ∧ k ≤ j ∧ j ≤ s.size) (fun t => s.size - (intOf t).toNat)
  case atStart => exact ⟨k, rfl, Nat.le_refl _, hk⟩
  case round =>
    obtain ⟨j, rfl, hkj, hjs⟩ := hrel
    by_cases hlt : j + 1 < s.size
    · have hj0 : j < s.size := by omega
      have hg0 := bts_get s j hj0
      have hg1 := bts_get s (j + 1) hlt
      rw [HB.out] at hg0 hg1
      have hno := HH.out j hkj hlt
      obtain ⟨c, HC⟩ : ∃ c, Hid (gt l j = c) := ⟨_, rfl⟩
      obtain ⟨d, HD⟩ : ∃ d, Hid (gt l (j + 1) = d) := ⟨_, rfl⟩
      rw [HC.out] at hg0 hno
      rw [HD.out] at hg1 hno
      by_cases hc : c = 42
      · have hd : (d == 47) = false := by
          have : d ≠ 47 := fun h => hno ⟨hc, h⟩
          simpa using this
        clear hno
        go_wp2
        go_round
        case rel => exact ⟨j + 1, by go_num, by omega, by omega⟩
        case measure => simp [intOf]; omega
      · have hcb : (c == 42) = false := by simpa using hc
        clear hno
        go_wp2
        go_round
        case rel => exact ⟨j + 1, by go_num, by omega, by omega⟩
        case measure => simp [intOf]; omega
    · go_wp2
      go_ret
      exact ⟨rfl, rfl⟩

theorem bound9_yes (s : ByteArray) (a b : Int) (w : World) (h : (s.size : Int) ≤ 1048576) :
    Calls Try.prog 9 #[.string s, .int .i64 a, .int .i64 b] w fun e w' => e = .returned (.bool true) ∧ w = w' := by
  go_enter Try.func9, Try.ntmps9
  go_wp2
  go_ret
  exact ⟨rfl, rfl⟩
theorem bound9_no (s : ByteArray) (a b : Int) (w : World) (_hn : s.size ≤ maxLen) (h : (1048576 : Int) < s.size) :
    Calls Try.prog 9 #[.string s, .int .i64 a, .int .i64 b] w fun e w' => e = .returned (.bool false) ∧ w = w' := by
  unfold maxLen at _hn
  go_enter Try.func9, Try.ntmps9
  go_wp2
  go_ret
  exact ⟨rfl, rfl⟩

theorem bound15_yes (q t : ByteArray) (b : Int) (w : World) (h : (q.size : Int) + t.size ≤ 1048576) :
    Calls Try.prog 15 #[.string q, .string t, .int .i64 b] w fun e w' => e = .returned (.bool true) ∧ w = w' := by
  go_enter Try.func15, Try.ntmps15
  go_wp2
  go_ret
  exact ⟨rfl, rfl⟩
theorem bound15_no (q t : ByteArray) (b : Int) (w : World) (hq : q.size ≤ maxLen) (ht : t.size ≤ maxLen) (h : (1048576 : Int) < (q.size : Int) + t.size) :
    Calls Try.prog 15 #[.string q, .string t, .int .i64 b] w fun e w' => e = .returned (.bool false) ∧ w = w' := by
  unfold maxLen at hq ht
  by_cases h1 : (1048576 : Int) < q.size
  · go_enter Try.func15, Try.ntmps15
    go_wp2
    go_ret
    exact ⟨rfl, rfl⟩
  · by_cases h2 : (1048576 : Int) < t.size
    · go_enter Try.func15, Try.ntmps15
      go_wp2
      go_ret
      exact ⟨rfl, rfl⟩
    · go_enter Try.func15, Try.ntmps15
      go_wp2
      go_ret
      exact ⟨rfl, rfl⟩

end Go.Proofs.Qxb6000828a
