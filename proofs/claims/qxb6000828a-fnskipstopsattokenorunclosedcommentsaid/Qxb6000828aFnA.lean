/-
  THE WALK OF 'FnSkipStopsAtTokenOrUnclosedComment'.
-/
import Derived.Test.Qxb6000828aMore
namespace Go.Proofs.Qxb6000828a
open Go.RowKit
open Plain

theorem fnA_big (s : ByteArray) (a b : Int) (w : World) (hn : s.size ≤ maxLen) (h : (1048576 : Int) < s.size) :
    Calls Try.prog 3 #[.string s, .int .i64 a, .int .i64 b] w fun e w' => e = .returned (.bool true) ∧ Below w.heap.size w w' := by
  have H := bound9_no s a b w hn h
  clear hn h
  go_enter Try.func3, Try.ntmps3
  go_wp2_with (go_at_call 9; refine H.mono ?_; rintro e w' ⟨rfl, rfl⟩)
  go_ret
  exact ⟨rfl, Below.refl _ _⟩

theorem fnA_out (s : ByteArray) (a b : Int) (w : World) (h : (s.size : Int) ≤ 1048576) (ha : a < 0 ∨ 0 ≤ a ∧ (s.size : Int) < a) :
    Calls Try.prog 3 #[.string s, .int .i64 a, .int .i64 b] w fun e w' => e = .returned (.bool true) ∧ Below w.heap.size w w' := by
  have H := bound9_yes s a b w h
  rcases ha with ha | ⟨ha, hb⟩
  all_goals
    go_enter Try.func3, Try.ntmps3
    go_wp2_with (go_at_call 9; refine H.mono ?_; rintro e w' ⟨rfl, rfl⟩)
    go_ret
    exact ⟨rfl, Below.refl _ _⟩

set_option maxHeartbeats 1000000 in
theorem fnA_main (s : ByteArray) (k : Nat) (line : Int) (m : Int) (w : World) (hs : s.size ≤ 1048576) (hk : k ≤ s.size) (hl : -9223372036854775808 ≤ line ∧ line ≤ 9223372036854775807)
    (hw : 0 < w.heap.size) (hm : w.cell? ⟨0, 0, none⟩ = some (.int .i64 m)) :
    Calls Try.prog 3 #[.string s, .int .i64 k, .int .i64 line] w fun e w' => e = .returned (.bool true) ∧ Below w.heap.size w w' := by
  have H9 := bound9_yes s k line w (by omega)
  have HZ := zz_any s k (s.size + 1) line m w hs hk (by omega) hl hw hm
  have hL := bts_length s
  have hge := sk_ge (bts s) (s.size + 1) k (by omega)
  have hend := sk_end (bts s) (s.size + 1) k (by omega) (by omega)
  rw [hL] at hge hend
  rcases hsk : sk (bts s) (s.size + 1) k with ⟨ok, p⟩
  rw [hsk] at HZ hge hend
  dsimp only at HZ hge hend
  obtain ⟨hkp, hps⟩ := hge
  have HNL : ∀ wx, Calls Try.prog 11 #[.string s, .int .i64 k, .int .i64 p] wx fun e w' => e = .returned (.int .i64 (nlc (bts s) k p)) ∧ wx = w' := fun wx => nl_any s k p wx hs hkp hps
  obtain ⟨c, HC⟩ : ∃ c, Hid (nlc (bts s) k p = c) := ⟨_, rfl⟩
  rw [HC.out] at HZ HNL
  have HNL' : Hid (∀ wx, Calls Try.prog 11 #[.string s, .int .i64 k, .int .i64 p] wx fun e w' => e = .returned (.int .i64 c) ∧ wx = w') := HNL
  have HZ' : Hid (Calls Try.prog 10 #[.string s, .int .i64 k, .int .i64 line] w fun e w' => e = .returned (.tuple #[.string (msg ok), .int .i64 p, .int .i64 (wrap64 (line + c))]) ∧ Below w.heap.size w w') := HZ
  have H9' : Hid (Calls Try.prog 9 #[.string s, .int .i64 k, .int .i64 line] w fun e w' => e = .returned (.bool true) ∧ w = w') := H9
  clear H9 HZ HNL hsk hm hw
  cases ok with
  | true =>
    have HZ2 : Hid (Calls Try.prog 10 #[.string s, .int .i64 k, .int .i64 line] w fun e w' => e = .returned (.tuple #[.string { data := #[] }, .int .i64 p, .int .i64 (wrap64 (line + c))]) ∧ Below w.heap.size w w') := HZ'
    clear HZ'
    rcases hend with ⟨hp, _⟩ | ⟨hp, hnx⟩
    · subst hp
      go_enter Try.func3, Try.ntmps3
      go_wp2_with (first
        | (go_at_call 9; refine H9'.out.mono ?_; rintro e w' ⟨rfl, rfl⟩)
        | (go_at_call 10; refine HZ2.out.mono ?_; rintro e w1 ⟨rfl, hb1⟩)
        | (go_at_call 11; refine (HNL'.out _).mono ?_; rintro e w' ⟨rfl, rfl⟩))
      go_ret
      exact ⟨rfl, hb1⟩
    · obtain ⟨hlay, hno⟩ := nx_true hnx
      rw [hL] at hno
      have hgp := bts_get s p hp
      obtain ⟨d, HD⟩ : ∃ d, Hid (gt (bts s) p = d) := ⟨_, rfl⟩
      rw [HD.out] at hgp hlay hno
      have HLay : Hid (layB d = false) := hlay
      have hpn : ((p : Int) == (s.size : Int)) = false := by simp; omega
      clear hlay hnx hL
      by_cases hd : d = 47
      · by_cases hp1 : p + 1 < s.size
        · have hg1 := bts_get s (p + 1) hp1
          obtain ⟨e1, HE1⟩ : ∃ e1, Hid (gt (bts s) (p + 1) = e1) := ⟨_, rfl⟩
          rw [HE1.out] at hg1 hno
          have b47 : (e1 == 47) = false := by
            have : e1 ≠ 47 := fun h => hno ⟨hd, hp1, Or.inl h⟩
            simpa using this
          have b42 : (e1 == 42) = false := by
            have : e1 ≠ 42 := fun h => hno ⟨hd, hp1, Or.inr h⟩
            simpa using this
          clear hno
          subst hd
          go_enter Try.func3, Try.ntmps3
          go_wp2_with (first
            | (go_at_call 9; refine H9'.out.mono ?_; rintro e w' ⟨rfl, rfl⟩)
            | (go_at_call 10; refine HZ2.out.mono ?_; rintro e w1 ⟨rfl, hb1⟩)
            | (go_at_call 11; refine (HNL'.out _).mono ?_; rintro e w' ⟨rfl, rfl⟩)
            | (go_at_call 12; refine (lay_no _ _ HLay.out).mono ?_; rintro e w' ⟨rfl, rfl⟩))
          go_ret
          exact ⟨rfl, hb1⟩
        · clear hno
          subst hd
          go_enter Try.func3, Try.ntmps3
          go_wp2_with (first
            | (go_at_call 9; refine H9'.out.mono ?_; rintro e w' ⟨rfl, rfl⟩)
            | (go_at_call 10; refine HZ2.out.mono ?_; rintro e w1 ⟨rfl, hb1⟩)
            | (go_at_call 11; refine (HNL'.out _).mono ?_; rintro e w' ⟨rfl, rfl⟩)
            | (go_at_call 12; refine (lay_no _ _ HLay.out).mono ?_; rintro e w' ⟨rfl, rfl⟩))
          go_ret
          exact ⟨rfl, hb1⟩
      · have bd : (d == 47) = false := by simpa using hd
        clear hno
        go_enter Try.func3, Try.ntmps3
        go_wp2_with (first
          | (go_at_call 9; refine H9'.out.mono ?_; rintro e w' ⟨rfl, rfl⟩)
          | (go_at_call 10; refine HZ2.out.mono ?_; rintro e w1 ⟨rfl, hb1⟩)
          | (go_at_call 11; refine (HNL'.out _).mono ?_; rintro e w' ⟨rfl, rfl⟩)
          | (go_at_call 12; refine (lay_no _ _ HLay.out).mono ?_; rintro e w' ⟨rfl, rfl⟩))
        go_ret
        exact ⟨rfl, hb1⟩
  | false =>
    have HZ2 : Hid (Calls Try.prog 10 #[.string s, .int .i64 k, .int .i64 line] w fun e w' => e = .returned (.tuple #[.string { data := #[110, 111, 32, 34, 42, 47, 34, 32, 99, 108, 111, 115, 101, 115, 32, 116, 104, 101, 32, 99, 111, 109, 109, 101, 110, 116, 32, 34, 47, 42, 34] }, .int .i64 p, .int .i64 (wrap64 (line + c))]) ∧ Below w.heap.size w w') := HZ'
    clear HZ'
    rcases hend with ⟨_, hp⟩ | ⟨hp, hnx⟩
    · cases hp
    · obtain ⟨hp1, hc, hd, hno⟩ := nx_false hnx
      rw [hL] at hp1 hno
      have hgp := bts_get s p hp
      have hg1 := bts_get s (p + 1) hp1
      rw [hc] at hgp
      rw [hd] at hg1
      have HH : ∀ wx, Calls Try.prog 13 #[.string s, .int .i64 ((p : Int) + 2)] wx fun e w' => e = .returned (.bool false) ∧ wx = w' := fun wx => hc_no s (p + 2) _ (by omega) wx hs (by omega) hno
      have HH' : Hid (∀ wx, Calls Try.prog 13 #[.string s, .int .i64 ((p : Int) + 2)] wx fun e w' => e = .returned (.bool false) ∧ wx = w') := HH
      clear HH hno hnx hL hc hd
      go_enter Try.func3, Try.ntmps3
      go_wp2_with (first
        | (go_at_call 9; refine H9'.out.mono ?_; rintro e w' ⟨rfl, rfl⟩)
        | (go_at_call 10; refine HZ2.out.mono ?_; rintro e w1 ⟨rfl, hb1⟩)
        | (go_at_call 11; refine (HNL'.out _).mono ?_; rintro e w' ⟨rfl, rfl⟩)
        | (go_at_call 13; refine (HH'.out _).mono ?_; rintro e w' ⟨rfl, rfl⟩))
      go_ret
      exact ⟨rfl, hb1⟩

end Go.Proofs.Qxb6000828a
