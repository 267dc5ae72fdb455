/-
  THE WALKS OF THE SMALL FUNCTIONS OF THE GRAMMAR MODEL.
-/
import Derived.Test.Qxb6001130aRows
import Derived.Test.Qxb6001130aPlain
import Derived.WalkKit
import Derived.WalkLawsBesides
import Derived.WalkSpells
import Derived.Deep.QuietTactic
import Derived.BigQuiet
namespace Go.Proofs.Qxb6001130a
open Go.RowKit
open Plain

theorem ret_int {k : IntKind} {a b : Int} (h : a = b) : Ending.returned (.int k a) = .returned (.int k b) := by rw [h]
theorem ret_bool {a b : Bool} (h : a = b) : Ending.returned (.bool a) = .returned (.bool b) := by rw [h]

/-- The bytes l lie in block b, n of them. -/
def Row (w : World) (b n : Nat) (l : List Int) : Prop := l.length = n ∧ n ≤ 65536 ∧ ∀ i, i < n → w.cell? ⟨b, i, none⟩ = some (.int .u8 (gt l i))
theorem Row.drewN {w : World} {b n : Nat} {l : List Int} (h : Row w b n l) (k : Nat) : Row (w.drewN k) b n l := h

theorem ws_yes (c : Int) (w : World) (h : wsp c) : Calls Try.prog 20 #[.int .u8 c] w fun e w' => e = .returned (.bool true) ∧ w = w' := by
  unfold wsp at h
  rcases h with rfl | rfl | rfl | rfl
  all_goals
    go_enter Try.func20, Try.ntmps20
    go_wp2
    go_ret
    exact ⟨rfl, rfl⟩
theorem ws_no (c : Int) (w : World) (h : ¬ wsp c) : Calls Try.prog 20 #[.int .u8 c] w fun e w' => e = .returned (.bool false) ∧ w = w' := by
  unfold wsp at h
  have b1 : (c == 32) = false := by simp; omega
  have b2 : (c == 9) = false := by simp; omega
  have b3 : (c == 10) = false := by simp; omega
  have b4 : (c == 13) = false := by simp; omega
  clear h
  go_enter Try.func20, Try.ntmps20
  go_wp2
  go_ret
  exact ⟨rfl, rfl⟩

theorem dl_yes (c : Int) (w : World) (h : dlm c) : Calls Try.prog 12 #[.int .u8 c] w fun e w' => e = .returned (.bool true) ∧ w = w' := by
  unfold dlm at h
  rcases h with rfl | rfl | rfl | h
  · go_enter Try.func12, Try.ntmps12
    go_wp2_with fail
    go_ret
    exact ⟨rfl, rfl⟩
  · go_enter Try.func12, Try.ntmps12
    go_wp2_with fail
    go_ret
    exact ⟨rfl, rfl⟩
  · go_enter Try.func12, Try.ntmps12
    go_wp2_with fail
    go_ret
    exact ⟨rfl, rfl⟩
  · have HW : Hid (wsp c) := h
    unfold wsp at h
    have b1 : (c == 44) = false := by simp; omega
    have b2 : (c == 125) = false := by simp; omega
    have b3 : (c == 93) = false := by simp; omega
    clear h
    go_enter Try.func12, Try.ntmps12
    go_wp2_with (go_at_call 20; refine (ws_yes _ _ HW.out).mono ?_; rintro e w' ⟨rfl, rfl⟩)
    go_ret
    exact ⟨rfl, rfl⟩
theorem dl_no (c : Int) (w : World) (h : ¬ dlm c) : Calls Try.prog 12 #[.int .u8 c] w fun e w' => e = .returned (.bool false) ∧ w = w' := by
  have HW : Hid (¬ wsp c) := fun h' => h (Or.inr (Or.inr (Or.inr h')))
  unfold dlm at h
  have b1 : (c == 44) = false := by simp; omega
  have b2 : (c == 125) = false := by simp; omega
  have b3 : (c == 93) = false := by simp; omega
  clear h
  go_enter Try.func12, Try.ntmps12
  go_wp2_with (go_at_call 20; refine (ws_no _ _ HW.out).mono ?_; rintro e w' ⟨rfl, rfl⟩)
  go_ret
  exact ⟨rfl, rfl⟩

def dig (c : Int) : Prop := 48 ≤ c ∧ c ≤ 57
theorem dg_yes (c : Int) (w : World) (h : dig c) : Calls Try.prog 34 #[.int .u8 c] w fun e w' => e = .returned (.bool true) ∧ w = w' := by
  obtain ⟨h1, h2⟩ := h
  go_enter Try.func34, Try.ntmps34
  go_wp2
  go_ret
  exact ⟨rfl, rfl⟩
theorem dg_no (c : Int) (w : World) (h : ¬ dig c) : Calls Try.prog 34 #[.int .u8 c] w fun e w' => e = .returned (.bool false) ∧ w = w' := by
  have h' : c < 48 ∨ 57 < c := by unfold dig at h; omega
  clear h
  rcases h' with h1 | h1
  all_goals
    go_enter Try.func34, Try.ntmps34
    go_wp2
    go_ret
    exact ⟨ret_bool (by simp; try omega), rfl⟩

def hex (c : Int) : Prop := 48 ≤ c ∧ c ≤ 57 ∨ 97 ≤ c ∧ c ≤ 102 ∨ 65 ≤ c ∧ c ≤ 70
/-- zzIsHex hands back whether the byte is a hexadecimal digit. -/
theorem hx_yes (c : Int) (w : World) (h : hex c) : Calls Try.prog 29 #[.int .u8 c] w fun e w' => e = .returned (.bool true) ∧ w = w' := by
  unfold hex at h
  rcases h with ⟨h1, h2⟩ | ⟨h1, h2⟩ | ⟨h1, h2⟩
  all_goals
    go_enter Try.func29, Try.ntmps29
    go_wp2
    go_ret
    exact ⟨rfl, rfl⟩
theorem hx_no (c : Int) (w : World) (h : ¬ hex c) : Calls Try.prog 29 #[.int .u8 c] w fun e w' => e = .returned (.bool false) ∧ w = w' := by
  have h' : c < 48 ∨ 57 < c ∧ c < 65 ∨ 70 < c ∧ c < 97 ∨ 102 < c := by unfold hex at h; omega
  clear h
  rcases h' with h1 | ⟨h1, h2⟩ | ⟨h1, h2⟩ | h1
  all_goals
    go_enter Try.func29, Try.ntmps29
    go_wp2
    go_ret
    exact ⟨ret_bool (by simp; try omega), rfl⟩

theorem sc_yes (c : Int) (w : World) (h : c = 4 ∨ c = 5 ∨ c = 6) : Calls Try.prog 11 #[.int .i64 c] w fun e w' => e = .returned (.bool true) ∧ w = w' := by
  rcases h with rfl | rfl | rfl
  all_goals
    go_enter Try.func11, Try.ntmps11
    go_wp2
    go_ret
    exact ⟨rfl, rfl⟩
theorem sc_no (c : Int) (w : World) (h : c = 1 ∨ c = 2 ∨ c = 3) : Calls Try.prog 11 #[.int .i64 c] w fun e w' => e = .returned (.bool false) ∧ w = w' := by
  rcases h with rfl | rfl | rfl
  all_goals
    go_enter Try.func11, Try.ntmps11
    go_wp2
    go_ret
    exact ⟨rfl, rfl⟩

theorem bound_yes (a : Option Addr) (n c : Nat) (k : Int) (w : World) (h : (n : Int) ≤ 1048576) :
    Calls Try.prog 7 #[.slice a n c, .int .i64 k] w fun e w' => e = .returned (.bool true) ∧ w = w' := by
  go_enter Try.func7, Try.ntmps7
  go_wp2
  go_ret
  exact ⟨rfl, rfl⟩
theorem bound_no (a : Option Addr) (n c : Nat) (k : Int) (w : World) (_hn : n ≤ maxLen) (h : (1048576 : Int) < n) :
    Calls Try.prog 7 #[.slice a n c, .int .i64 k] w fun e w' => e = .returned (.bool false) ∧ w = w' := by
  unfold maxLen at _hn
  go_enter Try.func7, Try.ntmps7
  go_wp2
  go_ret
  exact ⟨rfl, rfl⟩

/-- zzSkipWS passes white space alone, and stops at the end or at another byte. -/
theorem skipws (b n cp : Nat) (l : List Int) (i : Nat) (iv : Int) (hiv : iv = i) (w : World) (hR : Row w b n l) (hi : i ≤ n) :
    Calls Try.prog 9 #[.slice (some ⟨b, 0, none⟩) n cp, .int .i64 iv] w fun e w' => (∃ j : Nat, e = .returned (.int .i64 j) ∧ i ≤ j ∧ j ≤ n ∧ Hid (∀ x, i ≤ x → x < j → wsp (gt l x)) ∧ Hid (j < n → ¬ wsp (gt l j))) ∧ w = w' := by
  subst hiv
  obtain ⟨hl, hn, hc⟩ := hR
  have HLn : Hid (l.length = n) := hl
  clear hl
  go_enter Try.func9, Try.ntmps9
  go_wp2_with fail
  go_loop [1] (fun t => ∃ k : Nat, t = .int .i64 k ∧ i ≤ k ∧ k ≤ n ∧ Hid (∀ x, i ≤ x → x < k → wsp (gt l x))) (fun t => n - (intOf t).toNat)
  case atStart => exact ⟨i, rfl, Nat.le_refl _, hi, fun x h1 h2 => by omega⟩
  case round =>
    obtain ⟨k, rfl, hik, hkn, hall⟩ := hrel
    by_cases hlt : k < n
    · have hck := hc k hlt
      obtain ⟨d, HD⟩ : ∃ d, Hid (gt l k = d) := ⟨_, rfl⟩
      rw [HD.out] at hck
      have HCc : Hid (∀ i, i < n → w.cell? ⟨b, i, none⟩ = some (.int .u8 (gt l i))) := hc
      clear hc
      by_cases hd : wsp d
      · have HW : Hid (wsp d) := hd
        have HN : Hid (∀ x, i ≤ x → x < k + 1 → wsp (gt l x)) := fun x h1 h2 => by
          by_cases hx : x = k
          · subst hx; rw [HD.out]; exact hd
          · exact hall.out x h1 (by omega)
        clear hd hall
        go_wp2_with (go_at_call 20; refine (ws_yes _ _ HW.out).mono ?_; rintro e w' ⟨rfl, rfl⟩)
        go_round
        case rel => exact ⟨k + 1, by go_num, by omega, by omega, HN⟩
        case measure => simp [intOf]; omega
      · have HW : Hid (¬ wsp d) := hd
        clear hd
        go_wp2_with (go_at_call 20; refine (ws_no _ _ HW.out).mono ?_; rintro e w' ⟨rfl, rfl⟩)
        go_ret
        exact ⟨⟨k, rfl, hik, hkn, hall, fun _ => by rw [HD.out]; exact HW.out⟩, rfl⟩
    · go_wp2_with fail
      go_ret
      exact ⟨⟨k, rfl, hik, hkn, hall, fun h => absurd h hlt⟩, rfl⟩

/-- The white space that was passed, as a way for the loop over brackets. -/
theorem ws_pass {l : List Int} {i j n : Nat} (hl : l.length = n) (h1 : i ≤ j) (h2 : j ≤ n) (h : ∀ x, i ≤ x → x < j → wsp (gt l x)) : Pass l i j :=
  Pass.rangeTo h1 (by omega) (fun x a b => wsp_spec (h x a b))

/-- zzDigits passes digits alone. -/
theorem digits (b n cp : Nat) (l : List Int) (i : Nat) (iv : Int) (hiv : iv = i) (w : World) (hR : Row w b n l) (hi : i ≤ n) :
    Calls Try.prog 30 #[.slice (some ⟨b, 0, none⟩) n cp, .int .i64 iv] w fun e w' => (∃ j : Nat, e = .returned (.int .i64 j) ∧ i ≤ j ∧ j ≤ n ∧ Hid (Num l i j)) ∧ w = w' := by
  subst hiv
  obtain ⟨hl, hn, hc⟩ := hR
  clear hl
  go_enter Try.func30, Try.ntmps30
  go_wp2_with fail
  go_loop [1] (fun t => ∃ k : Nat, t = .int .i64 k ∧ i ≤ k ∧ k ≤ n ∧ Hid (Num l i k)) (fun t => n - (intOf t).toNat)
  case atStart => exact ⟨i, rfl, Nat.le_refl _, hi, Num.refl l i⟩
  case round =>
    obtain ⟨k, rfl, hik, hkn, hall⟩ := hrel
    by_cases hlt : k < n
    · have hck := hc k hlt
      obtain ⟨d, HD⟩ : ∃ d, Hid (gt l k = d) := ⟨_, rfl⟩
      rw [HD.out] at hck
      have HCc : Hid (∀ i, i < n → w.cell? ⟨b, i, none⟩ = some (.int .u8 (gt l i))) := hc
      clear hc
      by_cases hd : dig d
      · have HW : Hid (dig d) := hd
        have HN : Hid (Num l i (k + 1)) := hall.out.trans (Num.one (by rw [HD.out]; exact Or.inl hd))
        clear hd hall
        go_wp2_with (go_at_call 34; refine (dg_yes _ _ HW.out).mono ?_; rintro e w' ⟨rfl, rfl⟩)
        go_round
        case rel => exact ⟨k + 1, by go_num, by omega, by omega, HN⟩
        case measure => simp [intOf]; omega
      · have HW : Hid (¬ dig d) := hd
        clear hd
        go_wp2_with (go_at_call 34; refine (dg_no _ _ HW.out).mono ?_; rintro e w' ⟨rfl, rfl⟩)
        go_ret
        exact ⟨⟨k, rfl, hik, hkn, hall⟩, rfl⟩
    · go_wp2_with fail
      go_ret
      exact ⟨⟨k, rfl, hik, hkn, hall⟩, rfl⟩

theorem dr0 {w : World} : ∃ k, w = w.drewN k := ⟨0, rfl⟩
theorem dr1 {w : World} {m : Nat} : ∃ k, w.drewN m = w.drewN k := ⟨m, rfl⟩
theorem dr2 {w : World} {m n : Nat} : ∃ k, (w.drewN m).drewN n = w.drewN k := ⟨m + n, by simp⟩

/-- Two results: a failure, or a place of which P holds. -/
def Ret2 (e : Ending) (P : Nat → Prop) : Prop := e = .returned (.tuple #[.int .i64 0, .bool false]) ∨ ∃ x : Nat, e = .returned (.tuple #[.int .i64 x, .bool true]) ∧ P x

/-- zzWord: the bytes at i are the word's. -/
theorem word (b n cp : Nat) (l : List Int) (i : Nat) (s : ByteArray) (w : World) (hR : Row w b n l) (hi : i ≤ n) (hs : s.size ≤ 100) :
    Calls Try.prog 25 #[.slice (some ⟨b, 0, none⟩) n cp, .int .i64 i, .string s] w fun e w' => Ret2 e (fun x => x = i + s.size ∧ x ≤ n ∧ ∀ j, j < s.size → gt l (i + j) = gt (bts s) j) ∧ ∃ k, w' = w.drewN k := by
  obtain ⟨hl, hn, hc⟩ := hR
  clear hl
  have HCc : Hid (∀ i, i < n → w.cell? ⟨b, i, none⟩ = some (.int .u8 (gt l i))) := hc
  clear hc
  by_cases hlen : n < i + s.size
  · go_enter Try.func25, Try.ntmps25
    go_wp2
    go_ret2
    exact ⟨Or.inl rfl, 0, rfl⟩
  · go_enter Try.func25, Try.ntmps25
    go_wp2
    go_loopw [8] (fun t wr => (∃ k : Nat, t = .int .i64 k ∧ k ≤ s.size ∧ Hid (∀ j, j < k → gt l (i + j) = gt (bts s) j)) ∧ ∃ m, wr = w.drewN m) (fun t _ => s.size - (intOf t).toNat)
    case atStart => exact ⟨⟨0, rfl, Nat.zero_le _, fun j hj => by omega⟩, 0, rfl⟩
    case round =>
      obtain ⟨⟨k, rfl, hks, hall⟩, m, rfl⟩ := hrel
      by_cases hlt : k < s.size
      · have hck := HCc.out (i + k) (by omega)
        have hgk := bts_get s k hlt
        obtain ⟨c, HC⟩ : ∃ c, Hid (gt l (i + k) = c) := ⟨_, rfl⟩
        obtain ⟨d, HD⟩ : ∃ d, Hid (gt (bts s) k = d) := ⟨_, rfl⟩
        rw [HC.out] at hck
        rw [HD.out] at hgk
        have hik : (i : Int) + k < n := by omega
        by_cases hcd : c = d
        · have HN : Hid (∀ j, j < k + 1 → gt l (i + j) = gt (bts s) j) := fun j hj => by
            by_cases hx : j = k
            · subst hx; rw [HC.out, HD.out]; exact hcd
            · exact hall.out j (by omega)
          clear hall
          go_wp2
          go_quiet (fail)
          go_wp2
          go_roundw
          case rel => exact ⟨⟨k + 1, by go_num, by omega, HN⟩, _, rfl⟩
          case measure => simp [intOf]; omega
        · have hb : (c != d) = true := by simpa using hcd
          go_wp2
          go_quiet (fail)
          go_wp2
          go_ret2
          exact ⟨Or.inl rfl, dr2⟩
      · obtain rfl : k = s.size := by omega
        go_wp2
        go_ret2
        exact ⟨Or.inr ⟨i + s.size, by simp, rfl, by omega, hall.out⟩, _, rfl⟩

end Go.Proofs.Qxb6001130a
