/-
  THE WALKS: strings.IndexByte, stringEnd, isAlnum.
-/
import Derived.Test.Qxb6000809aRows
import Derived.Test.Qxb6000809aPlain
import Derived.WalkKit
import Derived.WalkLawsBesides
import Derived.WalkSpells
import Derived.Lib.Bytealg
import Derived.Lib.IndexBytes
namespace Go.Proofs.Qxb6000809a
open Go.RowKit
open Plain

theorem ret_int {k : IntKind} {a b : Int} (h : a = b) : Ending.returned (.int k a) = .returned (.int k b) := by rw [h]

theorem ret_bool {a b : Bool} (h : a = b) : Ending.returned (.bool a) = .returned (.bool b) := by rw [h]

theorem ib (s : ByteArray) (c : Int) (w : World) :
    Calls Try.prog 15 #[.string s, .int .u8 c] w fun e w' => e = .returned (.int .i64 (Lib.indexByte s.data.toList c.toNat.toUInt8)) ∧ w = w' := by
  go_enter Try.func15, Try.ntmps15
  go_wp2
  rw [run_callFunc_extern Try.func19 (by kernel_rfl) (by kernel_rfl) (by kernel_rfl) (e := Extern.BytealgIndexByte.indexByte) (by kernel_rfl), Lib.run_indexByteString]
  simp only [Result.andThen]
  rw [Oper.upon_value]
  go_wp2
  go_ret
  exact ⟨rfl, rfl⟩

theorem bts_extract (s : ByteArray) (k : Nat) : bts (s.extract k s.size) = (bts s).drop k := by
  unfold bts
  have e : (s.extract k s.size).data.toList = s.data.toList.drop k := by
    simp [ByteArray.data_extract]
    exact List.take_of_length_le (by simp)
  rw [e, List.map_drop]

theorem ib_hit (s : ByteArray) (k q : Nat) (w : World) (hq : twc 34 ((bts s).drop k) = q) (hlt : k + q < s.size) :
    Calls Try.prog 15 #[.string (s.extract k s.size), .int .u8 34] w fun e w' => e = .returned (.int .i64 q) ∧ w = w' := by
  refine (ib _ 34 w).mono ?_
  rintro e w' ⟨rfl, rfl⟩
  have h1 := indexByte_eq 34 (s.extract k s.size).data.toList
  have h2 : (s.extract k s.size).data.toList.length = s.size - k := by simp [ByteArray.data_extract]
  have h3 : List.map (fun b : UInt8 => (b.toNat : Int)) (s.extract k s.size).data.toList = (bts s).drop k := bts_extract s k
  have h4 : ((34 : UInt8).toNat : Int) = 34 := rfl
  rw [h3, h2, h4, hq, if_pos (by omega)] at h1
  exact ⟨ret_int h1, rfl⟩

theorem ib_miss (s : ByteArray) (k : Nat) (w : World) (hlt : s.size ≤ k + twc 34 ((bts s).drop k)) :
    Calls Try.prog 15 #[.string (s.extract k s.size), .int .u8 34] w fun e w' => e = .returned (.int .i64 (-1)) ∧ w = w' := by
  refine (ib _ 34 w).mono ?_
  rintro e w' ⟨rfl, rfl⟩
  have h1 := indexByte_eq 34 (s.extract k s.size).data.toList
  have h2 : (s.extract k s.size).data.toList.length = s.size - k := by simp [ByteArray.data_extract]
  have h3 : List.map (fun b : UInt8 => (b.toNat : Int)) (s.extract k s.size).data.toList = (bts s).drop k := bts_extract s k
  have h4 : ((34 : UInt8).toNat : Int) = 34 := rfl
  rw [h3, h2, h4, if_neg (by omega)] at h1
  exact ⟨ret_int h1, rfl⟩

theorem al_yes (c : Int) (w : World) (h : alB c = true) : Calls Try.prog 14 #[.int .u8 c] w fun e w' => e = .returned (.bool true) ∧ w = w' := by
  have h' : 48 ≤ c ∧ c ≤ 57 ∨ 65 ≤ c ∧ c ≤ 90 ∨ 97 ≤ c ∧ c ≤ 122 := by simpa [alB] using h
  clear h
  rcases h' with ⟨h1, h2⟩ | ⟨h1, h2⟩ | ⟨h1, h2⟩
  all_goals
    go_enter Try.func14, Try.ntmps14
    go_wp2
    go_ret
    exact ⟨rfl, rfl⟩

theorem al_no (c : Int) (w : World) (h : alB c = false) : Calls Try.prog 14 #[.int .u8 c] w fun e w' => e = .returned (.bool false) ∧ w = w' := by
  have h' : c < 48 ∨ (57 < c ∧ c < 65) ∨ (90 < c ∧ c < 97) ∨ 122 < c := by
    simp [alB] at h
    omega
  clear h
  rcases h' with h1 | ⟨h1, h2⟩ | ⟨h1, h2⟩ | h1
  all_goals
    go_enter Try.func14, Try.ntmps14
    go_wp2
    go_ret
    exact ⟨ret_bool (by simp; try omega), rfl⟩

set_option maxHeartbeats 400000 in
theorem se_any (s : ByteArray) (o : Nat) (w : World) (hs : s.size ≤ 1048576) (ho : o < s.size) :
    Calls Try.prog 13 #[.string s, .int .i64 o] w fun e w' => e = .returned (.int .i64 (SE (bts s) o)) ∧ w = w' := by
  have HL : Hid ((bts s).length = s.size) := bts_length s
  obtain ⟨l, HB⟩ : ∃ l, Hid (bts s = l) := ⟨_, rfl⟩
  rw [HB.out] at HL ⊢
  go_enter Try.func13, Try.ntmps13
  go_wp2
  go_loop [5, 6, 7, 8] (fun i _ _ _ => ∃ k f : Nat, i = .int .i64 k ∧ o < k ∧ k ≤ s.size ∧ s.size + 1 ≤ f + k ∧ se l o f k = SE l o) (fun i _ _ _ => s.size + 1 - (intOf i).toNat)
  case atStart => exact ⟨o + 1, l.length, by go_num, by omega, by omega, by rw [HL.out]; omega, rfl⟩
  case round =>
    obtain ⟨k, f, rfl, hok, hks, hf, hse⟩ := hrel
    obtain ⟨f, rfl⟩ : ∃ f', f = f' + 1 := ⟨f - 1, by omega⟩
    obtain ⟨q, HQ⟩ : ∃ q, Hid (twc 34 (l.drop k) = q) := ⟨_, rfl⟩
    rw [se, HQ.out, HL.out] at hse
    have HS : Hid ((if k + q < s.size then (if slash l o (k + q) % 2 = 0 then ((k + q : Nat) : Int) else se l o f (k + q + 1)) else -1) = SE l o) := hse
    clear hse
    by_cases hlt : k + q < s.size
    · go_wp2_with (go_at_call 15; refine (ib_hit s k q _ (by rw [HB.out]; exact HQ.out) hlt).mono ?_; rintro e w' ⟨rfl, rfl⟩)
      go_loop [7, 8] (fun a b => ∃ i n : Nat, b = .int .i64 i ∧ a = .int .i64 n ∧ o ≤ i ∧ i < k + q ∧ n + slash l o (i + 1) = slash l o (k + q) ∧ n + i + 1 = k + q) (fun _ b => (intOf b).toNat)
      case atStart => exact ⟨k + q - 1, 0, by go_num, rfl, by omega, by omega, by rw [Nat.sub_add_cancel (by omega), Nat.zero_add], by omega⟩
      case round =>
        obtain ⟨i, n, rfl, rfl, hoi, hik, hn, hni⟩ := hrel
        have hgi := bts_get s i (by omega)
        rw [HB.out] at hgi
        obtain ⟨c, HC⟩ : ∃ c, Hid (gt l i = c) := ⟨_, rfl⟩
        rw [HC.out] at hgi
        rw [slash, HC.out] at hn
        have HN : Hid (n + (if o < i ∧ c = 92 then slash l o i + 1 else 0) = slash l o (k + q)) := hn
        clear hn
        have his : i < s.size := by omega
        by_cases hc : o < i ∧ c = 92
        · have HM : Hid (n + 1 + slash l o (i - 1 + 1) = slash l o (k + q)) := by
            have h1 := HN.out
            rw [if_pos hc] at h1
            rw [Nat.sub_add_cancel (by omega)]
            show _ = _
            omega
          obtain ⟨hc1, hc2⟩ := hc
          clear HN HC
          go_wp2
          go_round
          case rel => exact ⟨i - 1, n + 1, by go_num, by go_num, by omega, by omega, HM.out, by omega⟩
          case measure => simp [intOf]; omega
        · have HM : Hid (n = slash l o (k + q)) := by
            have h1 := HN.out
            rw [if_neg hc] at h1
            exact h1
          have hx : o = i ∨ (o < i ∧ (c == 92) = false) := by
            by_cases h : o = i
            · exact Or.inl h
            · right
              refine ⟨by omega, ?_⟩
              have : c ≠ 92 := fun h' => hc ⟨by omega, h'⟩
              simpa using this
          clear HN HC hc
          by_cases hev : n % 2 = 0
          · have HF : Hid (((k + q : Nat) : Int) = SE l o) := by
              have h1 := HS.out
              rw [if_pos hlt, if_pos (by rw [← HM.out]; exact hev)] at h1
              exact h1
            rcases hx with rfl | ⟨h1, h2⟩
            all_goals
              go_wp2
              go_ret
              exact ⟨ret_int (by rw [← HF.out]; omega), rfl⟩
          · have HF : Hid (se l o f (k + q + 1) = SE l o) := by
              have h1 := HS.out
              rw [if_pos hlt, if_neg (by rw [← HM.out]; exact hev)] at h1
              exact h1
            rcases hx with rfl | ⟨h1, h2⟩
            all_goals
              go_wp2
              go_round
              case rel => exact ⟨k + q + 1, f, by go_num, by omega, by omega, by omega, HF.out⟩
              case measure => simp [intOf]; omega
    · go_wp2_with (go_at_call 15; refine (ib_miss s k _ (by rw [HB.out, HQ.out]; omega)).mono ?_; rintro e w' ⟨rfl, rfl⟩)
      go_ret
      exact ⟨ret_int (by have := HS.out; rw [if_neg hlt] at this; exact this), rfl⟩

end Go.Proofs.Qxb6000809a
