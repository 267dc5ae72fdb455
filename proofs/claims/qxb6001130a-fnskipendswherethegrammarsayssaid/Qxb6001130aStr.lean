/-
  THE WALK OF zzString.
-/
import Derived.Test.Qxb6001130aSmall
namespace Go.Proofs.Qxb6001130a
open Go.RowKit
open Plain

theorem hex_one {l : List Int} {x q : Nat} (hx : x < l.length) (h : hex (gt l x)) (hq : Q l (x + 1) q) : Q l x q := by
  unfold hex at h
  exact Q_one hx (by omega) (by omega) hq

set_option maxRecDepth 100000 in
set_option maxHeartbeats 2000000 in
/-- zzString: where it says yes, the closing quote stands just ahead of the end that it names. -/
theorem str (b n cp : Nat) (l : List Int) (i : Nat) (iv : Int) (hiv : iv = i) (w : World) (hR : Row w b n l) (hi : i < n) :
    Calls Try.prog 24 #[.slice (some ⟨b, 0, none⟩) n cp, .int .i64 iv] w fun e w' => Ret2 e (fun x => ∃ q, x = q + 1 ∧ Q l (i + 1) q) ∧ w = w' := by
  subst hiv
  obtain ⟨hl, hn, hc⟩ := hR
  have HLn : Hid (l.length = n) := hl
  have HCc : Hid (∀ i, i < n → w.cell? ⟨b, i, none⟩ = some (.int .u8 (gt l i))) := hc
  clear hl hc
  go_enter Try.func24, Try.ntmps24
  go_wp2_with fail
  go_loop [6] (fun t => ∃ k : Nat, t = .int .i64 k ∧ i < k ∧ k ≤ n ∧ Hid (∀ q, Q l k q → Q l (i + 1) q)) (fun t => n - (intOf t).toNat)
  case atStart => exact ⟨i + 1, by go_num, by omega, by omega, fun q h => h⟩
  case round =>
    obtain ⟨k, rfl, hik, hkn, hQ⟩ := hrel
    by_cases hlt : k < n
    · have hck := HCc.out k hlt
      have HK : Hid (k < l.length) := by rw [HLn.out]; exact hlt
      obtain ⟨c, HC⟩ : ∃ c, Hid (gt l k = c) := ⟨_, rfl⟩
      rw [HC.out] at hck
      by_cases h34 : c = 34
      · have HF : Hid (Q l (i + 1) k) := hQ.out k (Q_hit HK.out (by rw [HC.out]; exact h34))
        go_wp2_with fail
        go_ret2
        exact ⟨Or.inr ⟨k + 1, by simp, k, rfl, HF.out⟩, rfl⟩
      · have b34 : (c == 34) = false := by simpa using h34
        by_cases h32 : c < 32
        · go_wp2_with fail
          go_ret2
          exact ⟨Or.inl rfl, rfl⟩
        · by_cases h92 : c = 92
          · by_cases hk1 : k + 1 < n
            · have hce := HCc.out (k + 1) hk1
              obtain ⟨e, HE⟩ : ∃ e, Hid (gt l (k + 1) = e) := ⟨_, rfl⟩
              rw [HE.out] at hce
              by_cases hu : e = 117
              · by_cases hk6 : n < k + 6
                · go_wp2_with fail
                  go_ret2
                  exact ⟨Or.inl rfl, rfl⟩
                · go_wp2_with fail
                  go_loop [9] (fun t => ∃ x : Nat, t = .int .i64 x ∧ k + 2 ≤ x ∧ x ≤ k + 6 ∧ Hid (∀ y, k + 2 ≤ y → y < x → hex (gt l y))) (fun t => k + 6 - (intOf t).toNat)
                  case atStart => exact ⟨k + 2, by go_num, by omega, by omega, fun y h1 h2 => by omega⟩
                  case round =>
                    obtain ⟨x, rfl, hx1, hx2, hall⟩ := hrel
                    by_cases hxl : x < k + 6
                    · have hcx := HCc.out x (by omega)
                      obtain ⟨d, HD⟩ : ∃ d, Hid (gt l x = d) := ⟨_, rfl⟩
                      rw [HD.out] at hcx
                      by_cases hd : hex d
                      · have HW : Hid (hex d) := hd
                        have HN : Hid (∀ y, k + 2 ≤ y → y < x + 1 → hex (gt l y)) := fun y h1 h2 => by
                          by_cases hy : y = x
                          · subst hy; rw [HD.out]; exact hd
                          · exact hall.out y h1 (by omega)
                        clear hd hall
                        go_wp2_with (go_at_call 29; refine (hx_yes _ _ HW.out).mono ?_; rintro e w' ⟨rfl, rfl⟩)
                        go_round
                        case rel => exact ⟨x + 1, by go_num, by omega, by omega, HN⟩
                        case measure => simp [intOf]; omega
                      · have HW : Hid (¬ hex d) := hd
                        clear hd hall
                        go_wp2_with (go_at_call 29; refine (hx_no _ _ HW.out).mono ?_; rintro e w' ⟨rfl, rfl⟩)
                        go_ret2
                        exact ⟨Or.inl rfl, rfl⟩
                    · have HN : Hid (∀ q, Q l (k + 6) q → Q l (i + 1) q) := fun q hq => by
                        refine hQ.out q (Q_two HK.out (by rw [HC.out]; exact h92) ?_)
                        have hln := HLn.out
                        exact hex_one (by omega) (hall.out _ (by omega) (by omega)) (hex_one (by omega) (hall.out _ (by omega) (by omega)) (hex_one (by omega) (hall.out _ (by omega) (by omega)) (hex_one (by omega) (hall.out _ (by omega) (by omega)) hq)))
                      clear hall hQ
                      go_wp2_with fail
                      go_round
                      case rel => exact ⟨k + 6, by go_num, by omega, by omega, HN⟩
                      case measure => simp [intOf]; omega
              · have bu : (e == 117) = false := by simpa using hu
                have HN2 : Hid (∀ q, Q l (k + 2) q → Q l (i + 1) q) := fun q hq => hQ.out q (Q_two HK.out (by rw [HC.out]; exact h92) hq)
                clear hQ
                by_cases h34 : e = 34
                · go_wp2_with fail
                  go_round
                  case rel => exact ⟨k + 2, by go_num, by omega, by omega, HN2⟩
                  case measure => simp [intOf]; omega
                · by_cases h92 : e = 92
                  · go_wp2_with fail
                    go_round
                    case rel => exact ⟨k + 2, by go_num, by omega, by omega, HN2⟩
                    case measure => simp [intOf]; omega
                  · by_cases h47 : e = 47
                    · go_wp2_with fail
                      go_round
                      case rel => exact ⟨k + 2, by go_num, by omega, by omega, HN2⟩
                      case measure => simp [intOf]; omega
                    · by_cases h98 : e = 98
                      · go_wp2_with fail
                        go_round
                        case rel => exact ⟨k + 2, by go_num, by omega, by omega, HN2⟩
                        case measure => simp [intOf]; omega
                      · by_cases h102 : e = 102
                        · go_wp2_with fail
                          go_round
                          case rel => exact ⟨k + 2, by go_num, by omega, by omega, HN2⟩
                          case measure => simp [intOf]; omega
                        · by_cases h110 : e = 110
                          · go_wp2_with fail
                            go_round
                            case rel => exact ⟨k + 2, by go_num, by omega, by omega, HN2⟩
                            case measure => simp [intOf]; omega
                          · by_cases h114 : e = 114
                            · go_wp2_with fail
                              go_round
                              case rel => exact ⟨k + 2, by go_num, by omega, by omega, HN2⟩
                              case measure => simp [intOf]; omega
                            · by_cases h116 : e = 116
                              · go_wp2_with fail
                                go_round
                                case rel => exact ⟨k + 2, by go_num, by omega, by omega, HN2⟩
                                case measure => simp [intOf]; omega
                              · have b34 : (e == 34) = false := by simpa using h34
                                have b92 : (e == 92) = false := by simpa using h92
                                have b47 : (e == 47) = false := by simpa using h47
                                have b98 : (e == 98) = false := by simpa using h98
                                have b102 : (e == 102) = false := by simpa using h102
                                have b110 : (e == 110) = false := by simpa using h110
                                have b114 : (e == 114) = false := by simpa using h114
                                have b116 : (e == 116) = false := by simpa using h116
                                go_wp2_with fail
                                go_ret2
                                exact ⟨Or.inl rfl, rfl⟩
            · go_wp2_with fail
              go_ret2
              exact ⟨Or.inl rfl, rfl⟩
          · have b92 : (c != 92) = true := by simpa using h92
            have HN : Hid (∀ q, Q l (k + 1) q → Q l (i + 1) q) := fun q hq => hQ.out q (Q_one HK.out (by rw [HC.out]; exact h34) (by rw [HC.out]; exact h92) hq)
            clear hQ
            go_wp2_with fail
            go_round
            case rel => exact ⟨k + 1, by go_num, by omega, by omega, HN⟩
            case measure => simp [intOf]; omega
    · go_wp2_with fail
      go_ret2
      exact ⟨Or.inl rfl, rfl⟩

end Go.Proofs.Qxb6001130a
