/-
  THE WALK OF zzNumber.
-/
import Derived.Test.Qxb6001130aSmall
import Derived.Deep.DeepCutAuto
namespace Go.Proofs.Qxb6001130a
open Go.RowKit
open Plain

theorem dig_num {c : Int} (h : 48 ≤ c ∧ c ≤ 57) : numc c := Or.inl h

set_option maxRecDepth 100000 in
set_option maxHeartbeats 2000000 in
/-- zzNumber: where it says yes, bytes of a number alone stand between i and the end that it names. -/
theorem number (b n cp : Nat) (l : List Int) (i : Nat) (w : World) (hR : Row w b n l) (hi : i < n) :
    Calls Try.prog 26 #[.slice (some ⟨b, 0, none⟩) n cp, .int .i64 i] w fun e w' => Ret2 e (fun x => i < x ∧ x ≤ n ∧ Num l i x) ∧ w = w' := by
  have HR : Hid (Row w b n l) := hR
  obtain ⟨hl, hn, hc⟩ := hR
  have HCc : Hid (∀ i, i < n → w.cell? ⟨b, i, none⟩ = some (.int .u8 (gt l i))) := hc
  have hci := hc i hi
  clear hl hc
  obtain ⟨c, HC⟩ : ∃ c, Hid (gt l i = c) := ⟨_, rfl⟩
  rw [HC.out] at hci
  go_enter Try.func26, Try.ntmps26
  go_upto_if 20 with fail
  go_cut [6] (fun s6 wx => (∃ j : Nat, s6 = .int .i64 j ∧ i ≤ j ∧ j ≤ n ∧ Hid (Num l i j)) ∧ w = wx)
  case first =>
    by_cases hm : c = 45
    · have HN : Hid (Num l i (i + 1)) := Num.one (by rw [HC.out, hm]; unfold numc; omega)
      go_wp2_with fail
      go_meet
      exact ⟨⟨i + 1, by go_num, by omega, by omega, HN⟩, rfl⟩
    · have bm : (c == 45) = false := by simpa using hm
      go_wp2_with fail
      go_meet
      exact ⟨⟨i, rfl, by omega, by omega, Num.refl l i⟩, rfl⟩
  case rest =>
  obtain ⟨⟨j, rfl, hij, hjn, HN⟩, rfl⟩ := hcut
  clear hci
  by_cases hlt : j < n
  · have hcj := HCc.out j hlt
    obtain ⟨d, HD⟩ : ∃ d, Hid (gt l j = d) := ⟨_, rfl⟩
    rw [HD.out] at hcj
    go_upto_if 31 with fail
    go_cut [6] (fun s6 wx => (∃ x : Nat, s6 = .int .i64 x ∧ i < x ∧ x ≤ n ∧ Hid (Num l i x)) ∧ w = wx)
    case first =>
      by_cases h48 : d = 48
      · have HN2 : Hid (Num l i (j + 1)) := HN.out.trans (Num.one (by rw [HD.out, h48]; unfold numc; omega))
        go_wp2_with fail
        go_meet
        exact ⟨⟨j + 1, by go_num, by omega, by omega, HN2⟩, rfl⟩
      · have b48 : (d == 48) = false := by simpa using h48
        by_cases hd1 : 49 ≤ d
        · by_cases hd2 : d ≤ 57
          · have HN2 : Hid (Num l i (j + 1)) := HN.out.trans (Num.one (by rw [HD.out]; unfold numc; omega))
            go_wp2_with (go_at_call 30; refine (digits b n cp l (j + 1) _ (by omega) _ HR.out (by omega)).mono ?_; rintro e w' ⟨⟨x, rfl, hx1, hx2, HX⟩, rfl⟩)
            go_meet
            exact ⟨⟨x, rfl, by omega, hx2, HN2.out.trans HX.out⟩, rfl⟩
          · go_wp2_with fail
            go_ret2
            exact ⟨Or.inl rfl, rfl⟩
        · go_wp2_with fail
          go_ret2
          exact ⟨Or.inl rfl, rfl⟩
    case rest =>
    obtain ⟨⟨x, rfl, hix, hxn, HN⟩, rfl⟩ := hcut
    clear hcj
    by_cases hlx : x < n
    · have hcx := HCc.out x hlx
      obtain ⟨d, HD⟩ : ∃ d, Hid (gt l x = d) := ⟨_, rfl⟩
      rw [HD.out] at hcx
      go_upto_if 60 with fail
      go_cut [6, 7] (fun s6 _ wx => (∃ x : Nat, s6 = .int .i64 x ∧ i < x ∧ x ≤ n ∧ Hid (Num l i x)) ∧ w = wx)
      case first =>
        by_cases h46 : d = 46
        · have HN2 : Hid (Num l i (x + 1)) := HN.out.trans (Num.one (by rw [HD.out, h46]; unfold numc; omega))
          go_wp2_with (go_at_call 30; refine (digits b n cp l (x + 1) _ (by omega) _ HR.out (by omega)).mono ?_; rintro e w' ⟨⟨y, rfl, hy1, hy2, HY⟩, rfl⟩)
          · go_ret2
            exact ⟨Or.inl rfl, rfl⟩
          · go_meet
            exact ⟨⟨y, rfl, by omega, hy2, HN2.out.trans HY.out⟩, rfl⟩
        · have b46 : (d == 46) = false := by simpa using h46
          go_wp2_with fail
          go_meet
          exact ⟨⟨x, rfl, hix, hxn, HN⟩, rfl⟩
      case rest =>
      obtain ⟨⟨y, rfl, hiy, hyn, HN⟩, rfl⟩ := hcut
      clear hcx HD d
      by_cases hly : y < n
      · have hcy := HCc.out y hly
        obtain ⟨d, HD⟩ : ∃ d, Hid (gt l y = d) := ⟨_, rfl⟩
        rw [HD.out] at hcy
        by_cases hE : d = 101 ∨ d = 69
        · have HN2 : Hid (Num l i (y + 1)) := HN.out.trans (Num.one (by rw [HD.out]; unfold numc; omega))
          rcases hE with rfl | rfl
          all_goals
            by_cases hlz : y + 1 < n
            · have hcz := HCc.out (y + 1) hlz
              obtain ⟨z, HZ⟩ : ∃ z, Hid (gt l (y + 1) = z) := ⟨_, rfl⟩
              rw [HZ.out] at hcz
              by_cases h43 : z = 43
              · have HN3 : Hid (Num l i (y + 1 + 1)) := HN2.out.trans (Num.one (by rw [HZ.out, h43]; unfold numc; omega))
                go_wp2_with (go_at_call 30; refine (digits b n cp l (y + 1 + 1) _ (by omega) _ HR.out (by omega)).mono ?_; rintro e w' ⟨⟨u, rfl, hu1, hu2, HU⟩, rfl⟩)
                · go_ret2
                  exact ⟨Or.inl rfl, rfl⟩
                · go_ret2
                  exact ⟨Or.inr ⟨u, rfl, by omega, hu2, HN3.out.trans HU.out⟩, rfl⟩
              · have b43 : (z == 43) = false := by simpa using h43
                by_cases h45 : z = 45
                · have HN3 : Hid (Num l i (y + 1 + 1)) := HN2.out.trans (Num.one (by rw [HZ.out, h45]; unfold numc; omega))
                  go_wp2_with (go_at_call 30; refine (digits b n cp l (y + 1 + 1) _ (by omega) _ HR.out (by omega)).mono ?_; rintro e w' ⟨⟨u, rfl, hu1, hu2, HU⟩, rfl⟩)
                  · go_ret2
                    exact ⟨Or.inl rfl, rfl⟩
                  · go_ret2
                    exact ⟨Or.inr ⟨u, rfl, by omega, hu2, HN3.out.trans HU.out⟩, rfl⟩
                · have b45 : (z == 45) = false := by simpa using h45
                  go_wp2_with (go_at_call 30; refine (digits b n cp l (y + 1) _ (by omega) _ HR.out (by omega)).mono ?_; rintro e w' ⟨⟨u, rfl, hu1, hu2, HU⟩, rfl⟩)
                  · go_ret2
                    exact ⟨Or.inl rfl, rfl⟩
                  · go_ret2
                    exact ⟨Or.inr ⟨u, rfl, by omega, hu2, HN2.out.trans HU.out⟩, rfl⟩
            · go_wp2_with (go_at_call 30; refine (digits b n cp l (y + 1) _ (by omega) _ HR.out (by omega)).mono ?_; rintro e w' ⟨⟨u, rfl, hu1, hu2, HU⟩, rfl⟩)
              go_ret2
              exact ⟨Or.inl rfl, rfl⟩
        · have b101 : (d == 101) = false := by simp; omega
          have b69 : (d == 69) = false := by simp; omega
          clear hE
          go_wp2_with fail
          go_ret2
          exact ⟨Or.inr ⟨y, rfl, hiy, hyn, HN.out⟩, rfl⟩
      · go_wp2_with fail
        go_ret2
        exact ⟨Or.inr ⟨y, rfl, hiy, hyn, HN.out⟩, rfl⟩
    · go_wp2_with fail
      go_ret2
      exact ⟨Or.inr ⟨x, rfl, hix, hxn, HN.out⟩, rfl⟩
  · go_wp2_with fail
    go_ret2
    exact ⟨Or.inl rfl, rfl⟩

end Go.Proofs.Qxb6001130a
