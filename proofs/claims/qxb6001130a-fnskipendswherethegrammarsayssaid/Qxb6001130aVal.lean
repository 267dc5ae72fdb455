/-
  THE WALK OF zzValue, by induction on the bytes that are left.
-/
import Derived.Test.Qxb6001130aObj
import Derived.Test.Qxb6001130aNum
namespace Go.Proofs.Qxb6001130a
open Go.RowKit
open Plain

def allScb (s : List Int) : Bool := s.all fun c => decide (c ≠ 44 ∧ c ≠ 125 ∧ c ≠ 93 ∧ c ≠ 32 ∧ c ≠ 9 ∧ c ≠ 10 ∧ c ≠ 13 ∧ c ≠ 34 ∧ c ≠ 123 ∧ c ≠ 91 ∧ 0 ≤ c ∧ c < 128)
theorem scb_of {s : List Int} (h : allScb s = true) (j : Nat) (hj : j < s.length) : scb (gt s j) := by
  have h1 := List.all_eq_true.1 h (gt s j) (by unfold gt; simp [hj])
  have h2 := of_decide_eq_true h1
  unfold scb dlm spec wsp opn cls
  omega

theorem word_val {l : List Int} {n i x : Nat} {s : ByteArray} {kind : Int} (hl : l.length = n) (hk : kind = 4 ∨ kind = 5 ∨ kind = 6) (hs : 0 < s.size) (hb : (bts s).length = s.size) (ha : allScb (bts s) = true)
    (h : x = i + s.size ∧ x ≤ n ∧ ∀ j, j < s.size → gt l (i + j) = gt (bts s) j) : Val l i x kind := by
  obtain ⟨rfl, h2, h3⟩ := h
  refine Val.scalar hk (by omega) (by omega) ?_
  intro j hj1 hj2
  have e := h3 (j - i) (by omega)
  have e2 : i + (j - i) = j := by omega
  rw [e2] at e
  rw [e]
  exact scb_of ha _ (by omega)

set_option maxRecDepth 100000 in
set_option maxHeartbeats 2000000 in
theorem value_step (b n cp : Nat) (l : List Int) (i : Nat) (hi : i ≤ n) (hV : ∀ j, i < j → j ≤ n → ValAt b n cp l j) : ValAt b n cp l i := by
  intro w hR
  have HR : Hid (Row w b n l) := hR
  have HV : Hid (∀ j, i < j → j ≤ n → ValAt b n cp l j) := hV
  clear hV
  obtain ⟨hl, hn, hc⟩ := hR
  have HCc : Hid (∀ i, i < n → w.cell? ⟨b, i, none⟩ = some (.int .u8 (gt l i))) := hc
  have HLn : Hid (l.length = n) := hl
  clear hl hc
  by_cases hlt : i < n
  · have hci := HCc.out i hlt
    obtain ⟨c, HC⟩ : ∃ c, Hid (gt l i = c) := ⟨_, rfl⟩
    rw [HC.out] at hci
    by_cases h123 : c = 123
    · go_enter Try.func10, Try.ntmps10
      go_wp2_with fail
      refine (object b n cp l i _ HR.out hlt HV.out).mono ?_
      rintro e w' ⟨hr, k, rfl⟩
      rcases hr with rfl | ⟨x, rfl, j, rfl, hij, hjn, hp, hg⟩
      · go_wp2_with fail
        go_ret3
        exact ⟨Or.inl ⟨_, rfl⟩, dr1⟩
      · have hv : Val l i (j + 1) 1 := Val.brk (Or.inl rfl) (by rw [HLn.out]; exact hlt) (by rw [HC.out]; exact Or.inl h123) hp hij (by rw [HLn.out]; exact hjn) (Or.inl hg)
        have HVv : Hid (Val l i (j + 1) 1) := hv
        clear hv hp hg
        go_wp2_with fail
        go_ret3
        exact ⟨Or.inr ⟨j + 1, 1, by simp, HVv.out⟩, dr1⟩
    · have b123 : (c == 123) = false := by simpa using h123
      by_cases h91 : c = 91
      · go_enter Try.func10, Try.ntmps10
        go_wp2_with fail
        refine (array b n cp l i _ HR.out hlt HV.out).mono ?_
        rintro e w' ⟨hr, k, rfl⟩
        rcases hr with ⟨kd, rfl⟩ | ⟨x, kd, rfl, j, rfl, hij, hjn, hp, hg⟩
        · go_wp2_with fail
          go_ret3
          exact ⟨Or.inl ⟨_, rfl⟩, dr1⟩
        · have hv : Val l i (j + 1) 2 := Val.brk (Or.inr rfl) (by rw [HLn.out]; exact hlt) (by rw [HC.out]; exact Or.inr h91) hp hij (by rw [HLn.out]; exact hjn) (Or.inr hg)
          have HVv : Hid (Val l i (j + 1) 2) := hv
          clear hv hp hg
          go_wp2_with fail
          go_ret3
          exact ⟨Or.inr ⟨j + 1, 2, by simp, HVv.out⟩, dr1⟩
      · have b91 : (c == 91) = false := by simpa using h91
        by_cases h34 : c = 34
        · go_enter Try.func10, Try.ntmps10
          go_wp2_with fail
          refine (str b n cp l i _ rfl _ HR.out hlt).mono ?_
          rintro e w' ⟨hr, rfl⟩
          rcases hr with rfl | ⟨x, rfl, q, rfl, hq⟩
          · go_wp2_with fail
            go_ret3
            exact ⟨Or.inl ⟨_, rfl⟩, dr0⟩
          · have hv : Val l i (q + 1) 3 := Val.str (by rw [HC.out]; exact h34) hq
            have HVv : Hid (Val l i (q + 1) 3) := hv
            clear hv hq
            go_wp2_with fail
            go_ret3
            exact ⟨Or.inr ⟨q + 1, 3, by simp, HVv.out⟩, dr0⟩
        · have b34 : (c == 34) = false := by simpa using h34
          by_cases h116 : c = 116
          · go_enter Try.func10, Try.ntmps10
            go_wp2_with fail
            refine (word b n cp l i _ _ HR.out hi (by decide)).mono ?_
            rintro e w' ⟨hr, k, rfl⟩
            rcases hr with rfl | ⟨x, rfl, hx⟩
            · go_wp2_with fail
              go_ret3
              exact ⟨Or.inl ⟨_, rfl⟩, dr1⟩
            · have HVv : Hid (Val l i x 4) := word_val HLn.out (Or.inl rfl) (by decide) rfl (by decide) hx
              clear hx
              go_wp2_with fail
              go_ret3
              exact ⟨Or.inr ⟨x, 4, rfl, HVv.out⟩, dr1⟩
          · have b116 : (c == 116) = false := by simpa using h116
            by_cases h102 : c = 102
            · go_enter Try.func10, Try.ntmps10
              go_wp2_with fail
              refine (word b n cp l i _ _ HR.out hi (by decide)).mono ?_
              rintro e w' ⟨hr, k, rfl⟩
              rcases hr with rfl | ⟨x, rfl, hx⟩
              · go_wp2_with fail
                go_ret3
                exact ⟨Or.inl ⟨_, rfl⟩, dr1⟩
              · have HVv : Hid (Val l i x 4) := word_val HLn.out (Or.inl rfl) (by decide) rfl (by decide) hx
                clear hx
                go_wp2_with fail
                go_ret3
                exact ⟨Or.inr ⟨x, 4, rfl, HVv.out⟩, dr1⟩
            · have b102 : (c == 102) = false := by simpa using h102
              by_cases h110 : c = 110
              · go_enter Try.func10, Try.ntmps10
                go_wp2_with fail
                refine (word b n cp l i _ _ HR.out hi (by decide)).mono ?_
                rintro e w' ⟨hr, k, rfl⟩
                rcases hr with rfl | ⟨x, rfl, hx⟩
                · go_wp2_with fail
                  go_ret3
                  exact ⟨Or.inl ⟨_, rfl⟩, dr1⟩
                · have HVv : Hid (Val l i x 5) := word_val HLn.out (Or.inr (Or.inl rfl)) (by decide) rfl (by decide) hx
                  clear hx
                  go_wp2_with fail
                  go_ret3
                  exact ⟨Or.inr ⟨x, 5, rfl, HVv.out⟩, dr1⟩
              · have b110 : (c == 110) = false := by simpa using h110
                go_enter Try.func10, Try.ntmps10
                go_wp2_with fail
                refine (number b n cp l i _ HR.out hlt).mono ?_
                rintro e w' ⟨hr, rfl⟩
                rcases hr with rfl | ⟨x, rfl, hx1, hx2, hx3⟩
                · go_wp2_with fail
                  go_ret3
                  exact ⟨Or.inl ⟨_, rfl⟩, dr0⟩
                · have HVv : Hid (Val l i x 6) := Val.scalar (Or.inr (Or.inr rfl)) hx1 (by rw [HLn.out]; exact hx2) (fun j a b => numc_scb (hx3 j a b))
                  clear hx3
                  go_wp2_with fail
                  go_ret3
                  exact ⟨Or.inr ⟨x, 6, rfl, HVv.out⟩, dr0⟩
  · go_enter Try.func10, Try.ntmps10
    go_wp2_with fail
    go_ret3
    exact ⟨Or.inl ⟨_, rfl⟩, dr0⟩

theorem value_all (b n cp : Nat) (l : List Int) : ∀ k i, i ≤ n → n - i ≤ k → ValAt b n cp l i
  | 0, i, hi, hk => value_step b n cp l i hi (fun j h1 h2 => by omega)
  | k + 1, i, hi, hk => value_step b n cp l i hi (fun j h1 h2 => value_all b n cp l k j h2 (by omega))

end Go.Proofs.Qxb6001130a
