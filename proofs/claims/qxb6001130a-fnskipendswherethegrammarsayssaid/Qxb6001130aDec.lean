/-
  THE WALKS OF THE DECODER: closingQuote, skipSpace, strings.ContainsRune at the delimiters.
-/
import Derived.Test.Qxb6001130aVal
import Derived.Test.Qxb6001130aShelf
import Derived.Deep.RegionWith
namespace Go.Proofs.Qxb6001130a
open Go.RowKit
open Plain

def delims : ByteArray := { data := #[44, 125, 93, 32, 9, 10, 13] }
set_option maxRecDepth 100000 in
theorem cr_tab : ∀ k : Fin 128, decide ((0 : Int) ≤ Lib.indexByte delims.data.toList (k.val.toUInt8)) = decide (k.val = 44 ∨ k.val = 125 ∨ k.val = 93 ∨ k.val = 32 ∨ k.val = 9 ∨ k.val = 10 ∨ k.val = 13) := by decide

theorem cr_any (c : Int) (w : World) (v : Bool) (h0 : 0 ≤ c) (h1 : c < 128) (hv : v = true ↔ dlm c) :
    Calls Try.prog 33 #[.string delims, .int .i32 c] w fun e w' => e = .returned (.bool v) ∧ w = w' := by
  refine (Try.strings_ContainsRune_ascii delims c w h0 h1).mono ?_
  rintro e w' ⟨rfl, rfl⟩
  refine ⟨ret_bool ?_, rfl⟩
  have := cr_tab ⟨c.toNat, by omega⟩
  dsimp only at this
  rw [this]
  rw [Bool.eq_iff_iff, hv]
  unfold dlm wsp
  simp only [decide_eq_true_eq]
  omega

/-- closingQuote finds the closing quote that is there. -/
theorem closing (B b n cp : Nat) (l : List Int) (i q : Nat) (w : World) (hR : Row w b n l) (h0 : w.cell? ⟨B, 0, none⟩ = some (.slice (some ⟨b, 0, none⟩) n cp)) (hq : Q l (i + 1) q) :
    Calls Try.prog 32 #[.pointer (some ⟨B, 0, none⟩), .int .i64 i] w fun e w' => e = .returned (.int .i64 q) ∧ w = w' := by
  obtain ⟨hl, hn, hc⟩ := hR
  have HCc : Hid (∀ i, i < n → w.cell? ⟨b, i, none⟩ = some (.int .u8 (gt l i))) := hc
  have HLn : Hid (l.length = n) := hl
  clear hl hc
  have hqb := Q_bounds hq
  rw [HLn.out] at hqb
  have HQ : Hid (Q l (i + 1) q) := hq
  clear hq
  go_enter Try.func32, Try.ntmps32
  go_wp2_with fail
  go_loop [5] (fun t => ∃ k : Nat, t = .int .i64 k ∧ i < k ∧ k ≤ n ∧ Hid (Q l k q)) (fun t => n - (intOf t).toNat)
  case atStart => exact ⟨i + 1, by go_num, by omega, by omega, HQ⟩
  case round =>
    obtain ⟨k, rfl, hik, hkn, HK⟩ := hrel
    clear HQ
    obtain ⟨hlt, hcase⟩ := Q_cases HK.out
    rw [HLn.out] at hlt
    have hck := HCc.out k hlt
    obtain ⟨c, HC⟩ : ∃ c, Hid (gt l k = c) := ⟨_, rfl⟩
    rw [HC.out] at hck hcase
    rcases hcase with ⟨rfl, rfl⟩ | ⟨h34, rfl, hq⟩ | ⟨h34, h92, hq⟩
    · go_wp2_with fail
      go_ret
      exact ⟨rfl, rfl⟩
    · have hb := Q_bounds hq
      rw [HLn.out] at hb
      have HQ2 : Hid (Q l (k + 2) q) := hq
      clear hq HK
      go_wp2_with fail
      go_round
      case rel => exact ⟨k + 2, by go_num, by omega, by omega, HQ2⟩
      case measure => simp [intOf]; omega
    · have hb := Q_bounds hq
      rw [HLn.out] at hb
      have HQ2 : Hid (Q l (k + 1) q) := hq
      have b34 : (c != 34) = true := by simpa using h34
      have b92 : (c == 92) = false := by simpa using h92
      clear hq HK
      go_wp2_with fail
      go_round
      case rel => exact ⟨k + 1, by go_num, by omega, by omega, HQ2⟩
      case measure => simp [intOf]; omega

/-- The decoder at block B stands at place k; below B nothing has turned. -/
def Dec (w : World) (B b n cp k : Nat) (wr : World) : Prop :=
  wr.cell? ⟨B, 0, none⟩ = some (.slice (some ⟨b, 0, none⟩) n cp) ∧ wr.cell? ⟨B, 1, none⟩ = some (.int .i64 k) ∧ wr.frozen? ⟨B, 1, none⟩ = false ∧ Below B w wr

theorem Dec.row {w : World} {B b n cp k : Nat} {wr : World} {l : List Int} (h : Dec w B b n cp k wr) (hb : b < B) (hR : Row w b n l) : Row wr b n l :=
  ⟨hR.1, hR.2.1, fun i hi => (h.2.2.2.cell (p := ⟨b, i, none⟩) hb).trans (hR.2.2 i hi)⟩
theorem drewN_below {B : Nat} {a w : World} (h : Below B a w) (n : Nat) : Below B a (w.drewN n) := h.trans ⟨rfl, rfl, rfl, Nat.le_refl _, fun _ _ => rfl⟩
theorem Dec.drewN {w : World} {B b n cp k : Nat} {wr : World} (h : Dec w B b n cp k wr) (m : Nat) : Dec w B b n cp k (wr.drewN m) := ⟨h.1, h.2.1, h.2.2.1, drewN_below h.2.2.2 m⟩
theorem Dec.set {w : World} {B b n cp k : Nat} {wr : World} (h : Dec w B b n cp k wr) (m k' : Nat) (q : Int) (hq : q = k') : Dec w B b n cp k' ((wr.drewN m).setCell ⟨B, 1, none⟩ (.int .i64 q)) := by
  obtain ⟨c0, c1, f1, hb⟩ := h
  subst hq
  have d1 : (wr.drewN m).cell? ⟨B, 1, none⟩ = some (.int .i64 k) := c1
  refine ⟨?_, World.cell?_setCell_same _ _ _ d1, ?_, Go.RowKit.Below.setCell (p := ⟨B, 1, none⟩) (drewN_below hb m) (Nat.le_refl _) _⟩
  · rw [World.cell?_setCell_other _ _ _ _ (by simp)]; exact c0
  · rw [World.frozen?_setCell]; exact f1
def posOf (B : Nat) (wr : World) : Nat := match wr.cell? ⟨B, 1, none⟩ with | some v => (intOf v).toNat | none => 0
theorem Dec.pos {w : World} {B b n cp k : Nat} {wr : World} (h : Dec w B b n cp k wr) : posOf B wr = k := by
  unfold posOf; rw [h.2.1]; simp [intOf]

set_option maxRecDepth 100000 in
set_option maxHeartbeats 1000000 in
/-- skipSpace passes the white space from i to st. -/
theorem space (B b n cp : Nat) (l : List Int) (i st : Nat) (w : World) (hb : b < B) (hR : Row w b n l) (hD : Dec w B b n cp i w) (h1 : i ≤ st) (h2 : st ≤ n) (h3 : ∀ x, i ≤ x → x < st → wsp (gt l x)) (h4 : st < n → ¬ wsp (gt l st)) :
    Calls Try.prog 31 #[.pointer (some ⟨B, 0, none⟩)] w fun e w' => e = .returned (.tuple #[]) ∧ Dec w B b n cp st w' := by
  have HR : Hid (Row w b n l) := hR
  have H3 : Hid (∀ x, i ≤ x → x < st → wsp (gt l x)) := h3
  have H4 : Hid (st < n → ¬ wsp (gt l st)) := h4
  have hn := hR.2.1
  clear h3 h4 hR
  go_enter Try.func31, Try.ntmps31
  go_wp2_with fail
  go_loopw [22] (fun _ wr => ∃ k : Nat, i ≤ k ∧ k ≤ st ∧ Dec w B b n cp k wr) (fun _ wr => n + 1 - posOf B wr)
  case atStart => exact ⟨i, Nat.le_refl _, h1, hD⟩
  case round =>
    obtain ⟨k, hik, hkst, hdk⟩ := hrel
    have HDk : Hid (Dec w B b n cp k wr) := hdk
    have HPo : Hid (posOf B wr = k) := hdk.pos
    have HRr : Hid (Row wr b n l) := hdk.row hb HR.out
    obtain ⟨c0, c1, f1, hbel⟩ := hdk
    clear hD
    by_cases hlt : k < n
    · have hck := HRr.out.2.2 k hlt
      obtain ⟨c, HC⟩ : ∃ c, Hid (gt l k = c) := ⟨_, rfl⟩
      rw [HC.out] at hck
      by_cases hk : k < st
      · have hw := H3.out k hik hk
        rw [HC.out] at hw
        unfold wsp at hw
        have HII : Hid (∀ m, Dec w B b n cp (k + 1) ((wr.drewN m).setCell ⟨B, 1, none⟩ (.int .i64 ((k : Int) + 1)))) := fun m => HDk.out.set m (k + 1) _ (by omega)
        rcases hw with rfl | rfl | rfl | rfl
        all_goals
          go_wp2_with fail
          go_quiet (fail)
          go_wp2_with fail
          go_quiet (fail)
          go_wp2_with fail
          exact ⟨⟨k + 1, by omega, by omega, HII.out _⟩, by rw [(HII.out _).pos, HPo.out]; omega⟩
      · obtain rfl : k = st := by omega
        have hw := H4.out hlt
        rw [HC.out] at hw
        unfold wsp at hw
        have b1 : (c == 32) = false := by simp; omega
        have b2 : (c == 9) = false := by simp; omega
        have b3 : (c == 10) = false := by simp; omega
        have b4 : (c == 13) = false := by simp; omega
        clear hw
        go_wp2_with fail
        go_quiet (fail)
        go_wp2_with fail
        go_quiet (fail)
        go_wp2_with fail
        refine bodyPost_ret (results_none rfl _ _ _) rfl ?_
        exact ⟨rfl, HDk.out.drewN _⟩
    · obtain rfl : k = st := by omega
      go_wp2_with fail
      go_quiet (fail)
      go_wp2_with fail
      go_end0
      exact ⟨rfl, HDk.out.drewN _⟩

end Go.Proofs.Qxb6001130a
