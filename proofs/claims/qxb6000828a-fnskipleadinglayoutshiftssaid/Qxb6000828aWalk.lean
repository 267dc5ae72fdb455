/-
  THE WALKS: the contracts of strings in the plain words; skip; ZZSkip.
-/
import Derived.Test.Qxb6000828aRows
import Derived.Test.Qxb6000828aPlain
import Derived.Test.Qxb6000828aShelf
import Derived.WalkKit
import Derived.WalkLawsBesides
import Derived.WalkSpells
import Derived.Deep.QuietTactic
import Derived.BigQuiet
import Derived.Deep.RegionWith
namespace Go.Proofs.Qxb6000828a
open Go.RowKit
open Plain

theorem ret_int {k : IntKind} {a b : Int} (h : a = b) : Ending.returned (.int k a) = .returned (.int k b) := by rw [h]
theorem ret_bool {a b : Bool} (h : a = b) : Ending.returned (.bool a) = .returned (.bool b) := by rw [h]

theorem bts_extract (s : ByteArray) (k : Nat) : bts (s.extract k s.size) = (bts s).drop k := by
  unfold bts
  have e : (s.extract k s.size).data.toList = s.data.toList.drop k := by
    simp [ByteArray.data_extract]
    exact List.take_of_length_le (by simp)
  rw [e, List.map_drop]

theorem bts_take (s : ByteArray) (k : Nat) : bts (s.extract 0 k) = (bts s).take k := by
  unfold bts
  have e : (s.extract 0 k).data.toList = s.data.toList.take k := by
    simp [ByteArray.data_extract]
  rw [e, List.map_take]

theorem hp_any (r : ByteArray) (a b : UInt8) (v : Bool) (w : World) (h : hp2 (toI a) (toI b) (bts r) = v) :
    Calls Try.prog 23 #[.string r, .string ⟨#[a, b]⟩] w fun e w' => e = .returned (.bool v) ∧ w = w' := by
  refine (Try.strings_HasPrefix r ⟨#[a, b]⟩ w).mono ?_
  rintro e w' ⟨rfl, rfl⟩
  refine ⟨ret_bool ?_, rfl⟩
  rw [← h]
  exact hasPrefix_eq a b _

theorem ib_any (r : ByteArray) (q : Nat) (w : World) (hq : twc 10 (bts r) = q) (hlt : q < r.size) :
    Calls Try.prog 24 #[.string r, .int .u8 10] w fun e w' => e = .returned (.int .i64 q) ∧ w = w' := by
  refine (Try.strings_IndexByte r 10 w).mono ?_
  rintro e w' ⟨rfl, rfl⟩
  refine ⟨ret_int ?_, rfl⟩
  have h1 := indexByte_eq 10 r.data.toList
  have e1 : List.map toI r.data.toList = bts r := rfl
  have e2 : toI 10 = 10 := rfl
  have e3 : r.data.toList.length = r.size := by simp
  rw [e1, e2, e3, hq, if_pos hlt] at h1
  exact h1

theorem ib_none (r : ByteArray) (w : World) (hq : r.size ≤ twc 10 (bts r)) :
    Calls Try.prog 24 #[.string r, .int .u8 10] w fun e w' => e = .returned (.int .i64 (-1)) ∧ w = w' := by
  refine (Try.strings_IndexByte r 10 w).mono ?_
  rintro e w' ⟨rfl, rfl⟩
  refine ⟨ret_int ?_, rfl⟩
  have h1 := indexByte_eq 10 r.data.toList
  have e1 : List.map toI r.data.toList = bts r := rfl
  have e2 : toI 10 = 10 := rfl
  have e3 : r.data.toList.length = r.size := by simp
  rw [e1, e2, e3, if_neg (by omega)] at h1
  exact h1

theorem ix_some (r : ByteArray) (q : Nat) (m : Int) (w : World) (hs : r.size < 4294967281) (hm : w.cell? ⟨0, 0, none⟩ = some (.int .i64 m)) (hq : ci (bts r) = some q) :
    Calls Try.prog 25 #[.string r, .string ⟨#[42, 47]⟩] w fun e w' => e = .returned (.int .i64 q) ∧ w = w' := by
  refine (Try.strings_Index r ⟨#[42, 47]⟩ m w hs hm).mono ?_
  rintro e w' ⟨rfl, rfl⟩
  refine ⟨ret_int ?_, rfl⟩
  have h1 := index_eq r.data.toList
  have e1 : List.map toI r.data.toList = bts r := rfl
  rw [e1, hq] at h1
  exact h1

theorem ix_none (r : ByteArray) (m : Int) (w : World) (hs : r.size < 4294967281) (hm : w.cell? ⟨0, 0, none⟩ = some (.int .i64 m)) (hq : ci (bts r) = none) :
    Calls Try.prog 25 #[.string r, .string ⟨#[42, 47]⟩] w fun e w' => e = .returned (.int .i64 (-1)) ∧ w = w' := by
  refine (Try.strings_Index r ⟨#[42, 47]⟩ m w hs hm).mono ?_
  rintro e w' ⟨rfl, rfl⟩
  refine ⟨ret_int ?_, rfl⟩
  have h1 := index_eq r.data.toList
  have e1 : List.map toI r.data.toList = bts r := rfl
  rw [e1, hq] at h1
  exact h1

theorem ct_any (r : ByteArray) (n : Nat) (w : World) (h : (bts r).count 10 = n) :
    Calls Try.prog 26 #[.string r, .string ⟨#[10]⟩] w fun e w' => e = .returned (.int .i64 n) ∧ w = w' := by
  refine (Try.strings_Count_one r 10 w).mono ?_
  rintro e w' ⟨rfl, rfl⟩
  refine ⟨ret_int ?_, rfl⟩
  rw [← h]
  unfold Lib.countByte bts
  have : ∀ L : List UInt8, List.count 10 L = List.count 10 (L.map toI) := by
    intro L
    induction L with
    | nil => rfl
    | cons z L ih =>
      rw [List.map_cons, List.count_cons, List.count_cons, ih]
      have e : (z == 10) = (toI z == 10) := by
        rw [Bool.eq_iff_iff]
        simp only [beq_iff_eq]
        exact (toI_inj (a := z) (b := 10)).symm
      rw [e]
  rw [this]

/-- What skip hands back: nothing, or its complaint. -/
def msg (ok : Bool) : ByteArray := if ok then { data := #[] } else { data := #[110, 111, 32, 34, 42, 47, 34, 32, 99, 108, 111, 115, 101, 115, 32, 116, 104, 101, 32, 99, 111, 109, 109, 101, 110, 116, 32, 34, 47, 42, 34] }

/-- What the loop keeps of the scanner at block b. -/
def Inv (w : World) (b : Nat) (s : ByteArray) (l : List Int) (k0 : Nat) (line : Int) (m : Int) (ans : Bool × Nat) (k f : Nat) (wr : World) : Prop :=
  wr.cell? ⟨b, 0, none⟩ = some (.string s) ∧ wr.cell? ⟨b, 1, none⟩ = some (.int .i64 k) ∧ wr.cell? ⟨b, 2, none⟩ = some (.int .i64 (wrap64 (line + nlc l k0 k))) ∧
  wr.frozen? ⟨b, 1, none⟩ = false ∧ wr.frozen? ⟨b, 2, none⟩ = false ∧ wr.cell? ⟨0, 0, none⟩ = some (.int .i64 m) ∧ Below b w wr ∧ k0 ≤ k ∧ k ≤ s.size ∧ s.size + 1 ≤ f + k ∧ sk l f k = ans

def posOf (b : Nat) (wr : World) : Nat := match wr.cell? ⟨b, 1, none⟩ with | some v => (intOf v).toNat | none => 0
theorem posOf_eq {b k : Nat} {wr : World} (h : wr.cell? ⟨b, 1, none⟩ = some (.int .i64 k)) : posOf b wr = k := by
  unfold posOf; rw [h]; simp [intOf]

theorem Inv.pos {w : World} {b : Nat} {s : ByteArray} {l : List Int} {k0 : Nat} {line m : Int} {ans : Bool × Nat} {k f : Nat} {wr : World} (h : Inv w b s l k0 line m ans k f wr) : posOf b wr = k := posOf_eq h.2.1

theorem drewN_below {B : Nat} {a w : World} (h : Below B a w) (n : Nat) : Below B a (w.drewN n) := h.trans ⟨rfl, rfl, rfl, Nat.le_refl _, fun _ _ => rfl⟩

/-- A store of the place alone: no line break was passed. -/
theorem Inv.set {w : World} {b : Nat} {s : ByteArray} {l : List Int} {k0 : Nat} {line m : Int} {ans : Bool × Nat} {k f : Nat} {wr : World} (h : Inv w b s l k0 line m ans k f wr) (_hb0 : 0 < b) (n : Nat) (k' f' : Nat) (q : Int) (hq : q = k')
    (hkk : k ≤ k') (hks : k' ≤ s.size) (hnl : nlc l k k' = 0) (hf : s.size + 1 ≤ f' + k') (hsk : sk l f' k' = ans) :
    Inv w b s l k0 line m ans k' f' ((wr.drewN n).setCell ⟨b, 1, none⟩ (.int .i64 q)) := by
  obtain ⟨c0, c1, c2, f1, f2, cm, hbel, hk0, hks', hf', hsk'⟩ := h
  subst hq
  have d1 : ((wr.drewN n).cell? ⟨b, 1, none⟩) = some (.int .i64 k) := c1
  refine ⟨?_, World.cell?_setCell_same _ _ _ d1, ?_, ?_, ?_, ?_, ?_, by omega, hks, hf, hsk⟩
  · rw [World.cell?_setCell_other _ _ _ _ (by simp)]; exact c0
  · rw [World.cell?_setCell_other _ _ _ _ (by simp), nlc_add l k0 k k' hk0 hkk, hnl]; exact c2
  · rw [World.frozen?_setCell]; exact f1
  · rw [World.frozen?_setCell]; exact f2
  · rw [World.cell?_setCell_other _ _ _ _ (fun h => by simp at h)]; exact cm
  · exact Go.RowKit.Below.setCell (p := ⟨b, 1, none⟩) (drewN_below hbel n) (Nat.le_refl _) _

/-- A store of the line, then of the place. -/
theorem Inv.set2 {w : World} {b : Nat} {s : ByteArray} {l : List Int} {k0 : Nat} {line m : Int} {ans : Bool × Nat} {k f : Nat} {wr : World} (h : Inv w b s l k0 line m ans k f wr) (_hb0 : 0 < b) (n : Nat) (k' f' : Nat) (q : Int) (hq : q = k') (d : Int) (hd : d = nlc l k k')
    (hkk : k ≤ k') (hks : k' ≤ s.size) (hf : s.size + 1 ≤ f' + k') (hsk : sk l f' k' = ans) :
    Inv w b s l k0 line m ans k' f' (((wr.drewN n).setCell ⟨b, 2, none⟩ (.int .i64 (wrap64 (wrap64 (line + nlc l k0 k) + d)))).setCell ⟨b, 1, none⟩ (.int .i64 q)) := by
  obtain ⟨c0, c1, c2, f1, f2, cm, hbel, hk0, hks', hf', hsk'⟩ := h
  subst hq hd
  have d1 : ((wr.drewN n).cell? ⟨b, 1, none⟩) = some (.int .i64 k) := c1
  have d2 : ((wr.drewN n).cell? ⟨b, 2, none⟩) = some (.int .i64 (wrap64 (line + nlc l k0 k))) := c2
  have e : line + (nlc l k0 k : Int) + (nlc l k k' : Int) = line + (nlc l k0 k' : Int) := by rw [nlc_add l k0 k k' hk0 hkk]; omega
  rw [wrap_add, e]
  refine ⟨?_, World.cell?_setCell_same _ _ _ (u := .int .i64 k) ?_, ?_, ?_, ?_, ?_, ?_, by omega, hks, hf, hsk⟩
  · rw [World.cell?_setCell_other _ _ _ _ (by simp), World.cell?_setCell_other _ _ _ _ (by simp)]; exact c0
  · rw [World.cell?_setCell_other _ _ _ _ (by simp)]; exact d1
  · rw [World.cell?_setCell_other _ _ _ _ (by simp), World.cell?_setCell_same _ _ _ d2]
  · rw [World.frozen?_setCell, World.frozen?_setCell]; exact f1
  · rw [World.frozen?_setCell, World.frozen?_setCell]; exact f2
  · rw [World.cell?_setCell_other _ _ _ _ (fun h => by simp at h), World.cell?_setCell_other _ _ _ _ (fun h => by simp at h)]; exact cm
  · exact Go.RowKit.Below.setCell (p := ⟨b, 1, none⟩) (Go.RowKit.Below.setCell (p := ⟨b, 2, none⟩) (drewN_below hbel n) (Nat.le_refl _) _) (Nat.le_refl _) _

set_option maxRecDepth 100000 in
set_option maxHeartbeats 4000000 in
theorem skip_any (s : ByteArray) (k0 f0 : Nat) (line : Int) (b : Nat) (m : Int) (w : World) (hs : s.size ≤ 1048576) (hb0 : 0 < b) (h0 : Inv w b s (bts s) k0 line m (sk (bts s) f0 k0) k0 f0 w) :
    Calls Try.prog 21 #[.pointer (some ⟨b, 0, none⟩)] w fun e w' => e = .returned (.string (msg (sk (bts s) f0 k0).1)) ∧
      w'.cell? ⟨b, 1, none⟩ = some (.int .i64 (sk (bts s) f0 k0).2) ∧ w'.cell? ⟨b, 2, none⟩ = some (.int .i64 (wrap64 (line + nlc (bts s) k0 (sk (bts s) f0 k0).2))) ∧ Below b w w' := by
  have HL : Hid ((bts s).length = s.size) := bts_length s
  obtain ⟨l, HB⟩ : ∃ l, Hid (bts s = l) := ⟨_, rfl⟩
  rw [HB.out] at HL h0 ⊢
  obtain ⟨ans, HA⟩ : ∃ ans, Hid (sk l f0 k0 = ans) := ⟨_, rfl⟩
  rw [HA.out] at h0 ⊢
  go_enter Try.func21, Try.ntmps21
  go_wp2
  go_loopw [2] (fun r wr => r = .string { data := #[] } ∧ ∃ k f, Inv w b s l k0 line m ans k f wr) (fun _ wr => s.size + 1 - posOf b wr)
  case atStart => exact ⟨rfl, k0, f0, h0⟩
  case round =>
    obtain ⟨rfl, k, f, hinv⟩ := hrel
    have HI : Hid (Inv w b s l k0 line m ans k f wr) := hinv
    have HPo : Hid (posOf b wr = k) := hinv.pos
    obtain ⟨c0, c1, c2, f1, f2, cm, hbel, hk0, hks, hf, hsk⟩ := hinv
    obtain ⟨f, rfl⟩ : ∃ f', f = f' + 1 := ⟨f - 1, by omega⟩
    by_cases hlt : k < s.size
    · have hkl : k < l.length := by rw [HL.out]; exact hlt
      have HG : Hid (∀ k', nx l k = .inr k' → sk l f k' = ans) := fun k' h => by rw [← hsk, sk_go hkl h]
      have HR : Hid (∀ v, nx l k = .inl v → ans = (v, k)) := fun v h => by rw [← hsk, sk_stop hkl h]
      have HK : Hid (k < l.length) := hkl
      clear hsk hkl h0
      obtain ⟨r, HRr⟩ : ∃ r, Hid (s.extract k s.size = r) := ⟨_, rfl⟩
      have hrs : r.size + k = s.size := by rw [← HRr.out]; simp; omega
      have hrb : bts r = l.drop k := by rw [← HRr.out, bts_extract, HB.out]
      have hr0 : 0 < r.size := by omega
      have hgc := bts_get r 0 hr0
      rw [hrb, gt_drop, Nat.add_zero] at hgc
      obtain ⟨c, HC⟩ : ∃ c, Hid (gt l k = c) := ⟨_, rfl⟩
      rw [HC.out] at hgc
      have hex : s.extract k s.size = r := HRr.out
      have HRB : Hid (bts r = l.drop k) := hrb
      clear hrb
      by_cases h10 : c = 10
      · have HX : Hid (nx l k = .inr (k + 1)) := by show nx l k = _; unfold nx; rw [HC.out, if_pos (by rw [h10]; rfl)]
        have HN : Hid ((1 : Int) = nlc l k (k + 1)) := by show _ = _; rw [nlc_one l k HK.out, HC.out, if_pos h10]; rfl
        have hI := fun n => HI.out.set2 hb0 n (k + 1) f ((k : Int) + 1) (by omega) 1 HN.out (by omega) (by omega) (by omega) (HG.out _ HX.out)
        have HII : Hid (∀ n, Inv w b s l k0 line m ans (k + 1) f (((wr.drewN n).setCell ⟨b, 2, none⟩ (.int .i64 (wrap64 (wrap64 (line + nlc l k0 k) + 1)))).setCell ⟨b, 1, none⟩ (.int .i64 ((k : Int) + 1)))) := hI
        clear hI
        go_wp2
        go_quiet (fail)
        go_wp2
        go_quiet (fail)
        go_wp2
        exact ⟨⟨rfl, _, _, HII.out _⟩, by rw [(HII.out _).pos, HPo.out]; omega⟩
      · by_cases h32 : c = 32
        · have HX : Hid (nx l k = .inr (k + 1)) := by show nx l k = _; unfold nx; rw [HC.out, if_pos (by rw [h32]; rfl)]
          have HN : Hid (nlc l k (k + 1) = 0) := by show _ = _; rw [nlc_one l k HK.out, HC.out, if_neg (by omega)]
          have hI := fun n => HI.out.set hb0 n (k + 1) f ((k : Int) + 1) (by omega) (by omega) (by omega) HN.out (by omega) (HG.out _ HX.out)
          have HII : Hid (∀ n, Inv w b s l k0 line m ans (k + 1) f ((wr.drewN n).setCell ⟨b, 1, none⟩ (.int .i64 ((k : Int) + 1)))) := hI
          clear hI
          go_wp2
          go_quiet (fail)
          go_wp2
          go_quiet (fail)
          go_wp2
          exact ⟨⟨rfl, _, _, HII.out _⟩, by rw [(HII.out _).pos, HPo.out]; omega⟩
        · by_cases h9 : c = 9
          · have HX : Hid (nx l k = .inr (k + 1)) := by show nx l k = _; unfold nx; rw [HC.out, if_pos (by rw [h9]; rfl)]
            have HN : Hid (nlc l k (k + 1) = 0) := by show _ = _; rw [nlc_one l k HK.out, HC.out, if_neg (by omega)]
            have hI := fun n => HI.out.set hb0 n (k + 1) f ((k : Int) + 1) (by omega) (by omega) (by omega) HN.out (by omega) (HG.out _ HX.out)
            have HII : Hid (∀ n, Inv w b s l k0 line m ans (k + 1) f ((wr.drewN n).setCell ⟨b, 1, none⟩ (.int .i64 ((k : Int) + 1)))) := hI
            clear hI
            go_wp2
            go_quiet (fail)
            go_wp2
            go_quiet (fail)
            go_wp2
            exact ⟨⟨rfl, _, _, HII.out _⟩, by rw [(HII.out _).pos, HPo.out]; omega⟩
          · by_cases h13 : c = 13
            · have HX : Hid (nx l k = .inr (k + 1)) := by show nx l k = _; unfold nx; rw [HC.out, if_pos (by rw [h13]; rfl)]
              have HN : Hid (nlc l k (k + 1) = 0) := by show _ = _; rw [nlc_one l k HK.out, HC.out, if_neg (by omega)]
              have hI := fun n => HI.out.set hb0 n (k + 1) f ((k : Int) + 1) (by omega) (by omega) (by omega) HN.out (by omega) (HG.out _ HX.out)
              have HII : Hid (∀ n, Inv w b s l k0 line m ans (k + 1) f ((wr.drewN n).setCell ⟨b, 1, none⟩ (.int .i64 ((k : Int) + 1)))) := hI
              clear hI
              go_wp2
              go_quiet (fail)
              go_wp2
              go_quiet (fail)
              go_wp2
              exact ⟨⟨rfl, _, _, HII.out _⟩, by rw [(HII.out _).pos, HPo.out]; omega⟩
            · have b10 : (c == 10) = false := by simpa using h10
              have b32 : (c == 32) = false := by simpa using h32
              have b9 : (c == 9) = false := by simpa using h9
              have b13 : (c == 13) = false := by simpa using h13
              have HLb : Hid (¬ layB (gt l k) = true) := by show ¬ _; rw [HC.out]; unfold layB; rw [b10, b32, b9, b13]; simp
              by_cases hA : hp2 47 47 (l.drop k) = true
              · have HX : Hid (nx l k = .inr (k + twc 10 (l.drop k))) := by show nx l k = _; unfold nx; rw [if_neg HLb.out, if_pos hA]
                have HN := nlc_line l k
                have HA2 : Hid (hp2 (toI 47) (toI 47) (bts r) = true) := by rw [HRB.out]; exact hA
                have htp := twc_pos HK.out (by rw [HC.out]; exact h10)
                have htl := twc_le 10 (l.drop k)
                rw [List.length_drop, HL.out] at htl
                obtain ⟨q, HQ⟩ : ∃ q, Hid (twc 10 (l.drop k) = q) := ⟨_, rfl⟩
                rw [HQ.out] at HX HN htp htl
                have hI := fun n => HI.out.set hb0 n (k + q) f ((k : Int) + q) (by omega) (by omega) (by omega) HN (by omega) (HG.out _ HX.out)
                have HII : Hid (∀ n, Inv w b s l k0 line m ans (k + q) f ((wr.drewN n).setCell ⟨b, 1, none⟩ (.int .i64 ((k : Int) + q)))) := hI
                clear hI HN hA HG HR
                by_cases hq : q < r.size
                · have HQ2 : Hid (twc 10 (bts r) = q) := by rw [HRB.out]; exact HQ.out
                  go_wp2
                  go_quiet (fail)
                  go_wp2
                  go_quiet (fail)
                  go_wp2_with (first | (go_at_call 23; refine (hp_any r 47 47 true _ HA2.out).mono ?_; rintro e w' ⟨rfl, rfl⟩) | (go_at_call 24; refine (ib_any r q _ HQ2.out hq).mono ?_; rintro e w' ⟨rfl, rfl⟩))
                  exact ⟨⟨rfl, _, _, HII.out _⟩, by rw [(HII.out _).pos, HPo.out]; omega⟩
                · have hqe : q = r.size := by omega
                  have HQ2 : Hid (r.size ≤ twc 10 (bts r)) := by rw [HRB.out, HQ.out]; show _ ≤ _; omega
                  rw [hqe] at HII
                  clear hq hqe
                  go_wp2
                  go_quiet (fail)
                  go_wp2
                  go_quiet (fail)
                  go_wp2_with (first | (go_at_call 23; refine (hp_any r 47 47 true _ HA2.out).mono ?_; rintro e w' ⟨rfl, rfl⟩) | (go_at_call 24; refine (ib_none r _ HQ2.out).mono ?_; rintro e w' ⟨rfl, rfl⟩))
                  exact ⟨⟨rfl, _, _, HII.out _⟩, by rw [(HII.out _).pos, HPo.out]; omega⟩
              · have HA2 : Hid (hp2 (toI 47) (toI 47) (bts r) = false) := by rw [HRB.out]; show hp2 47 47 (l.drop k) = false; simpa using hA
                by_cases hB : hp2 47 42 (l.drop k) = true
                · have HB2 : Hid (hp2 (toI 47) (toI 42) (bts r) = true) := by rw [HRB.out]; exact hB
                  have hb3 := hp2_drop hB
                  rw [HL.out] at hb3
                  have hk1 := hb3.1
                  clear hb3
                  have hbr : bts (r.extract 2 r.size) = l.drop (k + 2) := by rw [bts_extract, HRB.out, List.drop_drop]
                  have HX : Hid (∀ x, ci (l.drop (k + 2)) = x → nx l k = (match x with | none => .inl false | some e => .inr (k + 2 + e + 2))) := by intro x hx; unfold nx; rw [if_neg HLb.out, if_neg hA, if_pos hB, hx]; rfl
                  have HBR : Hid (bts (r.extract 2 r.size) = l.drop (k + 2)) := hbr
                  have hsz : (r.extract 2 r.size).size < 4294967281 := by simp; omega
                  have HSZ : Hid ((r.extract 2 r.size).size < 4294967281) := hsz
                  clear hbr hA hB hsz
                  rcases hci : ci (l.drop (k + 2)) with _ | e
                  · have HAn : Hid (ans = (false, k)) := HR.out _ (HX.out _ hci)
                    have HCi : Hid (ci (bts (r.extract 2 r.size)) = none) := by rw [HBR.out]; exact hci
                    clear HX hci HG HR
                    go_wp2
                    go_quiet (fail)
                    go_wp2
                    go_quiet (fail)
                    go_wp2_with (first | (go_at_call 23; refine (hp_any r 47 47 false _ HA2.out).mono ?_; rintro e w' ⟨rfl, rfl⟩) | (go_at_call 23; refine (hp_any r 47 42 true _ HB2.out).mono ?_; rintro e w' ⟨rfl, rfl⟩) | (go_at_call 25; refine (ix_none (r.extract 2 r.size) m _ HSZ.out (by simpa using cm) HCi.out).mono ?_; rintro e w' ⟨rfl, rfl⟩))
                    go_ret
                    exact ⟨by rw [HAn.out]; rfl, by rw [HAn.out]; exact c1, by rw [HAn.out]; exact c2, drewN_below hbel _⟩
                  · have HXe := HX.out _ hci
                    have HCi : Hid (ci (bts (r.extract 2 r.size)) = some e) := by rw [HBR.out]; exact hci
                    have hcs := ci_some _ _ hci
                    rw [List.length_drop, HL.out] at hcs
                    have he := hcs.1
                    have HX2 : Hid (nx l k = .inr (k + 2 + e + 2)) := HXe
                    clear hcs hci HXe HX
                    have hct : (bts (r.extract 0 (2 + e + 2))).count 10 = nlc l k (k + 2 + e + 2) := by
                      rw [bts_take, HRB.out]; unfold nlc
                      have e1 : k + 2 + e + 2 - k = 2 + e + 2 := by omega
                      rw [e1]
                    obtain ⟨d, HD⟩ : ∃ d, Hid (nlc l k (k + 2 + e + 2) = d) := ⟨_, rfl⟩
                    rw [HD.out] at hct
                    have HCt : Hid ((bts (r.extract 0 (2 + e + 2))).count 10 = d) := hct
                    have hI := fun n => HI.out.set2 hb0 n (k + 2 + e + 2) f ((k : Int) + ((min (2 + e + 2) r.size : Nat) : Int)) (by omega) d (by rw [HD.out]) (by omega) (by omega) (by omega) (HG.out _ HX2.out)
                    have HII : Hid (∀ n, Inv w b s l k0 line m ans (k + 2 + e + 2) f (((wr.drewN n).setCell ⟨b, 2, none⟩ (.int .i64 (wrap64 (wrap64 (line + nlc l k0 k) + d)))).setCell ⟨b, 1, none⟩ (.int .i64 ((k : Int) + ((min (2 + e + 2) r.size : Nat) : Int))))) := hI
                    clear hI hct HX2 HG HR
                    go_wp2
                    go_quiet (fail)
                    go_wp2
                    go_quiet (fail)
                    go_wp2_with (first | (go_at_call 23; refine (hp_any r 47 47 false _ HA2.out).mono ?_; rintro e w' ⟨rfl, rfl⟩) | (go_at_call 23; refine (hp_any r 47 42 true _ HB2.out).mono ?_; rintro e w' ⟨rfl, rfl⟩) | (go_at_call 25; refine (ix_some (r.extract 2 r.size) e m _ HSZ.out (by simpa using cm) HCi.out).mono ?_; rintro e' w' ⟨rfl, rfl⟩))
                    go_region_with (go_at_call 26; refine (ct_any (r.extract 0 (2 + e + 2)) d _ HCt.out).mono ?_; rintro e' w' ⟨rfl, rfl⟩)
                    all_goals go_wp2
                    all_goals exact ⟨⟨rfl, _, _, HII.out _⟩, by rw [(HII.out _).pos, HPo.out]; omega⟩
                · have HB2 : Hid (hp2 (toI 47) (toI 42) (bts r) = false) := by rw [HRB.out]; show hp2 47 42 (l.drop k) = false; simpa using hB
                  have HX : Hid (nx l k = .inl true) := by show nx l k = _; unfold nx; rw [if_neg HLb.out, if_neg hA, if_neg hB]
                  have HAn : Hid (ans = (true, k)) := HR.out _ HX.out
                  clear hA hB
                  go_wp2
                  go_quiet (fail)
                  go_wp2
                  go_quiet (fail)
                  go_wp2_with (first | (go_at_call 23; refine (hp_any r 47 47 false _ HA2.out).mono ?_; rintro e w' ⟨rfl, rfl⟩) | (go_at_call 23; refine (hp_any r 47 42 false _ HB2.out).mono ?_; rintro e w' ⟨rfl, rfl⟩))
                  go_ret
                  exact ⟨by rw [HAn.out]; rfl, by rw [HAn.out]; exact c1, by rw [HAn.out]; exact c2, drewN_below hbel _⟩
    · have HAn : Hid (ans = (true, k)) := by rw [← hsk, sk_out (by rw [HL.out]; exact hlt)]; rfl
      clear hsk
      go_wp2
      go_quiet (fail)
      go_wp2
      go_ret
      exact ⟨by rw [HAn.out]; rfl, by rw [HAn.out]; exact c1, by rw [HAn.out]; exact c2, drewN_below hbel _⟩

end Go.Proofs.Qxb6000828a
