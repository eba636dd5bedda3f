/-
  The walks of spec.sequence (23) joined, of spec.Whole (20) and of spec.Plain (21).
-/
import Derived.Test.YtlbhelibgifaaaaDoorWalkB
namespace Go.Proofs.YtlbhelibgifaaaaDoor
open Go.RowKit
open Go.Lib (validD)

theorem sequence_core (s : ByteArray) (a : Nat) (x y : UInt8) (F1 F2 F3 : Bool) (w : World) (ha : a < s.size) (hr : s.size + 3 ≤ 9223372036854775807)
    (hx : s[a] = x) (hy : ∀ h : a + 1 < s.size, s[a + 1] = y) (hl2 : F2 = true → a + 1 < s.size) (hl3 : F3 = true → a + 1 < s.size)
    (C1 : Hid (∀ W, Calls Tryd.prog 25 #[.string s, .int .i64 ((a : Int) + 1), .int .i64 1] W fun e w' => e = .returned (.bool F1) ∧ W = w'))
    (C2 : Hid (∀ W, Calls Tryd.prog 25 #[.string s, .int .i64 ((a : Int) + 1), .int .i64 2] W fun e w' => e = .returned (.bool F2) ∧ W = w'))
    (C3 : Hid (∀ W, Calls Tryd.prog 25 #[.string s, .int .i64 ((a : Int) + 1), .int .i64 3] W fun e w' => e = .returned (.bool F3) ∧ W = w')) :
    Calls Tryd.prog 23 #[.string s, .int .i64 a] w fun e w' => e = .returned (.int .i64 ((seqV x.toNat y.toNat F1 F2 F3 : Nat) : Int)) ∧ w = w' := by
  obtain ⟨R, hR⟩ : ∃ R, seqV x.toNat y.toNat F1 F2 F3 = R := ⟨_, rfl⟩
  rw [hR]
  unfold seqV at hR
  have hb := x.toNat_lt
  have haz : (a : Int) < (s.size : Int) := by omega
  by_cases c1 : x.toNat < 128
  · rw [if_pos c1] at hR
    subst hR
    exact seq_asc s a x w ha haz hx (by omega)
  rw [if_neg c1] at hR
  by_cases c2 : x.toNat < 194
  · rw [if_neg (by omega), if_neg (by omega), if_neg (by omega)] at hR
    subst hR
    exact seq_low s a x w ha haz hx (by omega) (by omega)
  by_cases c3 : x.toNat ≤ 223
  · cases F1
    · rw [if_neg (by simp), if_neg (by omega), if_neg (by omega)] at hR
      subst hR
      exact seq_two_no s a x w ha hr haz hx (by omega) (by omega) C1
    · rw [if_pos ⟨by omega, by omega, rfl⟩] at hR
      subst hR
      exact seq_two s a x w ha hr haz hx (by omega) (by omega) C1
  rw [if_neg (by omega)] at hR
  by_cases c4 : x.toNat ≤ 239
  · cases F2
    · rw [if_neg (by simp), if_neg (by omega)] at hR
      subst hR
      exact seq_three_no s a x w ha hr haz hx (by omega) (by omega) C2
    · rw [if_pos ⟨by omega, by omega, rfl⟩] at hR
      have hn := hl2 rfl
      have hy' := hy hn
      have hnz : (a : Int) + 1 < (s.size : Int) := by omega
      by_cases d1 : x.toNat = 224
      · by_cases g : y.toNat < 160
        · rw [if_pos (.inl ⟨d1, g⟩)] at hR
          subst hR
          exact seq_three_lo0 s a x y w ha hr haz hx (by omega) (by omega) hn hnz hy' (by simp [d1]) (by simp [d1]) (by omega) C2
        · rw [if_neg (by omega)] at hR
          subst hR
          exact seq_three_lo1 s a x y w ha hr haz hx (by omega) (by omega) hn hnz hy' (by simp [d1]) (by simp [d1]) (by omega) C2
      by_cases d2 : x.toNat = 237
      · by_cases g : 159 < y.toNat
        · rw [if_pos (.inr ⟨d2, g⟩)] at hR
          subst hR
          exact seq_three_hi0 s a x y w ha hr haz hx (by omega) (by omega) hn hnz hy' (by simp [d2]) (by simp [d2]) (by omega) C2
        · rw [if_neg (by omega)] at hR
          subst hR
          exact seq_three_hi1 s a x y w ha hr haz hx (by omega) (by omega) hn hnz hy' (by simp [d2]) (by simp [d2]) (by omega) C2
      rw [if_neg (by omega)] at hR
      subst hR
      exact seq_three s a x w ha hr haz hx (by omega) (by omega) (by simp; omega) (by simp; omega) C2
  rw [if_neg (by omega)] at hR
  by_cases c5 : x.toNat ≤ 244
  · cases F3
    · rw [if_neg (by simp)] at hR
      subst hR
      exact seq_four_no s a x w ha hr haz hx (by omega) (by omega) C3
    · rw [if_pos ⟨by omega, by omega, rfl⟩] at hR
      have hn := hl3 rfl
      have hy' := hy hn
      have hnz : (a : Int) + 1 < (s.size : Int) := by omega
      by_cases d1 : x.toNat = 240
      · by_cases g : y.toNat < 144
        · rw [if_pos (.inl ⟨d1, g⟩)] at hR
          subst hR
          exact seq_four_lo0 s a x y w ha hr haz hx (by omega) (by omega) hn hnz hy' (by simp [d1]) (by simp [d1]) (by omega) C3
        · rw [if_neg (by omega)] at hR
          subst hR
          exact seq_four_lo1 s a x y w ha hr haz hx (by omega) (by omega) hn hnz hy' (by simp [d1]) (by simp [d1]) (by omega) C3
      by_cases d2 : x.toNat = 244
      · by_cases g : 143 < y.toNat
        · rw [if_pos (.inr ⟨d2, g⟩)] at hR
          subst hR
          exact seq_four_hi0 s a x y w ha hr haz hx (by omega) (by omega) hn hnz hy' (by simp [d2]) (by simp [d2]) (by omega) C3
        · rw [if_neg (by omega)] at hR
          subst hR
          exact seq_four_hi1 s a x y w ha hr haz hx (by omega) (by omega) hn hnz hy' (by simp [d2]) (by simp [d2]) (by omega) C3
      rw [if_neg (by omega)] at hR
      subst hR
      exact seq_four s a x w ha hr haz hx (by omega) (by omega) (by simp; omega) (by simp; omega) C3
  rw [if_neg (by omega)] at hR
  subst hR
  exact seq_high s a x w ha haz hx (by omega)

theorem sequence_any (s : ByteArray) (A : Int) (w : World) (h0 : 0 ≤ A) (hA : A < s.size) (hr : s.size + 3 ≤ 9223372036854775807) :
    Calls Tryd.prog 23 #[.string s, .int .i64 A] w fun e w' => e = .returned (.int .i64 ((seqL (s.data.toList.drop A.toNat) : Nat) : Int)) ∧ w = w' := by
  obtain ⟨a, rfl⟩ := Int.eq_ofNat_of_zero_le h0
  rw [Int.toNat_natCast]
  have ha : a < s.size := by omega
  have cF : ∀ (M : Int) (W : World), 0 ≤ M → M ≤ 3 → Calls Tryd.prog 25 #[.string s, .int .i64 ((a : Int) + 1), .int .i64 M] W fun e w' => e = .returned (.bool (folB (s.data.toList.drop ((a : Int) + 1).toNat) M.toNat)) ∧ W = w' :=
    fun M W h1 h2 => follows_any s _ M W (by omega) (by omega) h1 h2 hr
  rw [seqL_V s a ha]
  refine sequence_core s a _ _ _ _ _ w ha hr rfl (fun h => (seq_next s a h).symm) (fun h => ?_) (fun h => ?_) (fun W => cF 1 W (by omega) (by omega)) (fun W => cF 2 W (by omega) (by omega)) (fun W => cF 3 W (by omega) (by omega))
  · by_cases g : a + 1 < s.size
    · exact g
    · rw [folB_short _ _ (by simp; omega)] at h; cases h
  · by_cases g : a + 1 < s.size
    · exact g
    · rw [folB_short _ _ (by simp; omega)] at h; cases h

set_option maxRecDepth 100000 in
set_option maxHeartbeats 400000 in
theorem whole_any (s : ByteArray) (w : World) (hr : s.size + 3 ≤ 9223372036854775807) :
    Calls Tryd.prog 20 #[.string s] w fun e w' => e = .returned (.bool (validD s.data.toList)) ∧ w = w' := by
  obtain ⟨V, hV⟩ : ∃ V, validD s.data.toList = V := ⟨_, rfl⟩
  rw [hV]
  have HV := Lib.hid hV
  clear hV
  go_enter Tryd.func20, Tryd.ntmps20
  go_wp2
  go_loop [3] (fun i => ∃ k : Nat, k ≤ s.size ∧ i = .int .i64 k ∧ validD (s.data.toList.drop k) = V) (fun i => s.size - (intOf i).toNat)
  case atStart => exact ⟨0, Nat.zero_le _, rfl, HV.out⟩
  case round =>
    obtain ⟨k, hk, rfl, hv⟩ := hrel
    by_cases hlt : k < s.size
    · have hkz : (k : Int) < (s.size : Int) := by omega
      have hne : s.data.toList.drop k ≠ [] := by
        intro e
        have := congrArg List.length e
        simp at this; omega
      have hst := seq_valid _ hne
      have hle := seqL_le _ hne
      rw [List.length_drop, len_list] at hle
      rw [hv, List.drop_drop] at hst
      have hc : ∀ W, Calls Tryd.prog 23 #[.string s, .int .i64 k] W _ := fun W => sequence_any s k W (by omega) hkz hr
      rw [Int.toNat_natCast] at hc
      generalize seqL (s.data.toList.drop k) = n at hst hle hc
      have C := Lib.hid hc
      have HS := Lib.hid hst
      have HV2 := Lib.hid hv
      clear hc hst hv hne
      by_cases hn : n = 0
      · subst hn
        go_wp2_with fail
        ((with_reducible refine (C.out _).mono ?_); rintro e w' ⟨rfl, rfl⟩)
        go_wp2_with fail
        go_ret
        exact ⟨ret_bool (by rw [HS.out]; rfl), rfl⟩
      · have hnb : ((n : Int) == 0) = false := by simp [hn]
        have HN := Lib.hid hn
        clear hn
        go_wp2_with fail
        ((with_reducible refine (C.out _).mono ?_); rintro e w' ⟨rfl, rfl⟩)
        go_wp2_with fail
        go_round
        case rel => exact ⟨k + n, by omega, by go_num, by rw [HS.out, if_neg HN.out]⟩
        case measure => have := HN.out; simp [intOf]; omega
    · have hf : V = true := by
        rw [← hv, List.drop_eq_nil_of_le (by simp; omega)]; rfl
      subst hf
      clear hv
      go_wp2
      go_ret
      exact ⟨rfl, rfl⟩

theorem isEmpty_eq (l : List UInt8) : l.isEmpty = (l == []) := by cases l <;> rfl
set_option maxRecDepth 100000 in
set_option maxHeartbeats 400000 in
theorem plain_any (s : ByteArray) (w : World) :
    Calls Tryd.prog 21 #[.string s] w fun e w' => e = .returned (.bool (plainE s.data.toList)) ∧ w = w' := by
  rw [← Lib.toList_data]
  obtain ⟨V, hV⟩ : ∃ V, plainE s.toList = V := ⟨_, rfl⟩
  rw [hV]
  have HV := Lib.hid hV
  clear hV
  go_enter Tryd.func21, Tryd.ntmps21
  go_wp2
  · rename_i h
    have hv : V = false := by rw [← HV.out, h]; rfl
    go_ret
    exact ⟨ret_bool hv.symm, rfl⟩
  · rename_i h1 h2
    have hv : V = false := by rw [← HV.out, h2]; rfl
    go_ret
    exact ⟨ret_bool hv.symm, rfl⟩
  · rename_i h1 h2
    have hv : V = (!s.toList.isEmpty && !s.toList == [46] && !s.toList == [46, 46]) := by rw [← HV.out, isEmpty_eq]; rfl
    go_ret
    exact ⟨ret_bool hv.symm, rfl⟩
end Go.Proofs.YtlbhelibgifaaaaDoor
