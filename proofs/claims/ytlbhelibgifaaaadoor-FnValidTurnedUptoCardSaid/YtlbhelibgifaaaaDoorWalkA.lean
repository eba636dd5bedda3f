/-
  The walks of the reference: spec.follows (25), spec.sequence (23), spec.Whole (20), spec.Plain (21).
-/
import Derived.Test.YtlbhelibgifaaaaDoorProg
import Derived.Test.YtlbhelibgifaaaaDoorPlainB
import Derived.WalkKit
import Derived.WalkSpells
import Derived.WalkLawsBesides
import Derived.Lib.Hide
namespace Go.Proofs.YtlbhelibgifaaaaDoor
open Go.RowKit

theorem len_list (s : ByteArray) : s.data.toList.length = s.size := by simp
theorem get_drop (s : ByteArray) (a k : Nat) (h : k < s.size) (ha : a ≤ k) : (s.data.toList.drop a)[k - a]'(by simp; omega) = s[k] := by
  have e : a + (k - a) = k := by omega
  simp [e]; rfl
theorem fol_no (s : ByteArray) (a m k : Nat) (h : k < s.size) (ha : a ≤ k) (hm : k < a + m) (hc : cont s[k] = false) : folB (s.data.toList.drop a) m = false :=
  folB_no _ m (k - a) (by omega) (by simp; omega) (by rw [get_drop s a k h ha]; exact hc)
theorem fol_step (s : ByteArray) (a k : Nat) (h : k < s.size) (ha : a ≤ k) (hc : cont s[k] = true) (H : ((s.data.toList.drop a).take (k - a)).all cont = true) : ((s.data.toList.drop a).take (k + 1 - a)).all cont = true := by
  have e : k + 1 - a = (k - a) + 1 := by omega
  rw [e, List.take_succ_eq_append_getElem (by simp; omega), List.all_append, H, get_drop s a k h ha]
  simp [hc]
theorem cont_no {c : UInt8} (h : (c.toNat : Int) < 128 ∨ 191 < (c.toNat : Int)) : cont c = false := by
  unfold cont
  rcases h with h | h
  · rw [decide_eq_false (by omega)]; rfl
  · rw [decide_eq_false (p := c.toNat ≤ 191) (by omega)]; simp
theorem cont_ok {c : UInt8} (h1 : 128 ≤ (c.toNat : Int)) (h2 : (c.toNat : Int) ≤ 191) : cont c = true := cont_yes.2 ⟨by omega, by omega⟩
theorem ret_bool {a b : Bool} (h : a = b) : Ending.returned (.bool a) = .returned (.bool b) := by rw [h]
theorem ret_i64 {a b : Int} (h : a = b) : Ending.returned (.int .i64 a) = .returned (.int .i64 b) := by rw [h]

set_option maxRecDepth 100000 in
set_option maxHeartbeats 400000 in
theorem follows_any (s : ByteArray) (A M : Int) (w : World) (h0 : 0 ≤ A) (hA : A ≤ s.size) (hm : 0 ≤ M) (hM : M ≤ 3) (hr : s.size + 3 ≤ 9223372036854775807) :
    Calls Tryd.prog 25 #[.string s, .int .i64 A, .int .i64 M] w fun e w' => e = .returned (.bool (folB (s.data.toList.drop A.toNat) M.toNat)) ∧ w = w' := by
  obtain ⟨a, rfl⟩ := Int.eq_ofNat_of_zero_le h0
  obtain ⟨m, rfl⟩ := Int.eq_ofNat_of_zero_le hm
  rw [Int.toNat_natCast, Int.toNat_natCast]
  by_cases hl : (s.size : Int) - a < m
  · have hf : folB (s.data.toList.drop a) m = false := folB_short _ _ (by simp; omega)
    rw [hf]
    clear hf
    go_enter Tryd.func25, Tryd.ntmps25
    go_wp2
    go_ret
    exact ⟨rfl, rfl⟩
  · go_enter Tryd.func25, Tryd.ntmps25
    go_wp2
    go_loop [7] (fun i => ∃ k : Nat, a ≤ k ∧ k ≤ a + m ∧ i = .int .i64 k ∧ ((s.data.toList.drop a).take (k - a)).all cont = true) (fun i => (a + m) - (intOf i).toNat)
    case atStart => exact ⟨a, Nat.le_refl _, by omega, rfl, by simp⟩
    case round =>
      obtain ⟨k, hk1, hk2, rfl, hall⟩ := hrel
      have HA := Lib.hid hall
      clear hall
      by_cases hlt : k < a + m
      · have hks : k < s.size := by omega
        obtain ⟨x, hx⟩ : ∃ x, s[k] = x := ⟨_, rfl⟩
        by_cases c1 : (x.toNat : Int) < 128
        · have hf := fol_no s a m k hks hk1 hlt (hx ▸ cont_no (.inl c1))
          have HF := Lib.hid hf
          clear hf
          go_wp2
          go_ret
          exact ⟨ret_bool HF.out.symm, rfl⟩
        · by_cases c2 : 191 < (x.toNat : Int)
          · have hf := fol_no s a m k hks hk1 hlt (hx ▸ cont_no (.inr c2))
            have HF := Lib.hid hf
            clear hf
            go_wp2
            go_ret
            exact ⟨ret_bool HF.out.symm, rfl⟩
          · go_wp2
            go_round
            case rel => exact ⟨k + 1, by omega, by omega, by go_num, fol_step s a k hks hk1 (hx ▸ cont_ok (by omega) (by omega)) HA.out⟩
            case measure => simp [intOf]; omega
      · have hf : folB (s.data.toList.drop a) m = true := folB_yes _ _ (by simp; omega) (by
          have := HA.out
          rwa [show k - a = m by omega] at this)
        have HF := Lib.hid hf
        clear hf
        go_wp2
        go_ret
        exact ⟨ret_bool HF.out.symm, rfl⟩

/-- spec.sequence, at a place inside the string. -/
theorem seq_head (s : ByteArray) (a : Nat) (h : a < s.size) : (s.data.toList.drop a).getD 0 0 = s[a] := by
  simp [List.getD_eq_getElem?_getD, h]; rfl
theorem seq_next (s : ByteArray) (a : Nat) (h : a + 1 < s.size) : (s.data.toList.drop a).getD 1 0 = s[a + 1] := by
  simp [List.getD_eq_getElem?_getD, h]; rfl
theorem drop_one (l : List UInt8) (a : Nat) : (l.drop a).drop 1 = l.drop ((a : Int) + 1).toNat := by
  rw [List.drop_drop, show ((a : Int) + 1).toNat = a + 1 by omega]

/-- spec.sequence's answer, by the lead byte x, the byte behind it, and what spec.follows says. -/
def seqV (x y : Nat) (F1 F2 F3 : Bool) : Nat :=
  if x < 128 then 1
  else if 194 ≤ x ∧ x ≤ 223 ∧ F1 = true then 2
  else if 224 ≤ x ∧ x ≤ 239 ∧ F2 = true then (if (x = 224 ∧ y < 160) ∨ (x = 237 ∧ 159 < y) then 0 else 3)
  else if 240 ≤ x ∧ x ≤ 244 ∧ F3 = true then (if (x = 240 ∧ y < 144) ∨ (x = 244 ∧ 143 < y) then 0 else 4)
  else 0
theorem seqL_V (s : ByteArray) (a : Nat) (h : a < s.size) :
    seqL (s.data.toList.drop a) = seqV s[a].toNat ((s.data.toList.drop a).getD 1 0).toNat (folB (s.data.toList.drop ((a : Int) + 1).toNat) 1) (folB (s.data.toList.drop ((a : Int) + 1).toNat) 2) (folB (s.data.toList.drop ((a : Int) + 1).toNat) 3) := by
  unfold seqL
  rw [seq_head s a h, drop_one]; rfl


end Go.Proofs.YtlbhelibgifaaaaDoor
