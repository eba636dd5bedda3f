/-
  The walk of spec.ValidPath (16).
-/
import Derived.Test.YtlbhelibgifaaaaDoorWalkE
namespace Go.Proofs.YtlbhelibgifaaaaDoor
open Go.RowKit
open Go.Lib (validD)

/-- A slice of strings of the call's own, read: its place and its cells. -/
theorem own_strs {w : World} {B : Nat} {v : Value} {es : List (List UInt8)} (h : w.ownsRow B 9 1 v es.length (es.map strV)) (hn : 0 < es.length) :
    ∃ g cap, v = .slice (some ⟨g, 0, none⟩) es.length cap ∧ B ≤ g ∧ g < w.heap.size ∧ es.length ≤ maxLen ∧ ∀ k (hk : k < es.length), w.cell? ⟨g, k, none⟩ = some (strV es[k]) := by
  rcases h.2 with ⟨_, h0⟩ | ⟨g, cap, cur, hv, hg, _, h3, h4, _⟩
  · omega
  · subst hv
    refine ⟨g, cap, rfl, hg, (h.lt g rfl).2, by omega, fun k hk => ?_⟩
    rw [h.cellAt k (by omega), List.getElem?_map, List.getElem?_eq_getElem hk]; rfl
theorem all_take_snoc {es : List (List UInt8)} {k : Nat} (hk : k < es.length) (h : (es.take k).all plainE = true) (hp : plainE es[k] = true) : (es.take (k + 1)).all plainE = true := by
  rw [List.take_succ_eq_append_getElem hk, List.all_append, h]
  simp [hp]
theorem all_not {es : List (List UInt8)} {k : Nat} (hk : k < es.length) (hp : plainE es[k] = false) : es.all plainE = false := by
  rw [List.all_eq_false]
  exact ⟨es[k], List.getElem_mem hk, by simp [hp]⟩

set_option maxRecDepth 100000 in
set_option maxHeartbeats 1000000 in
theorem spec_any (s : ByteArray) (w : World) (hs : s.size ≤ 8000000000000) :
    Calls Tryd.prog 16 #[.string s] w fun e w' => e = .returned (.bool (vp s.data.toList)) ∧ Below w.heap.size w w' := by
  have hc := whole_any s w (by omega)
  obtain ⟨A, hA⟩ : ∃ A, vp s.data.toList = A := ⟨_, rfl⟩
  rw [hA]
  unfold vp at hA
  generalize validD s.data.toList = V at hc hA
  have C := Lib.hid hc
  have HA := Lib.hid hA
  clear hc hA
  cases V
  · have hv : A = false := by rw [← HA.out]; rfl
    subst hv
    go_enter Tryd.func16, Tryd.ntmps16
    go_wp2_with fail
    ((with_reducible refine C.out.mono ?_); rintro e w1 ⟨rfl, rfl⟩)
    go_wp2_with fail
    go_ret
    exact ⟨rfl, Below.refl _ _⟩
  by_cases hd : s.toList = [46]
  · have hv : A = true := by rw [← HA.out, ← Lib.toList_data, hd]; rfl
    subst hv
    go_enter Tryd.func16, Tryd.ntmps16
    go_wp2_with fail
    ((with_reducible refine C.out.mono ?_); rintro e w1 ⟨rfl, rfl⟩)
    go_wp2_with fail
    go_ret
    exact ⟨rfl, Below.refl _ _⟩
  have hdb : (s.toList == [46]) = false := by simp [hd]
  have hv : (split s.data.toList).all plainE = A := by
    rw [← HA.out, ← Lib.toList_data, hdb]; simp
  have HV := Lib.hid hv
  have E := Lib.hid (elements_any s w hs)
  clear HA hv
  go_enter Tryd.func16, Tryd.ntmps16
  go_wp2_with fail
  ((with_reducible refine C.out.mono ?_); rintro e w1 ⟨rfl, rfl⟩)
  clear C
  go_wp2_with fail
  ((with_reducible refine E.out.mono ?_); rintro e w1 ⟨v, rfl, hown, hb⟩)
  clear E
  have hpos : 0 < (split s.data.toList).length := List.length_pos_iff.2 (split_ne _)
  generalize split s.data.toList = es at hown HV hpos
  obtain ⟨g, cap, hv, hg1, hg2, hlen, hcell⟩ := own_strs hown hpos
  clear hown hpos hdb hd
  rw [hv]
  clear hv
  unfold maxLen at hlen
  have HCELL := Lib.hid hcell
  clear hcell
  go_wp2_with fail
  go_loop [4] (fun i => ∃ k : Nat, k ≤ es.length ∧ i = .int .i64 k ∧ (es.take k).all plainE = true) (fun i => es.length - (intOf i).toNat)
  case atStart => exact ⟨0, Nat.zero_le _, rfl, rfl⟩
  case round =>
    obtain ⟨k, hk, rfl, hall⟩ := hrel
    have HALL := Lib.hid hall
    clear hall
    by_cases hlt : k < es.length
    · have hltz : (k : Int) < (es.length : Int) := by omega
      have hcell := HCELL.out k hlt
      have P := Lib.hid (plain_any ⟨es[k].toArray⟩ w1)
      have HP0 : Hid (plainE es[k] = false → A = false) := fun h => by rw [← HV.out]; exact all_not hlt h
      have HP1 : Hid (plainE es[k] = true → (es.take (k + 1)).all plainE = true) := fun h => all_take_snoc hlt HALL.out h
      unfold strV at hcell
      simp only at P
      generalize es[k] = x at hcell P HP0 HP1
      generalize plainE x = b at P HP0 HP1
      cases b
      · have hf := HP0.out rfl
        have HF := Lib.hid hf
        clear hf HP0 HP1
        go_wp2_with fail
        ((with_reducible refine P.out.mono ?_); rintro e w2 ⟨rfl, rfl⟩)
        go_wp2_with fail
        go_ret
        exact ⟨ret_bool HF.out.symm, hb⟩
      · have HN := Lib.hid (HP1.out rfl)
        clear HP0 HP1
        go_wp2_with fail
        ((with_reducible refine P.out.mono ?_); rintro e w2 ⟨rfl, rfl⟩)
        go_wp2_with fail
        go_round
        case rel => exact ⟨k + 1, by omega, by go_num, HN.out⟩
        case measure => simp [intOf]; omega
    · have hltz : ¬ ((k : Int) < (es.length : Int)) := by omega
      have hf : A = true := by
        have := HALL.out
        rw [List.take_of_length_le (by omega)] at this
        rw [← HV.out, this]
      have HF := Lib.hid hf
      clear hf
      go_wp2
      go_ret
      exact ⟨ret_bool HF.out.symm, hb⟩
end Go.Proofs.YtlbhelibgifaaaaDoor
