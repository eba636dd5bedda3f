/-
  The walks of io/fs.ValidPath (22) and impl.ValidPath (17).
-/
import Derived.Test.YtlbhelibgifaaaaDoorWalkC
import Derived.Test.YtlbhelibgifaaaaDoorShelf
import Derived.Deep.LoopGhost
namespace Go.Proofs.YtlbhelibgifaaaaDoor
open Go.RowKit
open Go.Lib (validD)

/-- A name's first element, and what stands behind its slash. -/
theorem split_first (l : List UInt8) (k : Nat) (hk : k < l.length) (h : l[k] = 47) (hno : (47 : UInt8) ∉ l.take k) : split l = l.take k :: split (l.drop (k + 1)) := by
  have e : l = l.take k ++ 47 :: l.drop (k + 1) := by
    conv => lhs; rw [← List.take_append_drop k l, List.drop_eq_getElem_cons hk, h]
  conv => lhs; rw [e]
  rw [split_slash, split_no _ hno]; rfl
theorem no_snoc (l : List UInt8) (k : Nat) (hk : k < l.length) (h : l[k] ≠ 47) (hno : (47 : UInt8) ∉ l.take k) : (47 : UInt8) ∉ l.take (k + 1) := by
  rw [List.take_succ_eq_append_getElem hk]
  intro m
  rcases List.mem_append.1 m with m | m
  · exact hno m
  · simp at m; exact h m.symm
theorem plain_no {l : List UInt8} (h : (l.isEmpty = true ∨ (l == [46]) = true) ∨ (l == [46, 46]) = true) : plainE l = false := by
  unfold plainE
  rw [← isEmpty_eq]
  rcases h with (h | h) | h <;> simp [h]
theorem plain_yes {l : List UInt8} (h : (l.isEmpty = false ∧ (l == [46]) = false) ∧ (l == [46, 46]) = false) : plainE l = true := by
  unfold plainE
  rw [← isEmpty_eq]
  simp [h.1.1, h.1.2, h.2]
theorem u8_ne {x : UInt8} {n : Nat} (h : x ≠ UInt8.ofNat n) : ((x.toNat : Int) == (n : Int)) = false := by
  have : x.toNat ≠ n := fun e => h (by rw [← e]; simp)
  simp; omega
theorem get_at (s : ByteArray) (k : Nat) (h : k < s.size) : s.data.toList[k]'(by simpa using h) = s[k] := by simp; rfl

set_option maxRecDepth 100000 in
set_option maxHeartbeats 1000000 in
theorem fs_any (s : ByteArray) (w : World) (hs : s.size ≤ 9223372036854775807) (hT : Tabs w) :
    Calls Tryd.prog 22 #[.string s] w fun e w' => e = .returned (.bool (vp s.data.toList)) ∧ Below w.heap.size w w' := by
  have hc := valid_any s w hs hT
  clear hT
  obtain ⟨A, hA⟩ : ∃ A, vp s.data.toList = A := ⟨_, rfl⟩
  rw [hA]
  unfold vp at hA
  generalize validD s.data.toList = V at hc hA
  have C := Lib.hid hc
  have HA := Lib.hid hA
  clear hc hA
  cases V
  · have hv : A = false := by rw [← HA.out]; rfl
    subst hv
    go_enter Tryd.func22, Tryd.ntmps22
    go_wp2_with fail
    ((with_reducible refine C.out.mono ?_); rintro e w1 ⟨rfl, hb⟩)
    go_wp2_with fail
    go_ret
    exact ⟨rfl, hb⟩
  by_cases hd : s.toList = [46]
  · have hv : A = true := by rw [← HA.out, ← Lib.toList_data, hd]; rfl
    subst hv
    go_enter Tryd.func22, Tryd.ntmps22
    go_wp2_with fail
    ((with_reducible refine C.out.mono ?_); rintro e w1 ⟨rfl, hb⟩)
    go_wp2_with fail
    go_ret
    exact ⟨rfl, hb⟩
  have hdb : (s.toList == [46]) = false := by simp [hd]
  have hv : (split s.data.toList).all plainE = A := by
    rw [← HA.out, ← Lib.toList_data, hdb]; simp
  have HV := Lib.hid hv
  clear HA hv
  go_enter Tryd.func22, Tryd.ntmps22
  go_wp2_with fail
  ((with_reducible refine C.out.mono ?_); rintro e w1 ⟨rfl, hb⟩)
  clear C
  go_wp2_with fail
  go_loopg [0] (s.size + 1) (fun gk s0 wx => Below w.heap.size w wx ∧ ∃ t : ByteArray, s0 = .string t ∧ (split t.data.toList).all plainE = A ∧ t.size < gk ∧ t.size ≤ 9223372036854775807)
  case atStart => exact ⟨hb, s, rfl, HV.out, by omega, hs⟩
  case round =>
    obtain ⟨hbw, t, rfl, hv, hg, hts⟩ := hrel
    clear hb hs HV hd hdb
    have HV := Lib.hid hv
    clear hv
    obtain ⟨wo, rfl⟩ : ∃ wo : World, wo = wr := ⟨_, rfl⟩
    go_wp2_with fail
    go_loop [3] (fun i => ∃ k : Nat, k ≤ t.size ∧ i = .int .i64 k ∧ (47 : UInt8) ∉ t.data.toList.take k) (fun i => t.size - (intOf i).toNat)
    case atStart => exact ⟨0, Nat.zero_le _, rfl, by simp⟩
    case round =>
      obtain ⟨k, hk, rfl, hno⟩ := hrel
      have HN := Lib.hid hno
      clear hno
      by_cases hlt : k < t.size
      · have hkz : (k : Int) < (t.size : Int) := by omega
        obtain ⟨x, hx⟩ : ∃ x, t[k] = x := ⟨_, rfl⟩
        by_cases h47 : x = 47
        · subst h47
          have hsp := split_first t.data.toList k (by simpa using hlt) (by rw [get_at t k hlt]; exact hx) HN.out
          have hv := HV.out
          have e0 : t.data.toList.take k = (t.extract 0 k).toList := by rw [Lib.extract_toList]; simp
          have e1 : t.data.toList.drop (k + 1) = (t.extract (k + 1) t.size).data.toList := by
            rw [Lib.extract_data, List.take_of_length_le (by simp)]
          have ez : (t.extract (k + 1) t.size).size = t.size - (k + 1) := by simp
          rw [hsp, List.all_cons, e0, e1] at hv
          have HF : Hid (plainE (t.extract 0 k).toList = false → A = false) := fun h => by rw [← hv, h]; rfl
          have HR : Hid (plainE (t.extract 0 k).toList = true → (split (t.extract (k + 1) t.size).data.toList).all plainE = A) := fun h => by rw [← hv, h]; rfl
          have HZ := Lib.hid ez
          clear hv hsp e0 e1 HV HN ez
          go_wp2
          · rename_i h _
            have hf := HF.out (plain_no (.inl (.inl (by rw [h]; rfl))))
            go_ret
            exact ⟨ret_bool hf.symm, hbw⟩
          · rename_i h _
            have hf := HF.out (plain_no (.inl (.inr (by rw [h]; rfl))))
            go_ret
            exact ⟨ret_bool hf.symm, hbw⟩
          · rename_i h _
            have hf := HF.out (plain_no h)
            go_ret
            exact ⟨ret_bool hf.symm, hbw⟩
          · rename_i h _ _
            have hr := HR.out (plain_yes h)
            have hz := HZ.out
            obtain ⟨g', rfl⟩ : ∃ g', gk = g' + 1 := ⟨gk - 1, by omega⟩
            go_roundg g'
            case measure => omega
            case rel => exact ⟨hbw, _, rfl, hr, by omega, by omega⟩
        · have hne : ((x.toNat : Int) != 47) = true := by
            have := u8_ne (n := 47) h47
            simpa using this
          have hne2 : ((x.toNat : Int) == 47) = false := by simpa using hne
          have HN2 := Lib.hid (no_snoc t.data.toList k (by simpa using hlt) (by rw [get_at t k hlt, hx]; exact h47) HN.out)
          go_wp2
          go_round
          case rel => exact ⟨k + 1, by omega, by go_num, HN2.out⟩
          case measure => simp [intOf]; omega
      · obtain rfl : k = t.size := by omega
        have hno := HN.out
        rw [List.take_of_length_le (by simp)] at hno
        have hv := HV.out
        rw [split_no _ hno, ← Lib.toList_data, List.all_cons, List.all_nil, Bool.and_true] at hv
        have HF : Hid (plainE t.toList = false → A = false) := fun h => by rw [← hv, h]
        have HR : Hid (plainE t.toList = true → A = true) := fun h => by rw [← hv, h]
        clear hv HV HN hno
        go_wp2
        · rename_i h _
          have hf := HF.out (plain_no (.inl (.inl (by rw [h]; rfl))))
          go_ret
          exact ⟨ret_bool hf.symm, hbw⟩
        · rename_i h _
          have hf := HF.out (plain_no (.inl (.inr (by rw [h]; rfl))))
          go_ret
          exact ⟨ret_bool hf.symm, hbw⟩
        · rename_i h _
          have hf := HF.out (plain_no h)
          go_ret
          exact ⟨ret_bool hf.symm, hbw⟩
        · have hr := HR.out (plain_yes ‹(t.toList.isEmpty = false ∧ (t.toList == [46]) = false) ∧ (t.toList == [46, 46]) = false›)
          go_ret
          exact ⟨ret_bool hr.symm, hbw⟩
theorem impl_any (s : ByteArray) (w : World) (hs : s.size ≤ 9223372036854775807) (hT : Tabs w) :
    Calls Tryd.prog 17 #[.string s] w fun e w' => e = .returned (.bool (vp s.data.toList)) ∧ Below w.heap.size w w' := by
  have hc := fs_any s w hs hT
  generalize vp s.data.toList = A at hc ⊢
  have C := Lib.hid hc
  clear hc hT
  go_enter Tryd.func17, Tryd.ntmps17
  go_wp2_with fail
  ((with_reducible refine C.out.mono ?_); rintro e w1 ⟨rfl, hb⟩)
  go_wp2_with fail
  go_ret
  exact ⟨rfl, hb⟩
end Go.Proofs.YtlbhelibgifaaaaDoor
