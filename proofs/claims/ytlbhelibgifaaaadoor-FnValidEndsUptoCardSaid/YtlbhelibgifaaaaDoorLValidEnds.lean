/-
  laws.FnValidEnds returns true: a name that fs.ValidPath takes neither begins nor ends with a slash, has no two beside each other, and is not taken with one at an end; a name that it does not take is none of the reference's. Conditions: the argument holds at most 1048576 values and letters; the two tables of unicode/utf8 lie as listed, which the card ties to the program's text.
-/
import Derived.Test.YtlbhelibgifaaaaDoorBase
import Derived.Test.YtlbhelibgifaaaaDoorWalkG
namespace Go.Proofs.YtlbhelibgifaaaaDoor.fnValidEnds
open Go.ChangeShapes Go.WideShapes Go.ChangeAt Go.RowKit
open Go.ChangeMaps (open_string shut_string)
open Go.Lib (validD)

theorem pos_of (s : ByteArray) (hv : vp s.data.toList = true) : 0 < s.size := by
  rw [← len_list s]
  refine List.length_pos_iff.2 (fun e => ?_)
  rw [e, vp_nil] at hv; cases hv
theorem first_of (s : ByteArray) (h : 0 < s.size) (hv : vp s.data.toList = true) : s[0] ≠ 47 := by
  intro e
  have hl : 0 < s.data.toList.length := by simpa using h
  have ee : s.data.toList = 47 :: s.data.toList.drop 1 := by
    conv => lhs; rw [← List.drop_zero (l := s.data.toList), List.drop_eq_getElem_cons hl, get_at s 0 h, e]
  rw [ee, vp_head] at hv; cases hv
theorem last_of (s : ByteArray) (h : s.size - 1 < s.size) (hv : vp s.data.toList = true) : s[s.size - 1] ≠ 47 := by
  intro e
  have g := get_at s (s.size - 1) h
  have hne : s.data.toList ≠ [] := by
    intro e'; have := congrArg List.length e'; rw [len_list, List.length_nil] at this; omega
  have hd := List.dropLast_concat_getLast hne
  rw [List.getLast_eq_getElem] at hd
  simp only [len_list] at hd
  rw [g, e] at hd
  rw [← hd, vp_last] at hv; cases hv
theorem none_of (s : ByteArray) (k : Nat) (h : k < s.size) (h' : k + 1 < s.size) (hv : vp s.data.toList = true) (e : s[k] = 47) : s[k + 1] ≠ 47 := by
  intro e'
  have hl : k < s.data.toList.length := by simpa using h
  have hl' : k + 1 < s.data.toList.length := by simpa using h'
  have ee : s.data.toList = s.data.toList.take k ++ 47 :: 47 :: s.data.toList.drop (k + 2) := by
    conv => lhs; rw [← List.take_append_drop k s.data.toList, List.drop_eq_getElem_cons hl, get_at s k h, e, List.drop_eq_getElem_cons hl', get_at s (k + 1) h', e']
  rw [ee, vp_two] at hv; cases hv
set_option maxRecDepth 100000 in
set_option maxHeartbeats 1000000 in
theorem walk (s : ByteArray) (w : World) (hs : s.size ≤ 1048576) (hT : Tabs w) :
    Calls Tryd.prog 9 #[.string s] w fun e w' => e = .returned (.bool true) ∧ Below w.heap.size w w' := by
  have c0 : ∀ W, Below w.heap.size w W → Calls Tryd.prog 17 #[.string s] W _ := fun W hb => impl_in _ w W (by omega) hT hb
  have c1 : ∀ W, Below w.heap.size w W → Calls Tryd.prog 16 #[.string s] W _ := fun W hb => spec_in _ w W (by omega) hb
  have z2 : ((⟨#[47]⟩ : ByteArray) ++ s).size ≤ 9223372036854775807 := by rw [cat_size]; show 1 + s.size ≤ _; omega
  have z3 : (s ++ (⟨#[47]⟩ : ByteArray)).size ≤ 9223372036854775807 := by rw [cat_size]; show s.size + 1 ≤ _; omega
  have c2 : ∀ W, Below w.heap.size w W → Calls Tryd.prog 17 #[.string (⟨#[47]⟩ ++ s)] W _ := fun W hb => impl_in _ w W z2 hT hb
  have c3 : ∀ W, Below w.heap.size w W → Calls Tryd.prog 17 #[.string (s ++ ⟨#[47]⟩)] W _ := fun W hb => impl_in _ w W z3 hT hb
  have v2 : vp ((⟨#[47]⟩ : ByteArray) ++ s).data.toList = false := by rw [cat_list]; exact vp_head _
  have v3 : vp (s ++ (⟨#[47]⟩ : ByteArray)).data.toList = false := by rw [cat_list]; exact vp_last _
  rw [v2] at c2
  rw [v3] at c3
  have C2 := Lib.hid c2
  have C3 := Lib.hid c3
  clear c2 c3 v2 v3 z2 z3 hT
  have hpos := pos_of s
  have hfirst := first_of s
  have hlast := last_of s
  have hnone := none_of s
  generalize vp s.data.toList = v at c0 c1 hpos hfirst hlast hnone
  have C0 := Lib.hid c0
  have C1 := Lib.hid c1
  clear c0 c1
  have hb := Below.refl w.heap.size w
  cases v
  · clear hpos hfirst hlast hnone
    go_enter Tryd.func9, Tryd.ntmps9
    go_wp2_with fail
    ((with_reducible refine (C0.out _ hb).mono ?_); clear hb; rintro e w1 ⟨rfl, hb⟩)
    go_wp2_with fail
    ((with_reducible refine (C1.out _ hb).mono ?_); clear hb; rintro e w1 ⟨rfl, hb⟩)
    go_wp2_with fail
    go_ret
    exact ⟨rfl, hb⟩
  · have h0 := hpos rfl
    have hl : s.size - 1 < s.size := by omega
    have hf := hfirst h0 rfl
    have hla := hlast hl rfl
    have HN : Hid (∀ (k : Nat) (h : k < s.size) (h' : k + 1 < s.size), s[k] = 47 → s[k + 1] ≠ 47) := fun k h h' e => hnone k h h' rfl e
    clear hpos hfirst hlast hnone
    obtain ⟨x, hx⟩ : ∃ x, s[0] = x := ⟨_, rfl⟩
    obtain ⟨y, hy⟩ : ∃ y, s[s.size - 1] = y := ⟨_, rfl⟩
    rw [hx] at hf
    rw [hy] at hla
    have hf1 : ((x.toNat : Int) == 47) = false := u8_ne (n := 47) hf
    have hl1 : ((y.toNat : Int) == 47) = false := u8_ne (n := 47) hla
    have hem : s.toList.isEmpty = false := by
      rw [Lib.toList_data]
      cases e : s.data.toList with
      | nil => have := congrArg List.length e; rw [len_list, List.length_nil] at this; omega
      | cons c t => rfl
    have hem2 : ¬ s.toList = [] := by intro e; rw [e] at hem; cases hem
    have h0z : (0 : Int) < (s.size : Int) := by omega
    clear hf hla
    go_enter Tryd.func9, Tryd.ntmps9
    go_wp2_with fail
    ((with_reducible refine (C0.out _ hb).mono ?_); clear hb; rintro e w1 ⟨rfl, hb⟩)
    go_wp2_with fail
    go_loop [3] (fun i => ∃ k : Nat, k < s.size ∧ i = .int .i64 k) (fun i => s.size - (intOf i).toNat)
    case atStart => exact ⟨0, h0, rfl⟩
    case round =>
      clear C0 C1 hx hy hf1 hl1 hem hem2
      obtain ⟨k, hk, rfl⟩ := hrel
      have hkz : (k : Int) < (s.size : Int) := by omega
      by_cases hlt : k + 1 < s.size
      · have hltz : (k : Int) + 1 < (s.size : Int) := by omega
        obtain ⟨p, hp⟩ : ∃ p, s[k] = p := ⟨_, rfl⟩
        obtain ⟨q, hq⟩ : ∃ q, s[k + 1] = q := ⟨_, rfl⟩
        by_cases h47 : p = 47
        · subst h47
          have hne := HN.out k hk hlt hp
          rw [hq] at hne
          have hq2 : ((q.toNat : Int) == 47) = false := u8_ne (n := 47) hne
          clear hne
          go_wp2_with fail
          go_round
          case rel => exact ⟨k + 1, by omega, by go_num⟩
          case measure => simp [intOf]; omega
        · have hp2 : ((p.toNat : Int) == 47) = false := u8_ne (n := 47) h47
          clear h47
          go_wp2_with fail
          go_round
          case rel => exact ⟨k + 1, by omega, by go_num⟩
          case measure => simp [intOf]; omega
      · have hltz : ¬ ((k : Int) + 1 < (s.size : Int)) := by omega
        go_wp2_with fail
        ((with_reducible refine (C2.out _ hb).mono ?_); clear hb; rintro e w1 ⟨rfl, hb⟩)
        go_wp2_with fail
        ((with_reducible refine (C3.out _ hb).mono ?_); clear hb; rintro e w1 ⟨rfl, hb⟩)
        go_wp2_with fail
        go_ret
        exact ⟨rfl, hb⟩

/-- The walk, for every argument that can be read. -/
theorem contract (H : Type) (enc : TypeId × Value → H) (F : Stop.Interp) (W : World) (base : Nat) (args : Array Value) (ds gs : List (DataW H)) (before : List MemPlace)
    (hval : ∀ (j : Nat) t v, Tryd.f9.params[j]? = some t → args[j]? = some v → Value.okWide Tryd.prog W .any base t v)
    (hW : DataW.Whole enc Tryd.prog Tryd.f9.params.toList Rows.fnValidEndsSpec.vars false W args.toList ds gs before) (hk : Rows.uptoSmall H (ds ++ gs) = true) (hT : Tabs W) :
    Calls Tryd.prog 9 args W fun e W' => ∃ v, e = .returned v ∧ ((Rows.OpenSpec.upto Rows.fnValidEndsSpec).at F).post enc Tryd.prog Tryd.f9 false true false false W args v W' := by
  have hW' := hW
  obtain ⟨p, q, hA0, hV, rfl, hfz, hnd⟩ := hW
  have hA : DataW.TrodAll enc Tryd.prog W 0 (fun _ => true) true Tryd.f9.params.toList args.toList ds p := hA0
  rw [Tryd.params9] at hA hval
  obtain ⟨v0, d0, rfl, rfl, h0⟩ := trodAll_one hA
  obtain ⟨rfl, rfl⟩ := trodVars_none hV
  obtain ⟨s0, rfl, rfl, rfl, ws0⟩ := open_string Tryd.underlying9 (hval 0 9 v0 rfl rfl) h0
  clear hA0 hV
  simp only [List.append_nil] at hW' hk
  have hb : Rows.uptoBulkAll ([.lit (.string s0.data.toList)] : List (DataW H)) ≤ 1048576 := of_decide_eq_true hk
  simp only [Rows.uptoBulkAll, Rows.uptoBulk, Array.length_toList, ByteArray.size_data] at hb
  refine (walk s0 W (by omega) hT).mono ?_
  rintro e W' ⟨rfl, bel⟩
  have e1 : ((Rows.OpenSpec.upto Rows.fnValidEndsSpec).at F).fn H ([.lit (.string s0.data.toList)] ++ []) = { results := [.lit (.bool true)], args := [.lit (.string s0.data.toList)] } := rfl
  refine ⟨_, rfl, _, _, _, [], [], [], hW', ?_, ?_, ?_, bel.frame _, fun h => by cases h⟩
  · rw [e1]; exact trodAll_mk1 (shut_bool Tryd.underlying4 _)
  · rw [e1]; exact trodAll_mk1 (shut_string Tryd.underlying9 ws0)
  · rw [e1]; rfl

theorem reads (os : Os) {H : Type} (enc : TypeId × Value → H) : ∃ places, DataW.whole enc Tryd.prog ((laidWorld os).forCall (fun _ _ => 0) ⟨#[], #[.string ⟨#[]⟩], []⟩).memory Tryd.f9.params.toList Rows.fnValidEndsSpec.vars false #[Value.string ⟨#[]⟩].toList 8 = some ([.lit (.string [])], [], places) :=
  ⟨[], by kernel_rfl⟩

set_option maxRecDepth 100000 in
theorem lifted (os : Os) (started : os.Started) (H : Type) (enc : TypeId × Value → H) (F : Stop.Interp) :
    ReturnsInHanded {} Tryd.checked os 9 .any ((Rows.OpenSpec.upto Rows.fnValidEndsSpec).preRow enc Tryd.prog Tryd.f9 Rows.fnValidEndsUptoRow.domain false Rows.fnValidEndsUptoRow.laid) (((Rows.OpenSpec.upto Rows.fnValidEndsSpec).at F).post enc Tryd.prog Tryd.f9 false true false false) := by
  obtain ⟨places, hx⟩ := reads os enc
  refine returnsInHanded_of_row (C := Tryd.checked) (s := (Rows.OpenSpec.upto Rows.fnValidEndsSpec)) own started (by kernel_rfl) Tryd.func9
    (witness_row_at (enc := enc) (C := Tryd.checked) false (laidWorld os) #[.string ⟨#[]⟩] rfl (by kernel_rfl) (by kernel_rfl) (by kernel_rfl)
      (OpenSpec.preRow_of_cond 8 hx (by kernel_rfl) (fun k hk => by cases hk; kernel_rfl) (by kernel_rfl) (laid_met os _))) ?_
  intro W base args ds gs before hval hW _ hcond _ hL _ _
  exact contract H enc F W base args ds gs before hval hW (hcond _ rfl) (tabs_of hL)

theorem said : Rows.FnValidEndsUptoSaid :=
  OpenClaim.holds_of_cond 9 Tryd.f9 rfl rfl rfl rfl rfl rfl rfl ⟨rfl, rfl, rfl, rfl, rfl⟩ rfl rfl rfl rfl rfl (by kernel_rfl) Tryd.func9 (by kernel_rfl)
    (of_decide_eq_true (by kernel_rfl)) (by unfold Func.isWrapper; first | (rw [if_pos (by decide +kernel)]; kernel_rfl) | (rw [if_neg (by decide +kernel)]; exact ⟨rfl, rfl⟩))
    (fun os started H enc _ F => by rw [OpenClaim.pre_eq_preRow]; exact lifted os started H enc F)

theorem plain (f : FuncId) (fn : Func) (hf : Tryd.pinned.checked.prog.funcNamed Rows.fnValidEndsUptoRow.func = some f) (hfn : Tryd.pinned.checked.prog.funcs[f]? = some fn) :
    false = Tryd.pinned.checked.prog.looks [] ∧ ∀ (j : Nat) t, fn.params[j]? = some t → Tryd.pinned.checked.prog.wantsStandIn t = false := by
  obtain rfl : f = 9 := Option.some.inj ((show Tryd.prog.funcNamed Rows.fnValidEndsUptoRow.func = some 9 by kernel_rfl).symm.trans hf) |>.symm
  obtain rfl : fn = Tryd.f9 := (Option.some.inj (Tryd.func9.symm.trans hfn)).symm
  refine ⟨by kernel_rfl, fun j t ht => ?_⟩
  rw [Tryd.params9] at ht
  obtain rfl : t = 9 := by simpa using Array.mem_of_getElem? ht
  exact (show Tryd.prog.wantsStandIn 9 = false by kernel_rfl)

/-- The card. -/
theorem card : Rows.FnValidEndsUptoCardSaid :=
  Claim7.holds_tied_plain_at .later [] _ _ _ _ said (fun _ h => by cases h) (by kernel_rfl) (fun _ h => by cases h) fnValidEndsUpto_row_tie rfl ⟨rfl, rfl⟩ (by kernel_rfl) rfl plain (by kernel_rfl)
#print axioms card
end Go.Proofs.YtlbhelibgifaaaaDoor.fnValidEnds
