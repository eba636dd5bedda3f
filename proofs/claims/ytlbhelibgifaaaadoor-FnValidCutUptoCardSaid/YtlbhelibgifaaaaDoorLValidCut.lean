/-
  laws.FnValidCut returns true: both parts of a name that fs.ValidPath takes, around each of its slashes, are valid for it too, and a name that it does not take is none of the reference's. Conditions: the argument holds at most 1048576 values and letters; the two tables of unicode/utf8 lie as listed, which the card ties to the program's text.
-/
import Derived.Test.YtlbhelibgifaaaaDoorBase
import Derived.Test.YtlbhelibgifaaaaDoorWalkG
namespace Go.Proofs.YtlbhelibgifaaaaDoor.fnValidCut
open Go.ChangeShapes Go.WideShapes Go.ChangeAt Go.RowKit
open Go.ChangeMaps (open_string shut_string)
open Go.Lib (validD)

theorem cut_parts (s : ByteArray) (k : Nat) (hk : k < s.size) (hx : s[k] = 47) (hv : vp s.data.toList = true) : vp (s.extract 0 k).data.toList = true ∧ vp (s.extract (k + 1) s.size).data.toList = true := by
  have hl : k < s.data.toList.length := by simpa using hk
  have e : s.data.toList = s.data.toList.take k ++ 47 :: s.data.toList.drop (k + 1) := by
    conv => lhs; rw [← List.take_append_drop k s.data.toList, List.drop_eq_getElem_cons hl, get_at s k hk, hx]
  rw [e] at hv
  have e1 : (s.extract 0 k).data.toList = s.data.toList.take k := by rw [Lib.extract_data]; simp
  have e2 : (s.extract (k + 1) s.size).data.toList = s.data.toList.drop (k + 1) := by rw [Lib.extract_data, List.take_of_length_le (by simp)]
  rw [e1, e2]
  exact vp_cut _ _ hv
set_option maxRecDepth 100000 in
set_option maxHeartbeats 1000000 in
theorem walk (s : ByteArray) (w : World) (hs : s.size ≤ 1048576) (hT : Tabs w) :
    Calls Tryd.prog 6 #[.string s] w fun e w' => e = .returned (.bool true) ∧ Below w.heap.size w w' := by
  have c0 : ∀ W, Below w.heap.size w W → Calls Tryd.prog 17 #[.string s] W _ := fun W hb => impl_in _ w W (by omega) hT hb
  have c1 : ∀ W, Below w.heap.size w W → Calls Tryd.prog 16 #[.string s] W _ := fun W hb => spec_in _ w W (by omega) hb
  have hcut : ∀ (k : Nat) (hk : k < s.size), s[k] = 47 → vp s.data.toList = true → vp (s.extract 0 k).data.toList = true ∧ vp (s.extract (k + 1) s.size).data.toList = true := fun k hk hx hv => cut_parts s k hk hx hv
  generalize vp s.data.toList = v at c0 c1 hcut
  have C0 := Lib.hid c0
  have C1 := Lib.hid c1
  have HC := Lib.hid hcut
  have HT := Lib.hid hT
  clear c0 c1 hcut hT
  have hb := Below.refl w.heap.size w
  cases v
  · go_enter Tryd.func6, Tryd.ntmps6
    go_wp2_with fail
    ((with_reducible refine (C0.out _ hb).mono ?_); clear hb; rintro e w1 ⟨rfl, hb⟩)
    go_wp2_with fail
    ((with_reducible refine (C1.out _ hb).mono ?_); clear hb; rintro e w1 ⟨rfl, hb⟩)
    go_wp2_with fail
    go_ret
    exact ⟨rfl, hb⟩
  · go_enter Tryd.func6, Tryd.ntmps6
    go_wp2_with fail
    ((with_reducible refine (C0.out _ hb).mono ?_); clear hb; rintro e w1 ⟨rfl, hb⟩)
    go_wp2_with fail
    go_loopw [3] (fun i wr => ∃ k : Nat, k ≤ s.size ∧ i = .int .i64 k ∧ Below w.heap.size w wr) (fun i _ => s.size - (intOf i).toNat)
    case atStart => exact ⟨0, Nat.zero_le _, rfl, hb⟩
    case round =>
      clear hb C0 C1
      obtain ⟨k, hk, rfl, hb⟩ := hrel
      by_cases hlt : k < s.size
      · have hltz : (k : Int) < (s.size : Int) := by omega
        obtain ⟨x, hx⟩ : ∃ x, s[k] = x := ⟨_, rfl⟩
        by_cases h47 : x = 47
        · subst h47
          obtain ⟨v1, v2⟩ := HC.out k hlt hx (by trivial)
          have c1 : ∀ W, Below w.heap.size w W → Calls Tryd.prog 17 #[.string (s.extract 0 k)] W _ := fun W hb => impl_in _ w W (by simp; omega) HT.out hb
          have c2 : ∀ W, Below w.heap.size w W → Calls Tryd.prog 17 #[.string (s.extract (k + 1) s.size)] W _ := fun W hb => impl_in _ w W (by simp; omega) HT.out hb
          rw [v1] at c1
          rw [v2] at c2
          have C1 := Lib.hid c1
          have C2 := Lib.hid c2
          clear c1 c2 v1 v2
          go_wp2_with fail
          ((with_reducible refine (C1.out _ hb).mono ?_); clear hb; rintro e w1 ⟨rfl, hb⟩)
          go_wp2_with fail
          ((with_reducible refine (C2.out _ hb).mono ?_); clear hb; rintro e w1 ⟨rfl, hb⟩)
          go_wp2_with fail
          go_roundw
          case rel => exact ⟨k + 1, by omega, by go_num, hb⟩
          case measure => simp [intOf]; omega
        · have hx2 : ((x.toNat : Int) == 47) = false := u8_ne (n := 47) h47
          go_wp2_with fail
          go_roundw
          case rel => exact ⟨k + 1, by omega, by go_num, hb⟩
          case measure => simp [intOf]; omega
      · have hltz : ¬ ((k : Int) < (s.size : Int)) := by omega
        go_wp2_with fail
        go_ret
        exact ⟨rfl, hb⟩

/-- The walk, for every argument that can be read. -/
theorem contract (H : Type) (enc : TypeId × Value → H) (F : Stop.Interp) (W : World) (base : Nat) (args : Array Value) (ds gs : List (DataW H)) (before : List MemPlace)
    (hval : ∀ (j : Nat) t v, Tryd.f6.params[j]? = some t → args[j]? = some v → Value.okWide Tryd.prog W .any base t v)
    (hW : DataW.Whole enc Tryd.prog Tryd.f6.params.toList Rows.fnValidCutSpec.vars false W args.toList ds gs before) (hk : Rows.uptoSmall H (ds ++ gs) = true) (hT : Tabs W) :
    Calls Tryd.prog 6 args W fun e W' => ∃ v, e = .returned v ∧ ((Rows.OpenSpec.upto Rows.fnValidCutSpec).at F).post enc Tryd.prog Tryd.f6 false true false false W args v W' := by
  have hW' := hW
  obtain ⟨p, q, hA0, hV, rfl, hfz, hnd⟩ := hW
  have hA : DataW.TrodAll enc Tryd.prog W 0 (fun _ => true) true Tryd.f6.params.toList args.toList ds p := hA0
  rw [Tryd.params6] at hA hval
  obtain ⟨v0, d0, rfl, rfl, h0⟩ := trodAll_one hA
  obtain ⟨rfl, rfl⟩ := trodVars_none hV
  obtain ⟨s0, rfl, rfl, rfl, ws0⟩ := open_string Tryd.underlying9 (hval 0 9 v0 rfl rfl) h0
  clear hA0 hV
  simp only [List.append_nil] at hW' hk
  have hb : Rows.uptoBulkAll ([.lit (.string s0.data.toList)] : List (DataW H)) ≤ 1048576 := of_decide_eq_true hk
  simp only [Rows.uptoBulkAll, Rows.uptoBulk, Array.length_toList, ByteArray.size_data] at hb
  refine (walk s0 W (by omega) hT).mono ?_
  rintro e W' ⟨rfl, bel⟩
  have e1 : ((Rows.OpenSpec.upto Rows.fnValidCutSpec).at F).fn H ([.lit (.string s0.data.toList)] ++ []) = { results := [.lit (.bool true)], args := [.lit (.string s0.data.toList)] } := rfl
  refine ⟨_, rfl, _, _, _, [], [], [], hW', ?_, ?_, ?_, bel.frame _, fun h => by cases h⟩
  · rw [e1]; exact trodAll_mk1 (shut_bool Tryd.underlying4 _)
  · rw [e1]; exact trodAll_mk1 (shut_string Tryd.underlying9 ws0)
  · rw [e1]; rfl

theorem reads (os : Os) {H : Type} (enc : TypeId × Value → H) : ∃ places, DataW.whole enc Tryd.prog ((laidWorld os).forCall (fun _ _ => 0) ⟨#[], #[.string ⟨#[]⟩], []⟩).memory Tryd.f6.params.toList Rows.fnValidCutSpec.vars false #[Value.string ⟨#[]⟩].toList 8 = some ([.lit (.string [])], [], places) :=
  ⟨[], by kernel_rfl⟩

set_option maxRecDepth 100000 in
theorem lifted (os : Os) (started : os.Started) (H : Type) (enc : TypeId × Value → H) (F : Stop.Interp) :
    ReturnsInHanded {} Tryd.checked os 6 .any ((Rows.OpenSpec.upto Rows.fnValidCutSpec).preRow enc Tryd.prog Tryd.f6 Rows.fnValidCutUptoRow.domain false Rows.fnValidCutUptoRow.laid) (((Rows.OpenSpec.upto Rows.fnValidCutSpec).at F).post enc Tryd.prog Tryd.f6 false true false false) := by
  obtain ⟨places, hx⟩ := reads os enc
  refine returnsInHanded_of_row (C := Tryd.checked) (s := (Rows.OpenSpec.upto Rows.fnValidCutSpec)) own started (by kernel_rfl) Tryd.func6
    (witness_row_at (enc := enc) (C := Tryd.checked) false (laidWorld os) #[.string ⟨#[]⟩] rfl (by kernel_rfl) (by kernel_rfl) (by kernel_rfl)
      (OpenSpec.preRow_of_cond 8 hx (by kernel_rfl) (fun k hk => by cases hk; kernel_rfl) (by kernel_rfl) (laid_met os _))) ?_
  intro W base args ds gs before hval hW _ hcond _ hL _ _
  exact contract H enc F W base args ds gs before hval hW (hcond _ rfl) (tabs_of hL)

theorem said : Rows.FnValidCutUptoSaid :=
  OpenClaim.holds_of_cond 6 Tryd.f6 rfl rfl rfl rfl rfl rfl rfl ⟨rfl, rfl, rfl, rfl, rfl⟩ rfl rfl rfl rfl rfl (by kernel_rfl) Tryd.func6 (by kernel_rfl)
    (of_decide_eq_true (by kernel_rfl)) (by unfold Func.isWrapper; first | (rw [if_pos (by decide +kernel)]; kernel_rfl) | (rw [if_neg (by decide +kernel)]; exact ⟨rfl, rfl⟩))
    (fun os started H enc _ F => by rw [OpenClaim.pre_eq_preRow]; exact lifted os started H enc F)

theorem plain (f : FuncId) (fn : Func) (hf : Tryd.pinned.checked.prog.funcNamed Rows.fnValidCutUptoRow.func = some f) (hfn : Tryd.pinned.checked.prog.funcs[f]? = some fn) :
    false = Tryd.pinned.checked.prog.looks [] ∧ ∀ (j : Nat) t, fn.params[j]? = some t → Tryd.pinned.checked.prog.wantsStandIn t = false := by
  obtain rfl : f = 6 := Option.some.inj ((show Tryd.prog.funcNamed Rows.fnValidCutUptoRow.func = some 6 by kernel_rfl).symm.trans hf) |>.symm
  obtain rfl : fn = Tryd.f6 := (Option.some.inj (Tryd.func6.symm.trans hfn)).symm
  refine ⟨by kernel_rfl, fun j t ht => ?_⟩
  rw [Tryd.params6] at ht
  obtain rfl : t = 9 := by simpa using Array.mem_of_getElem? ht
  exact (show Tryd.prog.wantsStandIn 9 = false by kernel_rfl)

/-- The card. -/
theorem card : Rows.FnValidCutUptoCardSaid :=
  Claim7.holds_tied_plain_at .later [] _ _ _ _ said (fun _ h => by cases h) (by kernel_rfl) (fun _ h => by cases h) fnValidCutUpto_row_tie rfl ⟨rfl, rfl⟩ (by kernel_rfl) rfl plain (by kernel_rfl)
#print axioms card
end Go.Proofs.YtlbhelibgifaaaaDoor.fnValidCut
