/-
  laws.FnValidJoin returns true: two names with a slash between are valid for fs.ValidPath just if both are and neither is a dot, as the reference says of each. Conditions: the arguments hold together at most 1048576 values and letters; the two tables of unicode/utf8 lie as listed, which the card ties to the program's text.
-/
import Derived.Test.YtlbhelibgifaaaaDoorBase
import Derived.Test.YtlbhelibgifaaaaDoorWalkG
namespace Go.Proofs.YtlbhelibgifaaaaDoor.fnValidJoin
open Go.ChangeShapes Go.WideShapes Go.ChangeAt Go.RowKit
open Go.ChangeMaps (open_string shut_string)
open Go.Lib (validD)

set_option maxRecDepth 100000 in
set_option maxHeartbeats 2000000 in
theorem walk (a b : ByteArray) (w : World) (hs : a.size + b.size ≤ 1048576) (hT : Tabs w) :
    Calls Tryd.prog 10 #[.string a, .string b] w fun e w' => e = .returned (.bool true) ∧ Below w.heap.size w w' := by
  have z1 : (a ++ (⟨#[47]⟩ : ByteArray) ++ b).size ≤ 9223372036854775807 := by rw [cat_size, cat_size]; show a.size + 1 + b.size ≤ _; omega
  have c1 : ∀ W, Below w.heap.size w W → Calls Tryd.prog 17 #[.string a] W _ := fun W hb => impl_in _ w W (by omega) hT hb
  have c2 : ∀ W, Below w.heap.size w W → Calls Tryd.prog 17 #[.string b] W _ := fun W hb => impl_in _ w W (by omega) hT hb
  have c3 : ∀ W, Below w.heap.size w W → Calls Tryd.prog 17 #[.string (a ++ ⟨#[47]⟩ ++ b)] W _ := fun W hb => impl_in _ w W z1 hT hb
  have c4 : ∀ W, Below w.heap.size w W → Calls Tryd.prog 16 #[.string a] W _ := fun W hb => spec_in _ w W (by omega) hb
  have c5 : ∀ W, Below w.heap.size w W → Calls Tryd.prog 16 #[.string b] W _ := fun W hb => spec_in _ w W (by omega) hb
  have hv : vp (a ++ (⟨#[47]⟩ : ByteArray) ++ b).data.toList = (vp a.data.toList && vp b.data.toList && !(a.toList == [46]) && !(b.toList == [46])) := by
    rw [cat_list, cat_list]
    show vp (a.data.toList ++ [47] ++ b.data.toList) = _
    rw [List.append_assoc, ← dot_toList, ← dot_toList]; exact vp_join _ _
  rw [hv] at c3
  clear hv z1 hT
  generalize vp a.data.toList = va at c1 c3 c4
  generalize vp b.data.toList = vb at c2 c3 c5
  obtain ⟨da, hda⟩ : ∃ d, (a.toList == [46]) = d := ⟨_, rfl⟩
  obtain ⟨db, hdb⟩ : ∃ d, (b.toList == [46]) = d := ⟨_, rfl⟩
  rw [hda, hdb] at c3
  have C1 := Lib.hid c1
  have C2 := Lib.hid c2
  have C3 := Lib.hid c3
  have C4 := Lib.hid c4
  have C5 := Lib.hid c5
  clear c1 c2 c3 c4 c5
  have hb := Below.refl w.heap.size w
  cases va <;> cases vb <;> cases da <;> cases db
  all_goals
    simp only [Bool.and_false, Bool.and_true, Bool.not_true, Bool.not_false] at C3
    go_enter Tryd.func10, Tryd.ntmps10
    repeat (go_wp2_with fail; first | ((with_reducible refine (C1.out _ hb).mono ?_); clear hb; rintro e w1 ⟨rfl, hb⟩) | ((with_reducible refine (C2.out _ hb).mono ?_); clear hb; rintro e w1 ⟨rfl, hb⟩) | ((with_reducible refine (C3.out _ hb).mono ?_); clear hb; rintro e w1 ⟨rfl, hb⟩) | ((with_reducible refine (C4.out _ hb).mono ?_); clear hb; rintro e w1 ⟨rfl, hb⟩) | ((with_reducible refine (C5.out _ hb).mono ?_); clear hb; rintro e w1 ⟨rfl, hb⟩))
    go_wp2_with fail
    go_ret
    exact ⟨rfl, hb⟩

/-- The walk, for every argument that can be read. -/
theorem contract (H : Type) (enc : TypeId × Value → H) (F : Stop.Interp) (W : World) (base : Nat) (args : Array Value) (ds gs : List (DataW H)) (before : List MemPlace)
    (hval : ∀ (j : Nat) t v, Tryd.f10.params[j]? = some t → args[j]? = some v → Value.okWide Tryd.prog W .any base t v)
    (hW : DataW.Whole enc Tryd.prog Tryd.f10.params.toList Rows.fnValidJoinSpec.vars false W args.toList ds gs before) (hk : Rows.uptoSmall H (ds ++ gs) = true) (hT : Tabs W) :
    Calls Tryd.prog 10 args W fun e W' => ∃ v, e = .returned v ∧ ((Rows.OpenSpec.upto Rows.fnValidJoinSpec).at F).post enc Tryd.prog Tryd.f10 false true false false W args v W' := by
  have hW' := hW
  obtain ⟨p, q, hA0, hV, rfl, hfz, hnd⟩ := hW
  have hA : DataW.TrodAll enc Tryd.prog W 0 (fun _ => true) true Tryd.f10.params.toList args.toList ds p := hA0
  rw [Tryd.params10] at hA hval
  obtain ⟨v0, v1, d0, d1, p0, p1, rfl, rfl, rfl, h0, h1⟩ := trodAll_two hA
  obtain ⟨rfl, rfl⟩ := trodVars_none hV
  obtain ⟨s0, rfl, rfl, rfl, ws0⟩ := open_string Tryd.underlying9 (hval 0 9 v0 rfl rfl) h0
  obtain ⟨s1, rfl, rfl, rfl, ws1⟩ := open_string Tryd.underlying9 (hval 1 9 v1 rfl rfl) h1
  clear hA0 hV
  simp only [List.append_nil] at hW' hk
  have hb : Rows.uptoBulkAll ([.lit (.string s0.data.toList), .lit (.string s1.data.toList)] : List (DataW H)) ≤ 1048576 := of_decide_eq_true hk
  simp only [Rows.uptoBulkAll, Rows.uptoBulk, Array.length_toList, ByteArray.size_data] at hb
  refine (walk s0 s1 W (by omega) hT).mono ?_
  rintro e W' ⟨rfl, bel⟩
  have e1 : ((Rows.OpenSpec.upto Rows.fnValidJoinSpec).at F).fn H ([.lit (.string s0.data.toList), .lit (.string s1.data.toList)] ++ []) = { results := [.lit (.bool true)], args := [.lit (.string s0.data.toList), .lit (.string s1.data.toList)] } := rfl
  refine ⟨_, rfl, _, _, _, [], [], [], hW', ?_, ?_, ?_, bel.frame _, fun h => by cases h⟩
  · rw [e1]; exact trodAll_mk1 (shut_bool Tryd.underlying4 _)
  · rw [e1]; exact trodAll_mk2 (shut_string Tryd.underlying9 ws0) (shut_string Tryd.underlying9 ws1)
  · rw [e1]; rfl

theorem reads (os : Os) {H : Type} (enc : TypeId × Value → H) : ∃ places, DataW.whole enc Tryd.prog ((laidWorld os).forCall (fun _ _ => 0) ⟨#[], #[.string ⟨#[]⟩, .string ⟨#[]⟩], []⟩).memory Tryd.f10.params.toList Rows.fnValidJoinSpec.vars false #[Value.string ⟨#[]⟩, .string ⟨#[]⟩].toList 8 = some ([.lit (.string []), .lit (.string [])], [], places) :=
  ⟨[], by kernel_rfl⟩

set_option maxRecDepth 100000 in
theorem lifted (os : Os) (started : os.Started) (H : Type) (enc : TypeId × Value → H) (F : Stop.Interp) :
    ReturnsInHanded {} Tryd.checked os 10 .any ((Rows.OpenSpec.upto Rows.fnValidJoinSpec).preRow enc Tryd.prog Tryd.f10 Rows.fnValidJoinUptoRow.domain false Rows.fnValidJoinUptoRow.laid) (((Rows.OpenSpec.upto Rows.fnValidJoinSpec).at F).post enc Tryd.prog Tryd.f10 false true false false) := by
  obtain ⟨places, hx⟩ := reads os enc
  refine returnsInHanded_of_row (C := Tryd.checked) (s := (Rows.OpenSpec.upto Rows.fnValidJoinSpec)) own started (by kernel_rfl) Tryd.func10
    (witness_row_at (enc := enc) (C := Tryd.checked) false (laidWorld os) #[.string ⟨#[]⟩, .string ⟨#[]⟩] rfl (by kernel_rfl) (by kernel_rfl) (by kernel_rfl)
      (OpenSpec.preRow_of_cond 8 hx (by kernel_rfl) (fun k hk => by cases hk; kernel_rfl) (by kernel_rfl) (laid_met os _))) ?_
  intro W base args ds gs before hval hW _ hcond _ hL _ _
  exact contract H enc F W base args ds gs before hval hW (hcond _ rfl) (tabs_of hL)

theorem said : Rows.FnValidJoinUptoSaid :=
  OpenClaim.holds_of_cond 10 Tryd.f10 rfl rfl rfl rfl rfl rfl rfl ⟨rfl, rfl, rfl, rfl, rfl⟩ rfl rfl rfl rfl rfl (by kernel_rfl) Tryd.func10 (by kernel_rfl)
    (of_decide_eq_true (by kernel_rfl)) (by unfold Func.isWrapper; first | (rw [if_pos (by decide +kernel)]; kernel_rfl) | (rw [if_neg (by decide +kernel)]; exact ⟨rfl, rfl⟩))
    (fun os started H enc _ F => by rw [OpenClaim.pre_eq_preRow]; exact lifted os started H enc F)

theorem plain (f : FuncId) (fn : Func) (hf : Tryd.pinned.checked.prog.funcNamed Rows.fnValidJoinUptoRow.func = some f) (hfn : Tryd.pinned.checked.prog.funcs[f]? = some fn) :
    false = Tryd.pinned.checked.prog.looks [] ∧ ∀ (j : Nat) t, fn.params[j]? = some t → Tryd.pinned.checked.prog.wantsStandIn t = false := by
  obtain rfl : f = 10 := Option.some.inj ((show Tryd.prog.funcNamed Rows.fnValidJoinUptoRow.func = some 10 by kernel_rfl).symm.trans hf) |>.symm
  obtain rfl : fn = Tryd.f10 := (Option.some.inj (Tryd.func10.symm.trans hfn)).symm
  refine ⟨by kernel_rfl, fun j t ht => ?_⟩
  rw [Tryd.params10] at ht
  obtain rfl : t = 9 := by simpa using Array.mem_of_getElem? ht
  exact (show Tryd.prog.wantsStandIn 9 = false by kernel_rfl)

/-- The card. -/
theorem card : Rows.FnValidJoinUptoCardSaid :=
  Claim7.holds_tied_plain_at .later [] _ _ _ _ said (fun _ h => by cases h) (by kernel_rfl) (fun _ h => by cases h) fnValidJoinUpto_row_tie rfl ⟨rfl, rfl⟩ (by kernel_rfl) rfl plain (by kernel_rfl)
#print axioms card
end Go.Proofs.YtlbhelibgifaaaaDoor.fnValidJoin
