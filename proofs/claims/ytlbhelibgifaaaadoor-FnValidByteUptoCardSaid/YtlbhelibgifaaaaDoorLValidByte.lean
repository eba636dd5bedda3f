/-
  laws.FnValidByte returns true: a valid name that is not a dot stays valid for fs.ValidPath with a byte below 128 that is no slash ahead of it, and behind it. Conditions: the arguments hold together at most 1048576 values and letters; the two tables of unicode/utf8 lie as listed, which the card ties to the program's text.
-/
import Derived.Test.YtlbhelibgifaaaaDoorBase
import Derived.Test.YtlbhelibgifaaaaDoorWalkG
namespace Go.Proofs.YtlbhelibgifaaaaDoor.fnValidByte
open Go.ChangeShapes Go.WideShapes Go.ChangeAt Go.RowKit
open Go.ChangeMaps (open_string shut_string)
open Go.Lib (validD)

set_option maxRecDepth 100000 in
set_option maxHeartbeats 1000000 in
theorem walk (a : ByteArray) (x : Int) (w : World) (hs : a.size ≤ 1048576) (hx : 0 ≤ x ∧ x ≤ 255) (hT : Tabs w) :
    Calls Tryd.prog 5 #[.string a, .int .u8 x] w fun e w' => e = .returned (.bool true) ∧ Below w.heap.size w w' := by
  obtain ⟨b, rfl⟩ := byte_of x hx
  clear hx
  by_cases h1 : 128 ≤ b.toNat
  · have h1z : 128 ≤ (b.toNat : Int) := by omega
    clear hT
    go_enter Tryd.func5, Tryd.ntmps5
    go_wp2
    go_ret
    exact ⟨rfl, Below.refl _ _⟩
  have h1z : (b.toNat : Int) < 128 := by omega
  by_cases h2 : b = 47
  · subst h2
    clear hT
    go_enter Tryd.func5, Tryd.ntmps5
    go_wp2
    go_ret
    exact ⟨rfl, Below.refl _ _⟩
  have h2b : ((b.toNat : Int) == 47) = false := u8_ne (n := 47) h2
  by_cases h3 : a.toList = [46]
  · have h3b : (a.toList == [46]) = true := by simp [h3]
    clear hT
    go_enter Tryd.func5, Tryd.ntmps5
    go_wp2
    go_ret
    exact ⟨rfl, Below.refl _ _⟩
  have h3b : (a.toList == [46]) = false := by simp [h3]
  have c0 : ∀ W, Below w.heap.size w W → Calls Tryd.prog 16 #[.string a] W _ := fun W hb => spec_in _ w W (by omega) hb
  have z1 : (a ++ (⟨#[b]⟩ : ByteArray)).size ≤ 9223372036854775807 := by rw [cat_size]; show a.size + 1 ≤ _; omega
  have z2 : ((⟨#[b]⟩ : ByteArray) ++ a).size ≤ 9223372036854775807 := by rw [cat_size]; show 1 + a.size ≤ _; omega
  have c1 : ∀ W, Below w.heap.size w W → Calls Tryd.prog 17 #[.string (a ++ ⟨#[b]⟩)] W _ := fun W hb => impl_in _ w W z1 hT hb
  have c2 : ∀ W, Below w.heap.size w W → Calls Tryd.prog 17 #[.string (⟨#[b]⟩ ++ a)] W _ := fun W hb => impl_in _ w W z2 hT hb
  have hv : vp a.data.toList = true → vp (a ++ (⟨#[b]⟩ : ByteArray)).data.toList = true ∧ vp ((⟨#[b]⟩ : ByteArray) ++ a).data.toList = true := fun h => by
    rw [cat_list, cat_list]
    exact vp_byte a.data.toList b (by omega) h2 (by rw [← Lib.toList_data]; exact h3) h
  generalize vp a.data.toList = v at c0 hv
  have kc : ∀ W : World, (convert 24 9 (.slice (some ⟨W.heap.size, 0, none⟩) 1 1)).run Tryd.prog (W.alloc (.cells #[.int .u8 (b.toNat : Int)] 5)) = .ok (.string ⟨#[b]⟩) (W.alloc (.cells #[.int .u8 (b.toNat : Int)] 5)) :=
    fun W => conv_lit W [b] _ rfl 1 rfl
  cases v
  · have C0 := Lib.hid c0
    clear c0 c1 c2 hv kc hT z1 z2 h1 h2 h3
    have hb := Below.refl w.heap.size w
    go_enter Tryd.func5, Tryd.ntmps5
    go_wp2_with fail
    ((with_reducible refine (C0.out _ hb).mono ?_); clear hb; rintro e w1 ⟨rfl, hb⟩)
    go_wp2_with fail
    go_ret
    exact ⟨rfl, hb⟩
  · obtain ⟨hv1, hv2⟩ := hv rfl
    rw [hv1] at c1
    rw [hv2] at c2
    have C0 := Lib.hid c0
    have C1 := Lib.hid c1
    have C2 := Lib.hid c2
    clear c0 c1 c2 hv hT z1 z2 h1 h2 h3 hv1 hv2
    have hb := Below.refl w.heap.size w
    go_enter Tryd.func5, Tryd.ntmps5
    go_wp2_with fail
    ((with_reducible refine (C0.out _ hb).mono ?_); clear hb; rintro e w1 ⟨rfl, hb⟩)
    go_wp2_with fail
    ((with_reducible refine (C1.out _ (hb.alloc hb.size _)).mono ?_); clear hb; rintro e w1 ⟨rfl, hb⟩)
    go_wp2_with fail
    ((with_reducible refine (C2.out _ hb).mono ?_); clear hb; rintro e w1 ⟨rfl, hb⟩)
    go_wp2_with fail
    go_ret
    exact ⟨rfl, hb⟩

/-- The walk, for every argument that can be read. -/
theorem contract (H : Type) (enc : TypeId × Value → H) (F : Stop.Interp) (W : World) (base : Nat) (args : Array Value) (ds gs : List (DataW H)) (before : List MemPlace)
    (hval : ∀ (j : Nat) t v, Tryd.f5.params[j]? = some t → args[j]? = some v → Value.okWide Tryd.prog W .any base t v)
    (hW : DataW.Whole enc Tryd.prog Tryd.f5.params.toList Rows.fnValidByteSpec.vars false W args.toList ds gs before) (hk : Rows.uptoSmall H (ds ++ gs) = true) (hT : Tabs W) :
    Calls Tryd.prog 5 args W fun e W' => ∃ v, e = .returned v ∧ ((Rows.OpenSpec.upto Rows.fnValidByteSpec).at F).post enc Tryd.prog Tryd.f5 false true false false W args v W' := by
  have hW' := hW
  obtain ⟨p, q, hA0, hV, rfl, hfz, hnd⟩ := hW
  have hA : DataW.TrodAll enc Tryd.prog W 0 (fun _ => true) true Tryd.f5.params.toList args.toList ds p := hA0
  rw [Tryd.params5] at hA hval
  obtain ⟨v0, v1, d0, d1, p0, p1, rfl, rfl, rfl, h0, h1⟩ := trodAll_two hA
  obtain ⟨rfl, rfl⟩ := trodVars_none hV
  obtain ⟨s0, rfl, rfl, rfl, ws0⟩ := open_string Tryd.underlying9 (hval 0 9 v0 rfl rfl) h0
  obtain ⟨x1, rfl, rfl, rfl, wx1⟩ := open_int Tryd.underlying5 (hval 1 5 v1 rfl rfl) h1
  clear hA0 hV
  simp only [List.append_nil] at hW' hk
  have hb : Rows.uptoBulkAll ([.lit (.string s0.data.toList), .lit (.int .u8 x1)] : List (DataW H)) ≤ 1048576 := of_decide_eq_true hk
  simp only [Rows.uptoBulkAll, Rows.uptoBulk, Array.length_toList, ByteArray.size_data] at hb
  refine (walk s0 x1 W (by omega) (bounds_u8 wx1) hT).mono ?_
  rintro e W' ⟨rfl, bel⟩
  have e1 : ((Rows.OpenSpec.upto Rows.fnValidByteSpec).at F).fn H ([.lit (.string s0.data.toList), .lit (.int .u8 x1)] ++ []) = { results := [.lit (.bool true)], args := [.lit (.string s0.data.toList), .lit (.int .u8 x1)] } := rfl
  refine ⟨_, rfl, _, _, _, [], [], [], hW', ?_, ?_, ?_, bel.frame _, fun h => by cases h⟩
  · rw [e1]; exact trodAll_mk1 (shut_bool Tryd.underlying4 _)
  · rw [e1]; exact trodAll_mk2 (shut_string Tryd.underlying9 ws0) (shut_int Tryd.underlying5 wx1)
  · rw [e1]; rfl

theorem reads (os : Os) {H : Type} (enc : TypeId × Value → H) : ∃ places, DataW.whole enc Tryd.prog ((laidWorld os).forCall (fun _ _ => 0) ⟨#[], #[.string ⟨#[]⟩, .int .u8 0], []⟩).memory Tryd.f5.params.toList Rows.fnValidByteSpec.vars false #[Value.string ⟨#[]⟩, .int .u8 0].toList 8 = some ([.lit (.string []), .lit (.int .u8 0)], [], places) :=
  ⟨[], by kernel_rfl⟩

set_option maxRecDepth 100000 in
theorem lifted (os : Os) (started : os.Started) (H : Type) (enc : TypeId × Value → H) (F : Stop.Interp) :
    ReturnsInHanded {} Tryd.checked os 5 .any ((Rows.OpenSpec.upto Rows.fnValidByteSpec).preRow enc Tryd.prog Tryd.f5 Rows.fnValidByteUptoRow.domain false Rows.fnValidByteUptoRow.laid) (((Rows.OpenSpec.upto Rows.fnValidByteSpec).at F).post enc Tryd.prog Tryd.f5 false true false false) := by
  obtain ⟨places, hx⟩ := reads os enc
  refine returnsInHanded_of_row (C := Tryd.checked) (s := (Rows.OpenSpec.upto Rows.fnValidByteSpec)) own started (by kernel_rfl) Tryd.func5
    (witness_row_at (enc := enc) (C := Tryd.checked) false (laidWorld os) #[.string ⟨#[]⟩, .int .u8 0] rfl (by kernel_rfl) (by kernel_rfl) (by kernel_rfl)
      (OpenSpec.preRow_of_cond 8 hx (by kernel_rfl) (fun k hk => by cases hk; kernel_rfl) (by kernel_rfl) (laid_met os _))) ?_
  intro W base args ds gs before hval hW _ hcond _ hL _ _
  exact contract H enc F W base args ds gs before hval hW (hcond _ rfl) (tabs_of hL)

theorem said : Rows.FnValidByteUptoSaid :=
  OpenClaim.holds_of_cond 5 Tryd.f5 rfl rfl rfl rfl rfl rfl rfl ⟨rfl, rfl, rfl, rfl, rfl⟩ rfl rfl rfl rfl rfl (by kernel_rfl) Tryd.func5 (by kernel_rfl)
    (of_decide_eq_true (by kernel_rfl)) (by unfold Func.isWrapper; first | (rw [if_pos (by decide +kernel)]; kernel_rfl) | (rw [if_neg (by decide +kernel)]; exact ⟨rfl, rfl⟩))
    (fun os started H enc _ F => by rw [OpenClaim.pre_eq_preRow]; exact lifted os started H enc F)

theorem plain (f : FuncId) (fn : Func) (hf : Tryd.pinned.checked.prog.funcNamed Rows.fnValidByteUptoRow.func = some f) (hfn : Tryd.pinned.checked.prog.funcs[f]? = some fn) :
    false = Tryd.pinned.checked.prog.looks [] ∧ ∀ (j : Nat) t, fn.params[j]? = some t → Tryd.pinned.checked.prog.wantsStandIn t = false := by
  obtain rfl : f = 5 := Option.some.inj ((show Tryd.prog.funcNamed Rows.fnValidByteUptoRow.func = some 5 by kernel_rfl).symm.trans hf) |>.symm
  obtain rfl : fn = Tryd.f5 := (Option.some.inj (Tryd.func5.symm.trans hfn)).symm
  refine ⟨by kernel_rfl, fun j t ht => ?_⟩
  rw [Tryd.params5] at ht
  have ht2 : t = 9 ∨ t = 5 := by simpa using Array.mem_of_getElem? ht
  rcases ht2 with rfl | rfl
  · exact (show Tryd.prog.wantsStandIn 9 = false by kernel_rfl)
  · exact (show Tryd.prog.wantsStandIn 5 = false by kernel_rfl)

/-- The card. -/
theorem card : Rows.FnValidByteUptoCardSaid :=
  Claim7.holds_tied_plain_at .later [] _ _ _ _ said (fun _ h => by cases h) (by kernel_rfl) (fun _ h => by cases h) fnValidByteUpto_row_tie rfl ⟨rfl, rfl⟩ (by kernel_rfl) rfl plain (by kernel_rfl)
#print axioms card
end Go.Proofs.YtlbhelibgifaaaaDoor.fnValidByte
