/-
  laws.FnValidRune returns true for every int32: the UTF-8 sequence of one code point is valid for fs.ValidPath just if it is no slash (numbers that are no code points are passed over by the statement itself). Conditions: the two tables of unicode/utf8 lie as listed, which the card ties to the program's text.
-/
import Derived.Test.YtlbhelibgifaaaaDoorBase
import Derived.Test.YtlbhelibgifaaaaDoorWalkR
namespace Go.Proofs.YtlbhelibgifaaaaDoor.fnValidRune
open Go.ChangeShapes Go.WideShapes Go.ChangeAt Go.RowKit
open Go.ChangeMaps (open_string shut_string)
open Go.Lib (validD)

set_option maxRecDepth 100000 in
set_option maxHeartbeats 1000000 in
theorem skip (r : Int) (w : World) (h : r < 0 ∨ (0 ≤ r ∧ 1114111 < r) ∨ (0 ≤ r ∧ r ≤ 1114111 ∧ 55296 ≤ r ∧ r ≤ 57343)) :
    Calls Tryd.prog 14 #[.int .i32 r] w fun e w' => e = .returned (.bool true) ∧ Below w.heap.size w w' := by
  rcases h with h | ⟨h0, h⟩ | ⟨h0, h1, h2, h3⟩
  all_goals
    go_enter Tryd.func14, Tryd.ntmps14
    go_wp2_with fail
    go_ret
    exact ⟨rfl, Below.refl _ _⟩
set_option maxRecDepth 100000 in
set_option maxHeartbeats 1000000 in
theorem low (r : Int) (w : World) (hT : Tabs w) (h0 : 0 ≤ r) (h1 : r < 55296) :
    Calls Tryd.prog 14 #[.int .i32 r] w fun e w' => e = .returned (.bool true) ∧ Below w.heap.size w w' := by
  have E := Lib.hid (encode_any r w h0 (by omega) (by omega))
  have HT := Lib.hid hT
  clear hT
  go_enter Tryd.func14, Tryd.ntmps14
  go_wp2_with fail
  ((with_reducible refine E.out.mono ?_); rintro e w1 ⟨s, rfl, hz, hv, hb⟩)
  have c1 := impl_in s w w1 (by omega) HT.out hb
  rw [hv] at c1
  have C1 := Lib.hid c1
  clear c1 hv E HT
  by_cases e : r = 47
  · subst e
    clear hb
    go_wp2_with fail
    ((with_reducible refine C1.out.mono ?_); rintro e w2 ⟨rfl, hb⟩)
    go_wp2_with fail
    go_ret
    exact ⟨rfl, hb⟩
  · have e1 : (r == 47) = false := by simp [e]
    have e2 : (r != 47) = true := by simp [e]
    clear hb
    go_wp2_with fail
    ((with_reducible refine C1.out.mono ?_); rintro e w2 ⟨rfl, hb⟩)
    go_wp2_with fail
    go_ret
    exact ⟨rfl, hb⟩
set_option maxRecDepth 100000 in
set_option maxHeartbeats 1000000 in
theorem high (r : Int) (w : World) (hT : Tabs w) (h0 : 57343 < r) (h1 : r ≤ 1114111) :
    Calls Tryd.prog 14 #[.int .i32 r] w fun e w' => e = .returned (.bool true) ∧ Below w.heap.size w w' := by
  have E := Lib.hid (encode_any r w (by omega) h1 (by omega))
  have HT := Lib.hid hT
  clear hT
  have e1 : (r == 47) = false := by simp; omega
  have e2 : (r != 47) = true := by simp; omega
  go_enter Tryd.func14, Tryd.ntmps14
  go_wp2_with fail
  ((with_reducible refine E.out.mono ?_); rintro e w1 ⟨s, rfl, hz, hv, hb⟩)
  have c1 := impl_in s w w1 (by omega) HT.out hb
  rw [hv] at c1
  have C1 := Lib.hid c1
  clear c1 hv E HT hb
  go_wp2_with fail
  ((with_reducible refine C1.out.mono ?_); rintro e w2 ⟨rfl, hb⟩)
  go_wp2_with fail
  go_ret
  exact ⟨rfl, hb⟩
theorem walk (r : Int) (w : World) (_hr : -2147483648 ≤ r ∧ r ≤ 2147483647) (hT : Tabs w) :
    Calls Tryd.prog 14 #[.int .i32 r] w fun e w' => e = .returned (.bool true) ∧ Below w.heap.size w w' := by
  by_cases c0 : r < 0
  · exact skip r w (.inl c0)
  by_cases c1 : 1114111 < r
  · exact skip r w (.inr (.inl ⟨by omega, c1⟩))
  by_cases c2 : r < 55296
  · exact low r w hT (by omega) c2
  by_cases c3 : r ≤ 57343
  · exact skip r w (.inr (.inr ⟨by omega, by omega, by omega, c3⟩))
  · exact high r w hT (by omega) (by omega)

/-- The walk, for every argument that can be read. -/
theorem contract (H : Type) (enc : TypeId × Value → H) (F : Stop.Interp) (W : World) (base : Nat) (args : Array Value) (ds gs : List (DataW H)) (before : List MemPlace)
    (hval : ∀ (j : Nat) t v, Tryd.f14.params[j]? = some t → args[j]? = some v → Value.okWide Tryd.prog W .any base t v)
    (hW : DataW.Whole enc Tryd.prog Tryd.f14.params.toList Rows.fnValidRuneSpec.vars false W args.toList ds gs before) (hT : Tabs W) :
    Calls Tryd.prog 14 args W fun e W' => ∃ v, e = .returned v ∧ ((OpenSpec.ofChange Rows.fnValidRuneSpec).at F).post enc Tryd.prog Tryd.f14 false true false false W args v W' := by
  have hW' := hW
  obtain ⟨p, q, hA0, hV, rfl, hfz, hnd⟩ := hW
  have hA : DataW.TrodAll enc Tryd.prog W 0 (fun _ => true) true Tryd.f14.params.toList args.toList ds p := hA0
  rw [Tryd.params14] at hA hval
  obtain ⟨v0, d0, rfl, rfl, h0⟩ := trodAll_one hA
  obtain ⟨rfl, rfl⟩ := trodVars_none hV
  obtain ⟨x0, rfl, rfl, rfl, wx0⟩ := open_int Tryd.underlying21 (hval 0 21 v0 rfl rfl) h0
  clear hA0 hV
  simp only [List.append_nil] at hW'
  refine (walk x0 W (bounds_i32 wx0) hT).mono ?_
  rintro e W' ⟨rfl, bel⟩
  have e1 : ((OpenSpec.ofChange Rows.fnValidRuneSpec).at F).fn H ([.lit (.int .i32 x0)] ++ []) = { results := [.lit (.bool true)], args := [.lit (.int .i32 x0)] } := rfl
  refine ⟨_, rfl, _, _, _, [], [], [], hW', ?_, ?_, ?_, bel.frame _, fun h => by cases h⟩
  · rw [e1]; exact trodAll_mk1 (shut_bool Tryd.underlying4 _)
  · rw [e1]; exact trodAll_mk1 (shut_int Tryd.underlying21 wx0)
  · rw [e1]; rfl

theorem reads (os : Os) {H : Type} (enc : TypeId × Value → H) : ∃ places, DataW.whole enc Tryd.prog ((laidWorld os).forCall (fun _ _ => 0) ⟨#[], #[.int .i32 0], []⟩).memory Tryd.f14.params.toList Rows.fnValidRuneSpec.vars false #[Value.int .i32 0].toList 8 = some ([.lit (.int .i32 0)], [], places) :=
  ⟨[], by kernel_rfl⟩

set_option maxRecDepth 100000 in
theorem lifted (os : Os) (started : os.Started) (H : Type) (enc : TypeId × Value → H) (F : Stop.Interp) :
    ReturnsInHanded {} Tryd.checked os 14 .any ((OpenSpec.ofChange Rows.fnValidRuneSpec).preRow enc Tryd.prog Tryd.f14 Rows.fnValidRuneRow.domain false Rows.fnValidRuneRow.laid) (((OpenSpec.ofChange Rows.fnValidRuneSpec).at F).post enc Tryd.prog Tryd.f14 false true false false) := by
  obtain ⟨places, hx⟩ := reads os enc
  refine returnsInHanded_of_row (C := Tryd.checked) (s := (OpenSpec.ofChange Rows.fnValidRuneSpec)) own started (by kernel_rfl) Tryd.func14
    (witness_row_at (enc := enc) (C := Tryd.checked) false (laidWorld os) #[.int .i32 0] rfl (by kernel_rfl) (by kernel_rfl) (by kernel_rfl)
      (OpenSpec.preRow_of_cond 8 hx (by kernel_rfl) (fun k hk => by cases hk) (by kernel_rfl) (laid_met os _))) ?_
  intro W base args ds gs before hval hW _ _ _ hL _ _
  exact contract H enc F W base args ds gs before hval hW (tabs_of hL)

theorem said : Rows.FnValidRuneSaid :=
  OpenClaim.holds_of_cond 14 Tryd.f14 rfl rfl rfl rfl rfl rfl rfl ⟨rfl, rfl, rfl, rfl, rfl⟩ rfl rfl rfl rfl rfl (by kernel_rfl) Tryd.func14 (by kernel_rfl)
    (of_decide_eq_true (by kernel_rfl)) (by unfold Func.isWrapper; first | (rw [if_pos (by decide +kernel)]; kernel_rfl) | (rw [if_neg (by decide +kernel)]; exact ⟨rfl, rfl⟩))
    (fun os started H enc _ F => by rw [OpenClaim.pre_eq_preRow]; exact lifted os started H enc F)

theorem plain (f : FuncId) (fn : Func) (hf : Tryd.pinned.checked.prog.funcNamed Rows.fnValidRuneRow.func = some f) (hfn : Tryd.pinned.checked.prog.funcs[f]? = some fn) :
    false = Tryd.pinned.checked.prog.looks [] ∧ ∀ (j : Nat) t, fn.params[j]? = some t → Tryd.pinned.checked.prog.wantsStandIn t = false := by
  obtain rfl : f = 14 := Option.some.inj ((show Tryd.prog.funcNamed Rows.fnValidRuneRow.func = some 14 by kernel_rfl).symm.trans hf) |>.symm
  obtain rfl : fn = Tryd.f14 := (Option.some.inj (Tryd.func14.symm.trans hfn)).symm
  refine ⟨by kernel_rfl, fun j t ht => ?_⟩
  rw [Tryd.params14] at ht
  obtain rfl : t = 21 := by simpa using Array.mem_of_getElem? ht
  exact (show Tryd.prog.wantsStandIn 21 = false by kernel_rfl)

/-- The card. -/
theorem card : Rows.FnValidRuneCardSaid :=
  Claim7.holds_tied_plain_at .later [] _ _ _ _ said (fun _ h => by cases h) (by kernel_rfl) (fun _ h => by cases h) fnValidRune_row_tie rfl ⟨rfl, rfl⟩ (by kernel_rfl) rfl plain (by kernel_rfl)
#print axioms card
end Go.Proofs.YtlbhelibgifaaaaDoor.fnValidRune
