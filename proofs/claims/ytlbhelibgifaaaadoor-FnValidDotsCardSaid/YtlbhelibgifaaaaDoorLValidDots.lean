/-
  laws.FnValidDots returns true for every uint8: so many dots are valid for fs.ValidPath just if they are neither none nor two. Conditions: the two tables of unicode/utf8 lie as listed, which the card ties to the program's text.
-/
import Derived.Test.YtlbhelibgifaaaaDoorBase
import Derived.Test.YtlbhelibgifaaaaDoorWalkG
namespace Go.Proofs.YtlbhelibgifaaaaDoor.fnValidDots
open Go.ChangeShapes Go.WideShapes Go.ChangeAt Go.RowKit
open Go.ChangeMaps (open_string shut_string)
open Go.Lib (validD)

def dotsA (k : Nat) : ByteArray := ⟨(List.replicate k (46 : UInt8)).toArray⟩
theorem dotsA_snoc (k : Nat) : dotsA k ++ ⟨#[46]⟩ = dotsA (k + 1) := by
  apply Go.WideShapes.bytes_inj
  rw [cat_list]
  exact List.replicate_succ'.symm
theorem dotsA_vp (k : Nat) : vp (dotsA k).data.toList = (k == 1 || decide (2 < k)) := vp_dots k
theorem dotsA_size (k : Nat) : (dotsA k).size = k := by show (List.replicate k (46 : UInt8)).toArray.size = k; simp
set_option maxRecDepth 100000 in
set_option maxHeartbeats 1000000 in
theorem walk (x : Int) (w : World) (hx : 0 ≤ x ∧ x ≤ 255) (hT : Tabs w) :
    Calls Tryd.prog 7 #[.int .u8 x] w fun e w' => e = .returned (.bool true) ∧ Below w.heap.size w w' := by
  obtain ⟨h0, h1⟩ := hx
  obtain ⟨n, rfl⟩ := Int.eq_ofNat_of_zero_le h0
  have c1 : ∀ W, Below w.heap.size w W → Calls Tryd.prog 17 #[.string (dotsA n)] W _ := fun W hb => impl_in _ w W (by rw [dotsA_size]; omega) hT hb
  rw [dotsA_vp] at c1
  have C1 := Lib.hid c1
  clear c1 hT
  go_enter Tryd.func7, Tryd.ntmps7
  go_wp2_with fail
  go_loop [3, 4] (fun t i => ∃ k : Nat, k ≤ n ∧ i = .int .i64 k ∧ t = .string (dotsA k)) (fun _ i => n - (intOf i).toNat)
  case atStart => exact ⟨0, Nat.zero_le _, rfl, rfl⟩
  case round =>
    obtain ⟨k, hk, rfl, rfl⟩ := hrel
    by_cases hlt : k < n
    · have hltz : (k : Int) < (n : Int) := by omega
      have hz : (dotsA k).size ≤ 255 := by rw [dotsA_size]; omega
      go_wp2_with fail
      go_round
      case rel => exact ⟨k + 1, by omega, by go_num, by rw [dotsA_snoc]⟩
      case measure => simp [intOf]; omega
    · obtain rfl : k = n := by omega
      have hb := Below.refl w.heap.size w
      go_wp2_with fail
      ((with_reducible refine (C1.out _ hb).mono ?_); clear hb; rintro e w1 ⟨rfl, hb⟩)
      by_cases e1 : k = 1
      · subst e1
        go_wp2_with fail
        go_ret
        exact ⟨rfl, hb⟩
      · have e1b : ((k : Int) == 1) = false := by simp; omega
        have e1c : (k == 1) = false := by simp [e1]
        by_cases e2 : 2 < k
        · have e2z : (2 : Int) < (k : Int) := by omega
          go_wp2_with fail
          go_ret
          exact ⟨rfl, hb⟩
        · have e2z : decide ((2 : Int) < (k : Int)) = false := by simp; omega
          have e2c : decide (2 < k) = false := by simp; omega
          go_wp2_with fail
          go_ret
          exact ⟨rfl, hb⟩

/-- The walk, for every argument that can be read. -/
theorem contract (H : Type) (enc : TypeId × Value → H) (F : Stop.Interp) (W : World) (base : Nat) (args : Array Value) (ds gs : List (DataW H)) (before : List MemPlace)
    (hval : ∀ (j : Nat) t v, Tryd.f7.params[j]? = some t → args[j]? = some v → Value.okWide Tryd.prog W .any base t v)
    (hW : DataW.Whole enc Tryd.prog Tryd.f7.params.toList Rows.fnValidDotsSpec.vars false W args.toList ds gs before) (hT : Tabs W) :
    Calls Tryd.prog 7 args W fun e W' => ∃ v, e = .returned v ∧ ((OpenSpec.ofChange Rows.fnValidDotsSpec).at F).post enc Tryd.prog Tryd.f7 false true false false W args v W' := by
  have hW' := hW
  obtain ⟨p, q, hA0, hV, rfl, hfz, hnd⟩ := hW
  have hA : DataW.TrodAll enc Tryd.prog W 0 (fun _ => true) true Tryd.f7.params.toList args.toList ds p := hA0
  rw [Tryd.params7] at hA hval
  obtain ⟨v0, d0, rfl, rfl, h0⟩ := trodAll_one hA
  obtain ⟨rfl, rfl⟩ := trodVars_none hV
  obtain ⟨x0, rfl, rfl, rfl, wx0⟩ := open_int Tryd.underlying5 (hval 0 5 v0 rfl rfl) h0
  clear hA0 hV
  simp only [List.append_nil] at hW'
  refine (walk x0 W (bounds_u8 wx0) hT).mono ?_
  rintro e W' ⟨rfl, bel⟩
  have e1 : ((OpenSpec.ofChange Rows.fnValidDotsSpec).at F).fn H ([.lit (.int .u8 x0)] ++ []) = { results := [.lit (.bool true)], args := [.lit (.int .u8 x0)] } := rfl
  refine ⟨_, rfl, _, _, _, [], [], [], hW', ?_, ?_, ?_, bel.frame _, fun h => by cases h⟩
  · rw [e1]; exact trodAll_mk1 (shut_bool Tryd.underlying4 _)
  · rw [e1]; exact trodAll_mk1 (shut_int Tryd.underlying5 wx0)
  · rw [e1]; rfl

theorem reads (os : Os) {H : Type} (enc : TypeId × Value → H) : ∃ places, DataW.whole enc Tryd.prog ((laidWorld os).forCall (fun _ _ => 0) ⟨#[], #[.int .u8 0], []⟩).memory Tryd.f7.params.toList Rows.fnValidDotsSpec.vars false #[Value.int .u8 0].toList 8 = some ([.lit (.int .u8 0)], [], places) :=
  ⟨[], by kernel_rfl⟩

set_option maxRecDepth 100000 in
theorem lifted (os : Os) (started : os.Started) (H : Type) (enc : TypeId × Value → H) (F : Stop.Interp) :
    ReturnsInHanded {} Tryd.checked os 7 .any ((OpenSpec.ofChange Rows.fnValidDotsSpec).preRow enc Tryd.prog Tryd.f7 Rows.fnValidDotsRow.domain false Rows.fnValidDotsRow.laid) (((OpenSpec.ofChange Rows.fnValidDotsSpec).at F).post enc Tryd.prog Tryd.f7 false true false false) := by
  obtain ⟨places, hx⟩ := reads os enc
  refine returnsInHanded_of_row (C := Tryd.checked) (s := (OpenSpec.ofChange Rows.fnValidDotsSpec)) own started (by kernel_rfl) Tryd.func7
    (witness_row_at (enc := enc) (C := Tryd.checked) false (laidWorld os) #[.int .u8 0] rfl (by kernel_rfl) (by kernel_rfl) (by kernel_rfl)
      (OpenSpec.preRow_of_cond 8 hx (by kernel_rfl) (fun k hk => by cases hk) (by kernel_rfl) (laid_met os _))) ?_
  intro W base args ds gs before hval hW _ _ _ hL _ _
  exact contract H enc F W base args ds gs before hval hW (tabs_of hL)

theorem said : Rows.FnValidDotsSaid :=
  OpenClaim.holds_of_cond 7 Tryd.f7 rfl rfl rfl rfl rfl rfl rfl ⟨rfl, rfl, rfl, rfl, rfl⟩ rfl rfl rfl rfl rfl (by kernel_rfl) Tryd.func7 (by kernel_rfl)
    (of_decide_eq_true (by kernel_rfl)) (by unfold Func.isWrapper; first | (rw [if_pos (by decide +kernel)]; kernel_rfl) | (rw [if_neg (by decide +kernel)]; exact ⟨rfl, rfl⟩))
    (fun os started H enc _ F => by rw [OpenClaim.pre_eq_preRow]; exact lifted os started H enc F)

theorem plain (f : FuncId) (fn : Func) (hf : Tryd.pinned.checked.prog.funcNamed Rows.fnValidDotsRow.func = some f) (hfn : Tryd.pinned.checked.prog.funcs[f]? = some fn) :
    false = Tryd.pinned.checked.prog.looks [] ∧ ∀ (j : Nat) t, fn.params[j]? = some t → Tryd.pinned.checked.prog.wantsStandIn t = false := by
  obtain rfl : f = 7 := Option.some.inj ((show Tryd.prog.funcNamed Rows.fnValidDotsRow.func = some 7 by kernel_rfl).symm.trans hf) |>.symm
  obtain rfl : fn = Tryd.f7 := (Option.some.inj (Tryd.func7.symm.trans hfn)).symm
  refine ⟨by kernel_rfl, fun j t ht => ?_⟩
  rw [Tryd.params7] at ht
  obtain rfl : t = 5 := by simpa using Array.mem_of_getElem? ht
  exact (show Tryd.prog.wantsStandIn 5 = false by kernel_rfl)

/-- The card. -/
theorem card : Rows.FnValidDotsCardSaid :=
  Claim7.holds_tied_plain_at .later [] _ _ _ _ said (fun _ h => by cases h) (by kernel_rfl) (fun _ h => by cases h) fnValidDots_row_tie rfl ⟨rfl, rfl⟩ (by kernel_rfl) rfl plain (by kernel_rfl)
#print axioms card
end Go.Proofs.YtlbhelibgifaaaaDoor.fnValidDots
