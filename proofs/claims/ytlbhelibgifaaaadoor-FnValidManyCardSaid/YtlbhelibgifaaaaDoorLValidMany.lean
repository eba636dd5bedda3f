/-
  laws.FnValidMany returns true for every name and count: a name, so many times with slashes between, is valid for fs.ValidPath just if it is, and is no dot or there is one alone (names of more than 32768 bytes are passed over by the statement itself). Conditions: the two tables of unicode/utf8 lie as listed, which the card ties to the program's text.
-/
import Derived.Test.YtlbhelibgifaaaaDoorBase
import Derived.Test.YtlbhelibgifaaaaDoorWalkG
namespace Go.Proofs.YtlbhelibgifaaaaDoor.fnValidMany
open Go.ChangeShapes Go.WideShapes Go.ChangeAt Go.RowKit
open Go.ChangeMaps (open_string shut_string)
open Go.Lib (validD)

def manyA (s : ByteArray) (k : Nat) : ByteArray := ⟨(many s.data.toList k).toArray⟩
theorem manyA_snoc (s : ByteArray) (k : Nat) : manyA s k ++ ⟨#[47]⟩ ++ s = manyA s (k + 1) := by
  apply Go.WideShapes.bytes_inj
  rw [cat_list, cat_list]
  show many s.data.toList k ++ [47] ++ s.data.toList = many s.data.toList k ++ 47 :: s.data.toList
  rw [List.append_assoc]; rfl
theorem manyA_zero (s : ByteArray) : manyA s 0 = s := rfl
theorem manyA_size (s : ByteArray) (k : Nat) : (manyA s k).size = s.size + k * (s.size + 1) := by
  show (many s.data.toList k).toArray.size = _
  rw [List.size_toArray, many_length, len_list]
theorem manyA_vp (s : ByteArray) (k : Nat) : vp (manyA s k).data.toList = (vp s.data.toList && (k == 0 || !(s.toList == [46]))) := by
  rw [← dot_toList]; exact vp_many s.data.toList k
theorem manyA_bound (s : ByteArray) (k : Nat) (h : s.size ≤ 32768) (hk : k ≤ 255) : (manyA s k).size ≤ 8388863 := by
  rw [manyA_size]
  have : k * (s.size + 1) ≤ 255 * 32769 := Nat.mul_le_mul hk (by omega)
  omega
set_option maxRecDepth 100000 in
set_option maxHeartbeats 2000000 in
theorem walk (s : ByteArray) (x : Int) (w : World) (hs : s.size ≤ 9223372036854775807) (hx : 0 ≤ x ∧ x ≤ 255) (hT : Tabs w) :
    Calls Tryd.prog 12 #[.string s, .int .u8 x] w fun e w' => e = .returned (.bool true) ∧ Below w.heap.size w w' := by
  obtain ⟨h0, h1⟩ := hx
  obtain ⟨n, rfl⟩ := Int.eq_ofNat_of_zero_le h0
  by_cases hl : 32768 < s.size
  · have hlz : (32768 : Int) < (s.size : Int) := by omega
    clear hT
    go_enter Tryd.func12, Tryd.ntmps12
    go_wp2
    go_ret
    exact ⟨rfl, Below.refl _ _⟩
  have hlz : ¬ ((32768 : Int) < (s.size : Int)) := by omega
  have c1 : ∀ W, Below w.heap.size w W → Calls Tryd.prog 17 #[.string (manyA s n)] W _ := fun W hb => impl_in _ w W (by have := manyA_bound s n (by omega) (by omega); omega) hT hb
  have c2 : ∀ W, Below w.heap.size w W → Calls Tryd.prog 17 #[.string s] W _ := fun W hb => impl_in _ w W (by omega) hT hb
  have c3 : ∀ W, Below w.heap.size w W → Calls Tryd.prog 16 #[.string s] W _ := fun W hb => spec_in _ w W (by omega) hb
  rw [manyA_vp] at c1
  generalize vp s.data.toList = v at c1 c2 c3
  obtain ⟨d, hd⟩ : ∃ d, (s.toList == [46]) = d := ⟨_, rfl⟩
  rw [hd] at c1
  have C1 := Lib.hid c1
  have C2 := Lib.hid c2
  have C3 := Lib.hid c3
  have HD := Lib.hid hd
  clear c1 c2 c3 hT hd
  go_enter Tryd.func12, Tryd.ntmps12
  go_wp2_with fail
  go_loop [5, 6] (fun t i => ∃ k : Nat, k ≤ n ∧ i = .int .i64 k ∧ t = .string (manyA s k)) (fun _ i => n - (intOf i).toNat)
  case atStart => exact ⟨0, Nat.zero_le _, rfl, by rw [manyA_zero]⟩
  case round =>
    obtain ⟨k, hk, rfl, rfl⟩ := hrel
    by_cases hlt : k < n
    · have hltz : (k : Int) < (n : Int) := by omega
      have hz := manyA_bound s k (by omega) (by omega)
      go_wp2_with fail
      go_round
      case rel => exact ⟨k + 1, by omega, by go_num, by rw [manyA_snoc]⟩
      case measure => simp [intOf]; omega
    · obtain rfl : k = n := by omega
      have hb := Below.refl w.heap.size w
      have hd := HD.out
      by_cases hk0 : k = 0
      · subst hk0
        cases v <;> cases d
        all_goals
          repeat (go_wp2_with fail; first | ((with_reducible refine (C1.out _ hb).mono ?_); clear hb; rintro e w1 ⟨rfl, hb⟩) | ((with_reducible refine (C2.out _ hb).mono ?_); clear hb; rintro e w1 ⟨rfl, hb⟩) | ((with_reducible refine (C3.out _ hb).mono ?_); clear hb; rintro e w1 ⟨rfl, hb⟩))
          go_wp2_with fail
          go_ret
          exact ⟨rfl, hb⟩
      · have k1 : ((k : Int) == 0) = false := by simp [hk0]
        have k2 : (k == 0) = false := by simp [hk0]
        have k3 : (0 : Int) < (k : Int) := by omega
        cases v <;> cases d
        all_goals
          repeat (go_wp2_with fail; first | ((with_reducible refine (C1.out _ hb).mono ?_); clear hb; rintro e w1 ⟨rfl, hb⟩) | ((with_reducible refine (C2.out _ hb).mono ?_); clear hb; rintro e w1 ⟨rfl, hb⟩) | ((with_reducible refine (C3.out _ hb).mono ?_); clear hb; rintro e w1 ⟨rfl, hb⟩))
          go_wp2_with fail
          go_ret
          exact ⟨rfl, hb⟩

/-- The walk, for every argument that can be read. -/
theorem contract (H : Type) (enc : TypeId × Value → H) (F : Stop.Interp) (W : World) (base : Nat) (args : Array Value) (ds gs : List (DataW H)) (before : List MemPlace)
    (hval : ∀ (j : Nat) t v, Tryd.f12.params[j]? = some t → args[j]? = some v → Value.okWide Tryd.prog W .any base t v)
    (hW : DataW.Whole enc Tryd.prog Tryd.f12.params.toList Rows.fnValidManySpec.vars false W args.toList ds gs before) (hT : Tabs W) :
    Calls Tryd.prog 12 args W fun e W' => ∃ v, e = .returned v ∧ ((OpenSpec.ofChange Rows.fnValidManySpec).at F).post enc Tryd.prog Tryd.f12 false true false false W args v W' := by
  have hW' := hW
  obtain ⟨p, q, hA0, hV, rfl, hfz, hnd⟩ := hW
  have hA : DataW.TrodAll enc Tryd.prog W 0 (fun _ => true) true Tryd.f12.params.toList args.toList ds p := hA0
  rw [Tryd.params12] at hA hval
  obtain ⟨v0, v1, d0, d1, p0, p1, rfl, rfl, rfl, h0, h1⟩ := trodAll_two hA
  obtain ⟨rfl, rfl⟩ := trodVars_none hV
  obtain ⟨s0, rfl, rfl, rfl, ws0⟩ := open_string Tryd.underlying9 (hval 0 9 v0 rfl rfl) h0
  obtain ⟨x1, rfl, rfl, rfl, wx1⟩ := open_int Tryd.underlying5 (hval 1 5 v1 rfl rfl) h1
  clear hA0 hV
  simp only [List.append_nil] at hW'
  refine (walk s0 x1 W (by unfold maxLen at ws0; omega) (bounds_u8 wx1) hT).mono ?_
  rintro e W' ⟨rfl, bel⟩
  have e1 : ((OpenSpec.ofChange Rows.fnValidManySpec).at F).fn H ([.lit (.string s0.data.toList), .lit (.int .u8 x1)] ++ []) = { results := [.lit (.bool true)], args := [.lit (.string s0.data.toList), .lit (.int .u8 x1)] } := rfl
  refine ⟨_, rfl, _, _, _, [], [], [], hW', ?_, ?_, ?_, bel.frame _, fun h => by cases h⟩
  · rw [e1]; exact trodAll_mk1 (shut_bool Tryd.underlying4 _)
  · rw [e1]; exact trodAll_mk2 (shut_string Tryd.underlying9 ws0) (shut_int Tryd.underlying5 wx1)
  · rw [e1]; rfl

theorem reads (os : Os) {H : Type} (enc : TypeId × Value → H) : ∃ places, DataW.whole enc Tryd.prog ((laidWorld os).forCall (fun _ _ => 0) ⟨#[], #[.string ⟨#[]⟩, .int .u8 0], []⟩).memory Tryd.f12.params.toList Rows.fnValidManySpec.vars false #[Value.string ⟨#[]⟩, .int .u8 0].toList 8 = some ([.lit (.string []), .lit (.int .u8 0)], [], places) :=
  ⟨[], by kernel_rfl⟩

set_option maxRecDepth 100000 in
theorem lifted (os : Os) (started : os.Started) (H : Type) (enc : TypeId × Value → H) (F : Stop.Interp) :
    ReturnsInHanded {} Tryd.checked os 12 .any ((OpenSpec.ofChange Rows.fnValidManySpec).preRow enc Tryd.prog Tryd.f12 Rows.fnValidManyRow.domain false Rows.fnValidManyRow.laid) (((OpenSpec.ofChange Rows.fnValidManySpec).at F).post enc Tryd.prog Tryd.f12 false true false false) := by
  obtain ⟨places, hx⟩ := reads os enc
  refine returnsInHanded_of_row (C := Tryd.checked) (s := (OpenSpec.ofChange Rows.fnValidManySpec)) own started (by kernel_rfl) Tryd.func12
    (witness_row_at (enc := enc) (C := Tryd.checked) false (laidWorld os) #[.string ⟨#[]⟩, .int .u8 0] rfl (by kernel_rfl) (by kernel_rfl) (by kernel_rfl)
      (OpenSpec.preRow_of_cond 8 hx (by kernel_rfl) (fun k hk => by cases hk) (by kernel_rfl) (laid_met os _))) ?_
  intro W base args ds gs before hval hW _ _ _ hL _ _
  exact contract H enc F W base args ds gs before hval hW (tabs_of hL)

theorem said : Rows.FnValidManySaid :=
  OpenClaim.holds_of_cond 12 Tryd.f12 rfl rfl rfl rfl rfl rfl rfl ⟨rfl, rfl, rfl, rfl, rfl⟩ rfl rfl rfl rfl rfl (by kernel_rfl) Tryd.func12 (by kernel_rfl)
    (of_decide_eq_true (by kernel_rfl)) (by unfold Func.isWrapper; first | (rw [if_pos (by decide +kernel)]; kernel_rfl) | (rw [if_neg (by decide +kernel)]; exact ⟨rfl, rfl⟩))
    (fun os started H enc _ F => by rw [OpenClaim.pre_eq_preRow]; exact lifted os started H enc F)

theorem plain (f : FuncId) (fn : Func) (hf : Tryd.pinned.checked.prog.funcNamed Rows.fnValidManyRow.func = some f) (hfn : Tryd.pinned.checked.prog.funcs[f]? = some fn) :
    false = Tryd.pinned.checked.prog.looks [] ∧ ∀ (j : Nat) t, fn.params[j]? = some t → Tryd.pinned.checked.prog.wantsStandIn t = false := by
  obtain rfl : f = 12 := Option.some.inj ((show Tryd.prog.funcNamed Rows.fnValidManyRow.func = some 12 by kernel_rfl).symm.trans hf) |>.symm
  obtain rfl : fn = Tryd.f12 := (Option.some.inj (Tryd.func12.symm.trans hfn)).symm
  refine ⟨by kernel_rfl, fun j t ht => ?_⟩
  rw [Tryd.params12] at ht
  have ht2 : t = 9 ∨ t = 5 := by simpa using Array.mem_of_getElem? ht
  rcases ht2 with rfl | rfl
  · exact (show Tryd.prog.wantsStandIn 9 = false by kernel_rfl)
  · exact (show Tryd.prog.wantsStandIn 5 = false by kernel_rfl)

/-- The card. -/
theorem card : Rows.FnValidManyCardSaid :=
  Claim7.holds_tied_plain_at .later [] _ _ _ _ said (fun _ h => by cases h) (by kernel_rfl) (fun _ h => by cases h) fnValidMany_row_tie rfl ⟨rfl, rfl⟩ (by kernel_rfl) rfl plain (by kernel_rfl)
#print axioms card
end Go.Proofs.YtlbhelibgifaaaaDoor.fnValidMany
