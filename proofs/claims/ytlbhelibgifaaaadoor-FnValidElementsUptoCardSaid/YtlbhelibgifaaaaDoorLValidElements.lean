/-
  laws.FnValidElements returns true: a name other than a dot is valid for fs.ValidPath just if each of its elements is, alone, and none is a dot. Conditions: the argument holds at most 1048576 values and letters; the two tables of unicode/utf8 lie as listed, which the card ties to the program's text.
-/
import Derived.Test.YtlbhelibgifaaaaDoorBase
import Derived.Test.YtlbhelibgifaaaaDoorWalkG
namespace Go.Proofs.YtlbhelibgifaaaaDoor.fnValidElements
open Go.ChangeShapes Go.WideShapes Go.ChangeAt Go.RowKit
open Go.ChangeMaps (open_string shut_string)
open Go.Lib (validD)

theorem strV_form (l : List UInt8) : ∃ b : ByteArray, strV l = .string b ∧ b.data.toList = l := ⟨⟨l.toArray⟩, rfl, rfl⟩
def els (l : List (List UInt8)) (k : Nat) : Bool := (l.take k).all (fun e => !(e == [46]) && vp e)
theorem els_succ (l : List (List UInt8)) (k : Nat) (hk : k < l.length) : els l (k + 1) = (els l k && (!(l[k] == [46]) && vp l[k])) := by
  unfold els
  rw [List.take_succ_eq_append_getElem hk, List.all_append]; simp
theorem els_all (l : List UInt8) (k : Nat) (hk : (split l).length ≤ k) : vp l = (els (split l) k || l == [46]) := by
  unfold els
  rw [List.take_of_length_le hk]; exact vp_elements l
theorem split_size (l : List UInt8) (e : List UInt8) (h : e ∈ split l) : e.length ≤ l.length := by
  have := joinS_split l
  have hlen : ∀ (es : List (List UInt8)), e ∈ es → e.length ≤ (joinS es).length := by
    intro es
    induction es with
    | nil => intro h; cases h
    | cons f r ih =>
      intro h
      cases r with
      | nil => rw [List.mem_singleton.1 h]; exact Nat.le_refl _
      | cons g r =>
        rw [joinS_cons f (g :: r) (by simp), List.length_append, List.length_cons]
        rcases List.mem_cons.1 h with rfl | h
        · omega
        · have := ih h; omega
  rw [← this]
  exact hlen _ h
set_option maxRecDepth 100000 in
set_option maxHeartbeats 1000000 in
theorem walk (s : ByteArray) (w : World) (hs : s.size ≤ 1048576) (hT : Tabs w) :
    Calls Tryd.prog 8 #[.string s] w fun e w' => e = .returned (.bool true) ∧ Below w.heap.size w w' := by
  have E := Lib.hid (elements_any s w (by omega))
  have c0 : ∀ W, Below w.heap.size w W → Calls Tryd.prog 17 #[.string s] W _ := fun W hb => impl_in _ w W (by omega) hT hb
  have HT := Lib.hid hT
  clear hT
  go_enter Tryd.func8, Tryd.ntmps8
  go_wp2_with fail
  ((with_reducible refine E.out.mono ?_); rintro e w1 ⟨v, rfl, hown, hb⟩)
  clear E
  have hpos : 0 < (split s.data.toList).length := List.length_pos_iff.2 (split_ne _)
  have hfin := els_all s.data.toList
  have hsz := split_size s.data.toList
  rw [dot_toList, len_list] at *
  generalize split s.data.toList = es at hown hpos hfin hsz
  generalize vp s.data.toList = V at c0 hfin
  obtain ⟨g, cap, hv, hg1, hg2, hlen, hcell⟩ := own_strs hown hpos
  clear hown hpos
  rw [hv]
  clear hv
  unfold maxLen at hlen
  have HCELL := Lib.hid hcell
  have HFIN := Lib.hid hfin
  have HSZ := Lib.hid hsz
  have C0 := Lib.hid c0
  clear hcell hfin hsz c0
  go_wp2_with fail
  go_loopw [3, 9] (fun a i wr => ∃ k : Nat, k ≤ es.length ∧ i = .int .i64 k ∧ a = .bool (els es k) ∧ Below w1.heap.size w1 wr) (fun _ i _ => es.length - (intOf i).toNat)
  case atStart => exact ⟨0, Nat.zero_le _, rfl, rfl, Below.refl _ _⟩
  case round =>
    obtain ⟨k, hk, rfl, rfl, hw⟩ := hrel
    have hbw : Below w.heap.size w wr := hb.trans (hw.mono hb.size)
    by_cases hlt : k < es.length
    · have hltz : (k : Int) < (es.length : Int) := by omega
      have hc1 := HCELL.out k hlt
      have hc2 : wr.cell? ⟨g, k, none⟩ = some (strV es[k]) := by rw [hw.cell (p := ⟨g, k, none⟩) hg2]; exact hc1
      obtain ⟨x, hx1, hx2⟩ := strV_form es[k]
      rw [hx1] at hc2
      have hxs : x.size ≤ s.size := by rw [← len_list x, hx2]; exact HSZ.out _ (List.getElem_mem hlt)
      have hsucc := els_succ es k hlt
      rw [← hx2, dot_toList] at hsucc
      have c1 : ∀ W, Below w1.heap.size w1 W → Calls Tryd.prog 17 #[.string x] W _ := fun W h => impl_in x w1 W (by omega) (HT.out.below hb rfl) h
      generalize vp x.data.toList = vx at hsucc c1
      generalize els es k = b at hsucc
      obtain ⟨d, hd⟩ : ∃ d, (x.toList == [46]) = d := ⟨_, rfl⟩
      rw [hd] at hsucc
      have HS := Lib.hid hsucc
      have C1 := Lib.hid c1
      clear hsucc c1 hc1 hx1 hx2 hbw
      cases b
      · clear hd C1
        go_wp2_with fail
        go_roundw
        case rel => exact ⟨k + 1, by omega, by go_num, by rw [HS.out]; rfl, hw⟩
        case measure => simp [intOf]; omega
      cases d
      · go_wp2_with fail
        ((with_reducible refine (C1.out _ hw).mono ?_); clear hw; rintro e w2 ⟨rfl, hw⟩)
        go_wp2_with fail
        go_roundw
        case rel => exact ⟨k + 1, by omega, by go_num, by rw [HS.out]; rfl, hw⟩
        case measure => simp [intOf]; omega
      · clear C1
        go_wp2_with fail
        go_roundw
        case rel => exact ⟨k + 1, by omega, by go_num, by rw [HS.out]; rfl, hw⟩
        case measure => simp [intOf]; omega
    · have hltz : ¬ ((k : Int) < (es.length : Int)) := by omega
      have hfin := HFIN.out k (by omega)
      generalize els es k = b at hfin
      obtain ⟨d, hd⟩ : ∃ d, (s.toList == [46]) = d := ⟨_, rfl⟩
      rw [hd] at hfin
      subst hfin
      clear hw
      cases b <;> cases d
      all_goals
        go_wp2_with fail
        ((with_reducible refine (C0.out _ hbw).mono ?_); clear hbw; rintro e w2 ⟨rfl, hbw⟩)
        go_wp2_with fail
        go_ret
        exact ⟨rfl, hbw⟩

/-- The walk, for every argument that can be read. -/
theorem contract (H : Type) (enc : TypeId × Value → H) (F : Stop.Interp) (W : World) (base : Nat) (args : Array Value) (ds gs : List (DataW H)) (before : List MemPlace)
    (hval : ∀ (j : Nat) t v, Tryd.f8.params[j]? = some t → args[j]? = some v → Value.okWide Tryd.prog W .any base t v)
    (hW : DataW.Whole enc Tryd.prog Tryd.f8.params.toList Rows.fnValidElementsSpec.vars false W args.toList ds gs before) (hk : Rows.uptoSmall H (ds ++ gs) = true) (hT : Tabs W) :
    Calls Tryd.prog 8 args W fun e W' => ∃ v, e = .returned v ∧ ((Rows.OpenSpec.upto Rows.fnValidElementsSpec).at F).post enc Tryd.prog Tryd.f8 false true false false W args v W' := by
  have hW' := hW
  obtain ⟨p, q, hA0, hV, rfl, hfz, hnd⟩ := hW
  have hA : DataW.TrodAll enc Tryd.prog W 0 (fun _ => true) true Tryd.f8.params.toList args.toList ds p := hA0
  rw [Tryd.params8] at hA hval
  obtain ⟨v0, d0, rfl, rfl, h0⟩ := trodAll_one hA
  obtain ⟨rfl, rfl⟩ := trodVars_none hV
  obtain ⟨s0, rfl, rfl, rfl, ws0⟩ := open_string Tryd.underlying9 (hval 0 9 v0 rfl rfl) h0
  clear hA0 hV
  simp only [List.append_nil] at hW' hk
  have hb : Rows.uptoBulkAll ([.lit (.string s0.data.toList)] : List (DataW H)) ≤ 1048576 := of_decide_eq_true hk
  simp only [Rows.uptoBulkAll, Rows.uptoBulk, Array.length_toList, ByteArray.size_data] at hb
  refine (walk s0 W (by omega) hT).mono ?_
  rintro e W' ⟨rfl, bel⟩
  have e1 : ((Rows.OpenSpec.upto Rows.fnValidElementsSpec).at F).fn H ([.lit (.string s0.data.toList)] ++ []) = { results := [.lit (.bool true)], args := [.lit (.string s0.data.toList)] } := rfl
  refine ⟨_, rfl, _, _, _, [], [], [], hW', ?_, ?_, ?_, bel.frame _, fun h => by cases h⟩
  · rw [e1]; exact trodAll_mk1 (shut_bool Tryd.underlying4 _)
  · rw [e1]; exact trodAll_mk1 (shut_string Tryd.underlying9 ws0)
  · rw [e1]; rfl

theorem reads (os : Os) {H : Type} (enc : TypeId × Value → H) : ∃ places, DataW.whole enc Tryd.prog ((laidWorld os).forCall (fun _ _ => 0) ⟨#[], #[.string ⟨#[]⟩], []⟩).memory Tryd.f8.params.toList Rows.fnValidElementsSpec.vars false #[Value.string ⟨#[]⟩].toList 8 = some ([.lit (.string [])], [], places) :=
  ⟨[], by kernel_rfl⟩

set_option maxRecDepth 100000 in
theorem lifted (os : Os) (started : os.Started) (H : Type) (enc : TypeId × Value → H) (F : Stop.Interp) :
    ReturnsInHanded {} Tryd.checked os 8 .any ((Rows.OpenSpec.upto Rows.fnValidElementsSpec).preRow enc Tryd.prog Tryd.f8 Rows.fnValidElementsUptoRow.domain false Rows.fnValidElementsUptoRow.laid) (((Rows.OpenSpec.upto Rows.fnValidElementsSpec).at F).post enc Tryd.prog Tryd.f8 false true false false) := by
  obtain ⟨places, hx⟩ := reads os enc
  refine returnsInHanded_of_row (C := Tryd.checked) (s := (Rows.OpenSpec.upto Rows.fnValidElementsSpec)) own started (by kernel_rfl) Tryd.func8
    (witness_row_at (enc := enc) (C := Tryd.checked) false (laidWorld os) #[.string ⟨#[]⟩] rfl (by kernel_rfl) (by kernel_rfl) (by kernel_rfl)
      (OpenSpec.preRow_of_cond 8 hx (by kernel_rfl) (fun k hk => by cases hk; kernel_rfl) (by kernel_rfl) (laid_met os _))) ?_
  intro W base args ds gs before hval hW _ hcond _ hL _ _
  exact contract H enc F W base args ds gs before hval hW (hcond _ rfl) (tabs_of hL)

theorem said : Rows.FnValidElementsUptoSaid :=
  OpenClaim.holds_of_cond 8 Tryd.f8 rfl rfl rfl rfl rfl rfl rfl ⟨rfl, rfl, rfl, rfl, rfl⟩ rfl rfl rfl rfl rfl (by kernel_rfl) Tryd.func8 (by kernel_rfl)
    (of_decide_eq_true (by kernel_rfl)) (by unfold Func.isWrapper; first | (rw [if_pos (by decide +kernel)]; kernel_rfl) | (rw [if_neg (by decide +kernel)]; exact ⟨rfl, rfl⟩))
    (fun os started H enc _ F => by rw [OpenClaim.pre_eq_preRow]; exact lifted os started H enc F)

theorem plain (f : FuncId) (fn : Func) (hf : Tryd.pinned.checked.prog.funcNamed Rows.fnValidElementsUptoRow.func = some f) (hfn : Tryd.pinned.checked.prog.funcs[f]? = some fn) :
    false = Tryd.pinned.checked.prog.looks [] ∧ ∀ (j : Nat) t, fn.params[j]? = some t → Tryd.pinned.checked.prog.wantsStandIn t = false := by
  obtain rfl : f = 8 := Option.some.inj ((show Tryd.prog.funcNamed Rows.fnValidElementsUptoRow.func = some 8 by kernel_rfl).symm.trans hf) |>.symm
  obtain rfl : fn = Tryd.f8 := (Option.some.inj (Tryd.func8.symm.trans hfn)).symm
  refine ⟨by kernel_rfl, fun j t ht => ?_⟩
  rw [Tryd.params8] at ht
  obtain rfl : t = 9 := by simpa using Array.mem_of_getElem? ht
  exact (show Tryd.prog.wantsStandIn 9 = false by kernel_rfl)

/-- The card. -/
theorem card : Rows.FnValidElementsUptoCardSaid :=
  Claim7.holds_tied_plain_at .later [] _ _ _ _ said (fun _ h => by cases h) (by kernel_rfl) (fun _ h => by cases h) fnValidElementsUpto_row_tie rfl ⟨rfl, rfl⟩ (by kernel_rfl) rfl plain (by kernel_rfl)
#print axioms card
end Go.Proofs.YtlbhelibgifaaaaDoor.fnValidElements
