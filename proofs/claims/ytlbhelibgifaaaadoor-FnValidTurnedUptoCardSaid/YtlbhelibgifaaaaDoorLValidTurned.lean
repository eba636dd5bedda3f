/-
  laws.FnValidTurned returns true: a name is valid for fs.ValidPath just if its elements, the last one first, are, and the reference says the same. Conditions: the argument holds at most 1048576 values and letters; the two tables of unicode/utf8 lie as listed, which the card ties to the program's text.
-/
import Derived.Test.YtlbhelibgifaaaaDoorBase
import Derived.Test.YtlbhelibgifaaaaDoorWalkG
namespace Go.Proofs.YtlbhelibgifaaaaDoor.fnValidTurned
open Go.ChangeShapes Go.WideShapes Go.ChangeAt Go.RowKit
open Go.ChangeMaps (open_string shut_string)
open Go.Lib (validD)

theorem strV_form (l : List UInt8) : ∃ b : ByteArray, strV l = .string b ∧ b.data.toList = l := ⟨⟨l.toArray⟩, rfl, rfl⟩
/-- The elements, each with a slash behind it. -/
def slashed (rs : List (List UInt8)) : List UInt8 := rs.flatMap (fun e => e ++ [47])
theorem joinS_slashed : ∀ (rs : List (List UInt8)) (e : List UInt8), joinS (rs ++ [e]) = slashed rs ++ e
  | [], e => rfl
  | f :: r, e => by
    rw [List.cons_append, joinS_cons f (r ++ [e]) (by simp), joinS_slashed r e]
    simp [slashed]
/-- What has been put together when the elements from place k on are done. -/
def backL (es : List (List UInt8)) (k : Nat) : List UInt8 := if k = 0 then joinS es.reverse else slashed (es.drop k).reverse
theorem drop_rev (es : List (List UInt8)) (k : Nat) (hk : k < es.length) : (es.drop k).reverse = (es.drop (k + 1)).reverse ++ [es[k]] := by
  rw [List.drop_eq_getElem_cons hk, List.reverse_cons]
theorem back_start (es : List (List UInt8)) (h : 0 < es.length) : backL es es.length = [] := by
  unfold backL
  rw [if_neg (by omega), List.drop_length]; rfl
theorem back_more (es : List (List UInt8)) (k : Nat) (hk : k < es.length) (h0 : 0 < k) : backL es (k + 1) ++ es[k] ++ [47] = backL es k := by
  unfold backL
  rw [if_neg (by omega), if_neg (by omega), drop_rev es k hk]
  simp [slashed]
theorem back_last (es : List (List UInt8)) (hk : 0 < es.length) : backL es (0 + 1) ++ es[0] = backL es 0 := by
  unfold backL
  rw [if_neg (by omega), if_pos rfl]
  have := drop_rev es 0 hk
  rw [List.drop_zero] at this
  rw [this, joinS_slashed]
theorem split_len (l : List UInt8) : (split l).length ≤ l.length + 1 := by
  induction l with
  | nil => simp [split]
  | cons c t ih =>
    obtain ⟨h, r, e⟩ := split_cons t
    rw [e] at ih
    unfold split
    split
    · rw [e]; simp at ih ⊢; omega
    · rw [e]; simp at ih ⊢; omega
theorem split_size (l : List UInt8) (e : List UInt8) (h : e ∈ split l) : e.length ≤ l.length := by
  have := joinS_split l
  have hlen : ∀ (es : List (List UInt8)), e ∈ es → e.length ≤ (joinS es).length := by
    intro es
    induction es with
    | nil => intro h; cases h
    | cons f r ih =>
      intro h
      cases r with
      | nil => rw [List.mem_singleton.1 h]; exact Nat.le_refl _
      | cons g r =>
        rw [joinS_cons f (g :: r) (by simp), List.length_append, List.length_cons]
        rcases List.mem_cons.1 h with rfl | h
        · omega
        · have := ih h; omega
  rw [← this]
  exact hlen _ h
/-- The loop's relation: the elements from place q + 1 on are done. -/
def Rel (es : List (List UInt8)) (t i : Value) : Prop :=
  ∃ (q : Int) (B : ByteArray), -1 ≤ q ∧ q < es.length ∧ i = .int .i64 q ∧ t = .string B ∧ B.data.toList = backL es (q + 1).toNat ∧ (B.size : Int) ≤ ((es.length : Int) - 1 - q) * 1048577
set_option maxRecDepth 100000 in
set_option maxHeartbeats 1000000 in
theorem walk (s : ByteArray) (w : World) (hs : s.size ≤ 1048576) (hT : Tabs w) :
    Calls Tryd.prog 15 #[.string s] w fun e w' => e = .returned (.bool true) ∧ Below w.heap.size w w' := by
  have E := Lib.hid (elements_any s w (by omega))
  have c0 : ∀ W, Below w.heap.size w W → Calls Tryd.prog 17 #[.string s] W _ := fun W hb => impl_in _ w W (by omega) hT hb
  have HT := Lib.hid hT
  clear hT
  go_enter Tryd.func15, Tryd.ntmps15
  go_wp2_with fail
  ((with_reducible refine E.out.mono ?_); rintro e w1 ⟨v, rfl, hown, hb⟩)
  clear E
  have hpos : 0 < (split s.data.toList).length := List.length_pos_iff.2 (split_ne _)
  have hsz := split_size s.data.toList
  have hnl := split_len s.data.toList
  have hfin := vp_turned s.data.toList
  rw [len_list] at hsz hnl
  generalize split s.data.toList = es at hown hpos hsz hnl hfin
  generalize vp s.data.toList = V at c0 hfin
  obtain ⟨g, cap, hv, hg1, hg2, hlen, hcell⟩ := own_strs hown hpos
  clear hown
  rw [hv]
  clear hv
  unfold maxLen at hlen
  have HCELL := Lib.hid hcell
  have HFIN := Lib.hid hfin
  have HSZ := Lib.hid hsz
  have C0 := Lib.hid c0
  clear hcell hfin hsz c0
  go_wp2_with fail
  go_loop [4, 5] (fun t i => Rel es t i) (fun _ i => (intOf i + 1).toNat)
  case atStart => exact ⟨(es.length : Int) - 1, ⟨#[]⟩, by omega, by omega, rfl, rfl, by rw [show ((es.length : Int) - 1 + 1).toNat = es.length by omega, back_start es hpos], by show (0 : Int) ≤ _; omega⟩
  case round =>
    obtain ⟨q, B, hq1, hq2, rfl, rfl, hB, hBz⟩ := hrel
    have HB := Lib.hid hB
    clear hB
    by_cases hq0 : 0 ≤ q
    · obtain ⟨k, rfl⟩ := Int.eq_ofNat_of_zero_le hq0
      have hk : k < es.length := by omega
      have hcell := HCELL.out k hk
      obtain ⟨x, hx1, hx2⟩ := strV_form es[k]
      rw [hx1] at hcell
      have hxs : x.size ≤ s.size := by rw [← len_list x, hx2]; exact HSZ.out _ (List.getElem_mem hk)
      have hB2 : B.size ≤ 1099513724929 := by omega
      have HX := Lib.hid hx2
      clear hx1 hx2
      by_cases hk0 : 0 < k
      · have hk0z : (0 : Int) < (k : Int) := by omega
        have hm : (B ++ x ++ (⟨#[47]⟩ : ByteArray)).data.toList = backL es k := by
          rw [cat_list, cat_list, HB.out, HX.out]; exact back_more es k hk hk0
        have hz : (B ++ x ++ (⟨#[47]⟩ : ByteArray)).size = B.size + x.size + 1 := by rw [cat_size, cat_size]; rfl
        have HM := Lib.hid hm
        have HZ := Lib.hid hz
        clear hm hz
        go_wp2_with fail
        go_round
        case rel => exact ⟨(k : Int) - 1, _, by omega, by omega, rfl, rfl, by rw [show ((k : Int) - 1 + 1).toNat = k by omega]; exact HM.out, by rw [HZ.out]; omega⟩
        case measure => simp [intOf]
      · obtain rfl : k = 0 := by omega
        have hm : (B ++ x).data.toList = backL es 0 := by
          rw [cat_list, HB.out, HX.out]; exact back_last es hpos
        have hz : (B ++ x).size = B.size + x.size := by rw [cat_size]
        have HM := Lib.hid hm
        have HZ := Lib.hid hz
        clear hm hz
        go_wp2_with fail
        go_round
        case rel => exact ⟨-1, _, by omega, by omega, rfl, rfl, HM.out, by rw [HZ.out]; omega⟩
        case measure => simp [intOf]
    · obtain rfl : q = -1 := by omega
      have hB := HB.out
      have e0 : backL es (-1 + 1 : Int).toNat = joinS es.reverse := rfl
      rw [e0] at hB
      have hv := HFIN.out
      rw [← hB] at hv
      have hz : B.size ≤ 8000000000000 := by omega
      have c1 : ∀ W, Below w.heap.size w W → Calls Tryd.prog 17 #[.string B] W _ := fun W hb => impl_in B w W (by omega) HT.out hb
      have c2 : ∀ W, Below w.heap.size w W → Calls Tryd.prog 16 #[.string B] W _ := fun W hb => spec_in B w W hz hb
      rw [hv] at c1 c2
      have C1 := Lib.hid c1
      have C2 := Lib.hid c2
      clear c1 c2 hv hB HB HFIN e0
      cases V
      all_goals
        go_wp2_with fail
        ((with_reducible refine (C0.out _ hb).mono ?_); clear hb; rintro e w2 ⟨rfl, hb⟩)
        go_wp2_with fail
        ((with_reducible refine (C1.out _ hb).mono ?_); clear hb; rintro e w2 ⟨rfl, hb⟩)
        go_wp2_with fail
        ((with_reducible refine (C2.out _ hb).mono ?_); clear hb; rintro e w2 ⟨rfl, hb⟩)
        go_wp2_with fail
        go_ret
        exact ⟨rfl, hb⟩

/-- The walk, for every argument that can be read. -/
theorem contract (H : Type) (enc : TypeId × Value → H) (F : Stop.Interp) (W : World) (base : Nat) (args : Array Value) (ds gs : List (DataW H)) (before : List MemPlace)
    (hval : ∀ (j : Nat) t v, Tryd.f15.params[j]? = some t → args[j]? = some v → Value.okWide Tryd.prog W .any base t v)
    (hW : DataW.Whole enc Tryd.prog Tryd.f15.params.toList Rows.fnValidTurnedSpec.vars false W args.toList ds gs before) (hk : Rows.uptoSmall H (ds ++ gs) = true) (hT : Tabs W) :
    Calls Tryd.prog 15 args W fun e W' => ∃ v, e = .returned v ∧ ((Rows.OpenSpec.upto Rows.fnValidTurnedSpec).at F).post enc Tryd.prog Tryd.f15 false true false false W args v W' := by
  have hW' := hW
  obtain ⟨p, q, hA0, hV, rfl, hfz, hnd⟩ := hW
  have hA : DataW.TrodAll enc Tryd.prog W 0 (fun _ => true) true Tryd.f15.params.toList args.toList ds p := hA0
  rw [Tryd.params15] at hA hval
  obtain ⟨v0, d0, rfl, rfl, h0⟩ := trodAll_one hA
  obtain ⟨rfl, rfl⟩ := trodVars_none hV
  obtain ⟨s0, rfl, rfl, rfl, ws0⟩ := open_string Tryd.underlying9 (hval 0 9 v0 rfl rfl) h0
  clear hA0 hV
  simp only [List.append_nil] at hW' hk
  have hb : Rows.uptoBulkAll ([.lit (.string s0.data.toList)] : List (DataW H)) ≤ 1048576 := of_decide_eq_true hk
  simp only [Rows.uptoBulkAll, Rows.uptoBulk, Array.length_toList, ByteArray.size_data] at hb
  refine (walk s0 W (by omega) hT).mono ?_
  rintro e W' ⟨rfl, bel⟩
  have e1 : ((Rows.OpenSpec.upto Rows.fnValidTurnedSpec).at F).fn H ([.lit (.string s0.data.toList)] ++ []) = { results := [.lit (.bool true)], args := [.lit (.string s0.data.toList)] } := rfl
  refine ⟨_, rfl, _, _, _, [], [], [], hW', ?_, ?_, ?_, bel.frame _, fun h => by cases h⟩
  · rw [e1]; exact trodAll_mk1 (shut_bool Tryd.underlying4 _)
  · rw [e1]; exact trodAll_mk1 (shut_string Tryd.underlying9 ws0)
  · rw [e1]; rfl

theorem reads (os : Os) {H : Type} (enc : TypeId × Value → H) : ∃ places, DataW.whole enc Tryd.prog ((laidWorld os).forCall (fun _ _ => 0) ⟨#[], #[.string ⟨#[]⟩], []⟩).memory Tryd.f15.params.toList Rows.fnValidTurnedSpec.vars false #[Value.string ⟨#[]⟩].toList 8 = some ([.lit (.string [])], [], places) :=
  ⟨[], by kernel_rfl⟩

set_option maxRecDepth 100000 in
theorem lifted (os : Os) (started : os.Started) (H : Type) (enc : TypeId × Value → H) (F : Stop.Interp) :
    ReturnsInHanded {} Tryd.checked os 15 .any ((Rows.OpenSpec.upto Rows.fnValidTurnedSpec).preRow enc Tryd.prog Tryd.f15 Rows.fnValidTurnedUptoRow.domain false Rows.fnValidTurnedUptoRow.laid) (((Rows.OpenSpec.upto Rows.fnValidTurnedSpec).at F).post enc Tryd.prog Tryd.f15 false true false false) := by
  obtain ⟨places, hx⟩ := reads os enc
  refine returnsInHanded_of_row (C := Tryd.checked) (s := (Rows.OpenSpec.upto Rows.fnValidTurnedSpec)) own started (by kernel_rfl) Tryd.func15
    (witness_row_at (enc := enc) (C := Tryd.checked) false (laidWorld os) #[.string ⟨#[]⟩] rfl (by kernel_rfl) (by kernel_rfl) (by kernel_rfl)
      (OpenSpec.preRow_of_cond 8 hx (by kernel_rfl) (fun k hk => by cases hk; kernel_rfl) (by kernel_rfl) (laid_met os _))) ?_
  intro W base args ds gs before hval hW _ hcond _ hL _ _
  exact contract H enc F W base args ds gs before hval hW (hcond _ rfl) (tabs_of hL)

theorem said : Rows.FnValidTurnedUptoSaid :=
  OpenClaim.holds_of_cond 15 Tryd.f15 rfl rfl rfl rfl rfl rfl rfl ⟨rfl, rfl, rfl, rfl, rfl⟩ rfl rfl rfl rfl rfl (by kernel_rfl) Tryd.func15 (by kernel_rfl)
    (of_decide_eq_true (by kernel_rfl)) (by unfold Func.isWrapper; first | (rw [if_pos (by decide +kernel)]; kernel_rfl) | (rw [if_neg (by decide +kernel)]; exact ⟨rfl, rfl⟩))
    (fun os started H enc _ F => by rw [OpenClaim.pre_eq_preRow]; exact lifted os started H enc F)

theorem plain (f : FuncId) (fn : Func) (hf : Tryd.pinned.checked.prog.funcNamed Rows.fnValidTurnedUptoRow.func = some f) (hfn : Tryd.pinned.checked.prog.funcs[f]? = some fn) :
    false = Tryd.pinned.checked.prog.looks [] ∧ ∀ (j : Nat) t, fn.params[j]? = some t → Tryd.pinned.checked.prog.wantsStandIn t = false := by
  obtain rfl : f = 15 := Option.some.inj ((show Tryd.prog.funcNamed Rows.fnValidTurnedUptoRow.func = some 15 by kernel_rfl).symm.trans hf) |>.symm
  obtain rfl : fn = Tryd.f15 := (Option.some.inj (Tryd.func15.symm.trans hfn)).symm
  refine ⟨by kernel_rfl, fun j t ht => ?_⟩
  rw [Tryd.params15] at ht
  obtain rfl : t = 9 := by simpa using Array.mem_of_getElem? ht
  exact (show Tryd.prog.wantsStandIn 9 = false by kernel_rfl)

/-- The card. -/
theorem card : Rows.FnValidTurnedUptoCardSaid :=
  Claim7.holds_tied_plain_at .later [] _ _ _ _ said (fun _ h => by cases h) (by kernel_rfl) (fun _ h => by cases h) fnValidTurnedUpto_row_tie rfl ⟨rfl, rfl⟩ (by kernel_rfl) rfl plain (by kernel_rfl)
#print axioms card
end Go.Proofs.YtlbhelibgifaaaaDoor.fnValidTurned
