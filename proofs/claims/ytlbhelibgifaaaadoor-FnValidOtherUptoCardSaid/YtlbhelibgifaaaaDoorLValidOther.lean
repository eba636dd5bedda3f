/-
  laws.FnValidOther returns true: a letter in the place of each backslash and colon changes nothing for fs.ValidPath, and the reference says the same of the changed name. Conditions: the argument holds at most 1048576 values and letters; the two tables of unicode/utf8 lie as listed, which the card ties to the program's text.
-/
import Derived.Test.YtlbhelibgifaaaaDoorBase
import Derived.Test.YtlbhelibgifaaaaDoorWalkG
namespace Go.Proofs.YtlbhelibgifaaaaDoor.fnValidOther
open Go.ChangeShapes Go.WideShapes Go.ChangeAt Go.RowKit
open Go.ChangeMaps (open_string shut_string)
open Go.Lib (validD)

theorem info5 : (Tryd.prog.info? 5).map (fun i => (i.zero, i.size, i.bytes)) = some (some (.int .u8 0), 1, 1) := by kernel_rfl
/-- A byte as a value. -/
def bV (b : UInt8) : Value := .int .u8 (b.toNat : Int)
/-- What has been appended behind k rounds. -/
def rowB (s : ByteArray) (k : Nat) : List Value := (s.data.toList.take k).map (fun c => bV (other c))
theorem rowB_snoc (s : ByteArray) (k : Nat) (h : k < s.size) : rowB s (k + 1) = rowB s k ++ [bV (other s[k])] := by
  unfold rowB
  rw [List.take_succ_eq_append_getElem (by simpa using h), List.map_append, get_at s k h]; rfl
theorem app_step {w wr w' : World} {v v' : Value} {s : ByteArray} {k : Nat} {O : Obj} {y : Value} (h : k < s.size) (hy : y = bV (other s[k])) (hown : wr.ownsRow w.heap.size 5 1 v k (rowB s k)) (hb : Below w.heap.size w wr)
    (hown' : w'.ownsRow w.heap.size 5 1 v' (k + 1) (rowB s k ++ [y])) (hg : (wr.alloc O).grownBy w' v.ownBlock) :
    w'.ownsRow w.heap.size 5 1 v' (k + 1) (rowB s (k + 1)) ∧ Below w.heap.size w w' := by
  subst hy
  constructor
  · rw [rowB_snoc s k h]; exact hown'
  · exact (hb.alloc hb.size O).grown hg (by have := hb.size; simp; omega) (fun j e => (hown.lt j e).1)
theorem rowB_end (s t : ByteArray) (ht : t.data.toList = s.data.toList.map other) : rowB s s.size = t.data.toList.map bV := by
  unfold rowB
  rw [List.take_of_length_le (by simp), ht, List.map_map]; rfl
/-- string(b) of a byte slice of the call's own. -/
theorem conv_own {w : World} {B n : Nat} {v : Value} {l : List UInt8} (h : w.ownsRow B 5 1 v n (l.map bV)) (hn : n = l.length) : (convert 24 9 v).run Tryd.prog w = .ok (.string ⟨l.toArray⟩) w := by
  subst hn
  rcases h.2 with ⟨hv, h0⟩ | ⟨g, cap, cur, hv, _⟩
  · have e : l = [] := List.eq_nil_of_length_eq_zero h0
    subst e
    subst hv
    exact run_convert_bytes_nil w 24 5 Tryd.underlying24 Tryd.underlying5 0 0 9 Tryd.underlying9
  · subst hv
    refine run_convert_bytes_back _ 24 9 5 ⟨g, 0, none⟩ cap l Tryd.underlying24 Tryd.underlying5 Tryd.underlying9 (fun j hj => ?_)
    have e : (⟨g, 0, none⟩ : Addr).add j = ⟨g, j, none⟩ := by unfold Addr.add; split <;> simp_all
    rw [e, h.cellAt j (by omega), List.getElem?_map, List.getElem?_eq_getElem hj]; rfl
theorem below_own {w w' : World} {B n : Nat} {v : Value} {xs : List Value} (h : w.ownsRow B 5 1 v n xs) (hb : Below w.heap.size w w') : w'.ownsRow B 5 1 v n xs := by
  obtain ⟨h1, h2⟩ := h
  refine ⟨h1, ?_⟩
  rcases h2 with h2 | ⟨g, cap, cur, hv, hg, hh, r⟩
  · exact .inl h2
  · exact .inr ⟨g, cap, cur, hv, hg, by rw [hb.block g (by
      rcases Nat.lt_or_ge g w.heap.size with h | h
      · exact h
      · rw [Array.getElem?_eq_none (by omega)] at hh; cases hh)]; exact hh, r⟩
set_option maxRecDepth 100000 in
set_option maxHeartbeats 1000000 in
theorem walk (s : ByteArray) (w : World) (hs : s.size ≤ 1048576) (hT : Tabs w) :
    Calls Tryd.prog 13 #[.string s] w fun e w' => e = .returned (.bool true) ∧ Below w.heap.size w w' := by
  obtain ⟨i0, hi, hz0, hz1, hz2⟩ := info_parts info5
  obtain ⟨t, ht⟩ : ∃ t : ByteArray, t.data.toList = s.data.toList.map other := ⟨⟨(s.data.toList.map other).toArray⟩, rfl⟩
  have htz : t.size = s.size := by rw [← len_list t, ht, List.length_map, len_list]
  have HTT := Lib.hid ht
  have HT := Lib.hid hT
  have HZ := Lib.hid htz
  clear hT ht htz
  go_enter Tryd.func13, Tryd.ntmps13
  go_wp2_with fail
  go_loopw [3, 4] (fun v i wr => ∃ k : Nat, k ≤ s.size ∧ i = .int .i64 k ∧ wr.ownsRow w.heap.size 5 1 v k (rowB s k) ∧ Below w.heap.size w wr) (fun _ i _ => s.size - (intOf i).toNat)
  case atStart => exact ⟨0, Nat.zero_le _, rfl, World.ownsRow_made w #[] 0 (Nat.le_refl _) (by unfold maxLen; omega) rfl, (Below.refl _ _).alloc (Nat.le_refl _) _⟩
  case round =>
    obtain ⟨k, hk, rfl, hown, hb⟩ := hrel
    have hsz := hb.size
    by_cases hlt : k < s.size
    · have hltz : (k : Int) < (s.size : Int) := by omega
      obtain ⟨x, hx⟩ : ∃ x, s[k] = x := ⟨_, rfl⟩
      have HS : Hid (∀ (y v' : Value) (w' : World) (O : Obj) (v : Value), y = bV (other x) → wr.ownsRow w.heap.size 5 1 v k (rowB s k) → w'.ownsRow w.heap.size 5 1 v' (k + 1) (rowB s k ++ [y]) → (wr.alloc O).grownBy w' v.ownBlock → w'.ownsRow w.heap.size 5 1 v' (k + 1) (rowB s (k + 1)) ∧ Below w.heap.size w w') :=
        fun y v' w' O v hy h1 h2 h3 => app_step hlt (by rw [hx]; exact hy) h1 hb h2 h3
      by_cases hc : x = 92 ∨ x = 58
      · have hy : Value.int .u8 120 = bV (other x) := by
          unfold other; rw [if_pos hc]; rfl
        have HY := Lib.hid hy
        clear hy
        rcases hc with rfl | rfl
        all_goals
          go_wp2_with (at_builtin; refine wpList_append_own _ rfl _ _ 24 rfl w.heap.size 5 i0 (.int .u8 0) 1 1 Tryd.underlying24 hi hz0 hz1 hz2 rfl (by decide) _ _ _ rfl (hown.alloc _) ⟨wr.heap.size, 0, none⟩ 1 1 [.int .u8 120] rfl rfl (cell_one_new _ _ _) (by intro u hu; rw [List.mem_singleton.1 hu]; rfl) (by unfold maxLen; omega) (by omega) (by simp; omega) ?_)
          intro v' w1 hown' hgrow _
          obtain ⟨ho2, hb2⟩ := HS.out _ _ _ _ _ HY.out hown hown' hgrow
          clear hown' hgrow hown hb
          go_wp2_with fail
          go_roundw
          case rel => exact ⟨k + 1, by omega, by go_num, ho2, hb2⟩
          case measure => simp [intOf]; omega
      · have h1 : ((x.toNat : Int) == 92) = false := u8_ne (n := 92) (fun e => hc (.inl e))
        have h2 : ((x.toNat : Int) == 58) = false := u8_ne (n := 58) (fun e => hc (.inr e))
        have hy : Value.int .u8 (x.toNat : Int) = bV (other x) := by
          unfold other; rw [if_neg hc]; rfl
        have HY := Lib.hid hy
        clear hy hc
        go_wp2_with (at_builtin; refine wpList_append_own _ rfl _ _ 24 rfl w.heap.size 5 i0 (.int .u8 0) 1 1 Tryd.underlying24 hi hz0 hz1 hz2 rfl (by decide) _ _ _ rfl (hown.alloc _) ⟨wr.heap.size, 0, none⟩ 1 1 [.int .u8 (x.toNat : Int)] rfl rfl (cell_one_new _ _ _) (by intro u hu; rw [List.mem_singleton.1 hu]; rfl) (by unfold maxLen; omega) (by omega) (by simp; omega) ?_)
        intro v' w1 hown' hgrow _
        obtain ⟨ho2, hb2⟩ := HS.out _ _ _ _ _ HY.out hown hown' hgrow
        clear hown' hgrow hown hb
        go_wp2_with fail
        go_roundw
        case rel => exact ⟨k + 1, by omega, by go_num, ho2, hb2⟩
        case measure => simp [intOf]; omega
    · obtain rfl : k = s.size := by omega
      clear hsz
      have ho := hown
      rw [rowB_end s t HTT.out] at ho
      have htz := HZ.out
      have c0 : ∀ W, Below wr.heap.size wr W → Calls Tryd.prog 17 #[.string s] W _ := fun W h => impl_in _ wr W (by omega) (HT.out.below hb rfl) h
      have c1 : ∀ W, Below wr.heap.size wr W → Calls Tryd.prog 17 #[.string t] W _ := fun W h => impl_in _ wr W (by omega) (HT.out.below hb rfl) h
      have c2 : ∀ W, Below wr.heap.size wr W → Calls Tryd.prog 16 #[.string t] W _ := fun W h => spec_in _ wr W (by omega) h
      rw [HTT.out, vp_other] at c1 c2
      generalize vp s.data.toList = V at c0 c1 c2
      have hn : s.size = t.data.toList.length := by rw [len_list, htz]
      have KC : Hid (∀ W, Below wr.heap.size wr W → (convert 24 9 u3).run Tryd.prog W = .ok (.string t) W) := fun W h => conv_own (below_own ho h) hn
      have C0 := Lib.hid c0
      have C1 := Lib.hid c1
      have C2 := Lib.hid c2
      clear c0 c1 c2 ho hown hn htz
      have hw := Below.refl wr.heap.size wr
      cases V
      all_goals
        go_wp2_with fail
        ((with_reducible refine (C0.out _ hw).mono ?_); clear hw; rintro e w2 ⟨rfl, hw⟩)
        have kc := KC.out _ hw
        go_wp2_with fail
        ((with_reducible refine (C1.out _ hw).mono ?_); clear hw kc; rintro e w3 ⟨rfl, hw⟩)
        have kc := KC.out _ hw
        go_wp2_with fail
        ((with_reducible refine (C2.out _ hw).mono ?_); clear hw kc; rintro e w4 ⟨rfl, hw⟩)
        go_wp2_with fail
        go_ret
        exact ⟨rfl, hb.trans (hw.mono hb.size)⟩

/-- The walk, for every argument that can be read. -/
theorem contract (H : Type) (enc : TypeId × Value → H) (F : Stop.Interp) (W : World) (base : Nat) (args : Array Value) (ds gs : List (DataW H)) (before : List MemPlace)
    (hval : ∀ (j : Nat) t v, Tryd.f13.params[j]? = some t → args[j]? = some v → Value.okWide Tryd.prog W .any base t v)
    (hW : DataW.Whole enc Tryd.prog Tryd.f13.params.toList Rows.fnValidOtherSpec.vars false W args.toList ds gs before) (hk : Rows.uptoSmall H (ds ++ gs) = true) (hT : Tabs W) :
    Calls Tryd.prog 13 args W fun e W' => ∃ v, e = .returned v ∧ ((Rows.OpenSpec.upto Rows.fnValidOtherSpec).at F).post enc Tryd.prog Tryd.f13 false true false false W args v W' := by
  have hW' := hW
  obtain ⟨p, q, hA0, hV, rfl, hfz, hnd⟩ := hW
  have hA : DataW.TrodAll enc Tryd.prog W 0 (fun _ => true) true Tryd.f13.params.toList args.toList ds p := hA0
  rw [Tryd.params13] at hA hval
  obtain ⟨v0, d0, rfl, rfl, h0⟩ := trodAll_one hA
  obtain ⟨rfl, rfl⟩ := trodVars_none hV
  obtain ⟨s0, rfl, rfl, rfl, ws0⟩ := open_string Tryd.underlying9 (hval 0 9 v0 rfl rfl) h0
  clear hA0 hV
  simp only [List.append_nil] at hW' hk
  have hb : Rows.uptoBulkAll ([.lit (.string s0.data.toList)] : List (DataW H)) ≤ 1048576 := of_decide_eq_true hk
  simp only [Rows.uptoBulkAll, Rows.uptoBulk, Array.length_toList, ByteArray.size_data] at hb
  refine (walk s0 W (by omega) hT).mono ?_
  rintro e W' ⟨rfl, bel⟩
  have e1 : ((Rows.OpenSpec.upto Rows.fnValidOtherSpec).at F).fn H ([.lit (.string s0.data.toList)] ++ []) = { results := [.lit (.bool true)], args := [.lit (.string s0.data.toList)] } := rfl
  refine ⟨_, rfl, _, _, _, [], [], [], hW', ?_, ?_, ?_, bel.frame _, fun h => by cases h⟩
  · rw [e1]; exact trodAll_mk1 (shut_bool Tryd.underlying4 _)
  · rw [e1]; exact trodAll_mk1 (shut_string Tryd.underlying9 ws0)
  · rw [e1]; rfl

theorem reads (os : Os) {H : Type} (enc : TypeId × Value → H) : ∃ places, DataW.whole enc Tryd.prog ((laidWorld os).forCall (fun _ _ => 0) ⟨#[], #[.string ⟨#[]⟩], []⟩).memory Tryd.f13.params.toList Rows.fnValidOtherSpec.vars false #[Value.string ⟨#[]⟩].toList 8 = some ([.lit (.string [])], [], places) :=
  ⟨[], by kernel_rfl⟩

set_option maxRecDepth 100000 in
theorem lifted (os : Os) (started : os.Started) (H : Type) (enc : TypeId × Value → H) (F : Stop.Interp) :
    ReturnsInHanded {} Tryd.checked os 13 .any ((Rows.OpenSpec.upto Rows.fnValidOtherSpec).preRow enc Tryd.prog Tryd.f13 Rows.fnValidOtherUptoRow.domain false Rows.fnValidOtherUptoRow.laid) (((Rows.OpenSpec.upto Rows.fnValidOtherSpec).at F).post enc Tryd.prog Tryd.f13 false true false false) := by
  obtain ⟨places, hx⟩ := reads os enc
  refine returnsInHanded_of_row (C := Tryd.checked) (s := (Rows.OpenSpec.upto Rows.fnValidOtherSpec)) own started (by kernel_rfl) Tryd.func13
    (witness_row_at (enc := enc) (C := Tryd.checked) false (laidWorld os) #[.string ⟨#[]⟩] rfl (by kernel_rfl) (by kernel_rfl) (by kernel_rfl)
      (OpenSpec.preRow_of_cond 8 hx (by kernel_rfl) (fun k hk => by cases hk; kernel_rfl) (by kernel_rfl) (laid_met os _))) ?_
  intro W base args ds gs before hval hW _ hcond _ hL _ _
  exact contract H enc F W base args ds gs before hval hW (hcond _ rfl) (tabs_of hL)

theorem said : Rows.FnValidOtherUptoSaid :=
  OpenClaim.holds_of_cond 13 Tryd.f13 rfl rfl rfl rfl rfl rfl rfl ⟨rfl, rfl, rfl, rfl, rfl⟩ rfl rfl rfl rfl rfl (by kernel_rfl) Tryd.func13 (by kernel_rfl)
    (of_decide_eq_true (by kernel_rfl)) (by unfold Func.isWrapper; first | (rw [if_pos (by decide +kernel)]; kernel_rfl) | (rw [if_neg (by decide +kernel)]; exact ⟨rfl, rfl⟩))
    (fun os started H enc _ F => by rw [OpenClaim.pre_eq_preRow]; exact lifted os started H enc F)

theorem plain (f : FuncId) (fn : Func) (hf : Tryd.pinned.checked.prog.funcNamed Rows.fnValidOtherUptoRow.func = some f) (hfn : Tryd.pinned.checked.prog.funcs[f]? = some fn) :
    false = Tryd.pinned.checked.prog.looks [] ∧ ∀ (j : Nat) t, fn.params[j]? = some t → Tryd.pinned.checked.prog.wantsStandIn t = false := by
  obtain rfl : f = 13 := Option.some.inj ((show Tryd.prog.funcNamed Rows.fnValidOtherUptoRow.func = some 13 by kernel_rfl).symm.trans hf) |>.symm
  obtain rfl : fn = Tryd.f13 := (Option.some.inj (Tryd.func13.symm.trans hfn)).symm
  refine ⟨by kernel_rfl, fun j t ht => ?_⟩
  rw [Tryd.params13] at ht
  obtain rfl : t = 9 := by simpa using Array.mem_of_getElem? ht
  exact (show Tryd.prog.wantsStandIn 9 = false by kernel_rfl)

/-- The card. -/
theorem card : Rows.FnValidOtherUptoCardSaid :=
  Claim7.holds_tied_plain_at .later [] _ _ _ _ said (fun _ h => by cases h) (by kernel_rfl) (fun _ h => by cases h) fnValidOtherUpto_row_tie rfl ⟨rfl, rfl⟩ (by kernel_rfl) rfl plain (by kernel_rfl)
#print axioms card
end Go.Proofs.YtlbhelibgifaaaaDoor.fnValidOther
