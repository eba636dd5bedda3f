/-
  laws.FnValidList returns true for every slice of strings: names with slashes between are valid for fs.ValidPath just if there are some, the reference takes all of them, and none is a dot or there is one alone (slices of 2^24 bytes and more are passed over by the statement itself). Conditions: the two tables of unicode/utf8 lie as listed, which the card ties to the program's text.
-/
import Derived.Test.YtlbhelibgifaaaaDoorBase
import Derived.Test.YtlbhelibgifaaaaDoorWalkG
namespace Go.Proofs.YtlbhelibgifaaaaDoor.fnValidList
open Go.ChangeShapes Go.WideShapes Go.ChangeAt Go.RowKit
open Go.ChangeMaps (open_string shut_string)
open Go.Lib (validD)

theorem info5 : (Tryd.prog.info? 5).map (fun i => (i.zero, i.size, i.bytes)) = some (some (.int .u8 0), 1, 1) := by kernel_rfl
/-- A byte as a value. -/
def bV (b : UInt8) : Value := .int .u8 (b.toNat : Int)
/-- string(b) of a byte slice of the call's own. -/
theorem conv_own {w : World} {B n : Nat} {v : Value} {l : List UInt8} (h : w.ownsRow B 5 1 v n (l.map bV)) (hn : n = l.length) : (convert 24 9 v).run Tryd.prog w = .ok (.string ⟨l.toArray⟩) w := by
  subst hn
  rcases h.2 with ⟨hv, h0⟩ | ⟨g, cap, cur, hv, _⟩
  · have e : l = [] := List.eq_nil_of_length_eq_zero h0
    subst e
    subst hv
    exact run_convert_bytes_nil w 24 5 Tryd.underlying24 Tryd.underlying5 0 0 9 Tryd.underlying9
  · subst hv
    refine run_convert_bytes_back _ 24 9 5 ⟨g, 0, none⟩ cap l Tryd.underlying24 Tryd.underlying5 Tryd.underlying9 (fun j hj => ?_)
    have e : (⟨g, 0, none⟩ : Addr).add j = ⟨g, j, none⟩ := by unfold Addr.add; split <;> simp_all
    rw [e, h.cellAt j (by omega), List.getElem?_map, List.getElem?_eq_getElem hj]; rfl
theorem below_own {w w' : World} {B n : Nat} {v : Value} {xs : List Value} (h : w.ownsRow B 5 1 v n xs) (hb : Below w.heap.size w w') : w'.ownsRow B 5 1 v n xs := by
  obtain ⟨h1, h2⟩ := h
  refine ⟨h1, ?_⟩
  rcases h2 with h2 | ⟨g, cap, cur, hv, hg, hh, r⟩
  · exact .inl h2
  · exact .inr ⟨g, cap, cur, hv, hg, by rw [hb.block g (by
      rcases Nat.lt_or_ge g w.heap.size with h | h
      · exact h
      · rw [Array.getElem?_eq_none (by omega)] at hh; cases hh)]; exact hh, r⟩
/-- The names' bytes, each counted one more. -/
def tot : List ByteArray → Nat
  | [] => 0
  | e :: r => e.size + 1 + tot r
theorem tot_append (a b : List ByteArray) : tot (a ++ b) = tot a + tot b := by
  induction a with
  | nil => simp [tot]
  | cons e r ih => rw [List.cons_append, tot, tot, ih]; omega
def totK (es : List ByteArray) (k : Nat) : Nat := tot (es.take k)
theorem totK_succ (es : List ByteArray) (k : Nat) (hk : k < es.length) : totK es (k + 1) = totK es k + es[k].size + 1 := by
  unfold totK
  rw [List.take_succ_eq_append_getElem hk, tot_append]
  show _ + (es[k].size + 1 + 0) = _
  omega
theorem totK_le (es : List ByteArray) (k : Nat) : totK es k ≤ totK es es.length := by
  unfold totK
  rw [List.take_length]
  conv => rhs; rw [← List.take_append_drop k es]
  rw [tot_append]; omega
theorem totK_mem (es : List ByteArray) (k : Nat) (hk : k < es.length) : es[k].size < totK es es.length := by
  have h1 := totK_succ es k hk
  have h2 := totK_le es (k + 1)
  omega
theorem tot_len (es : List ByteArray) : es.length ≤ tot es := by
  induction es with
  | nil => simp [tot]
  | cons e r ih => rw [tot, List.length_cons]; omega
/-- The first k names with slashes between. -/
def catK (es : List ByteArray) (k : Nat) : List UInt8 := joinS ((es.take k).map (fun e => e.data.toList))
theorem catK_zero (es : List ByteArray) : catK es 0 = [] := rfl
theorem catK_one (es : List ByteArray) (h : 0 < es.length) : catK es (0 + 1) = es[0].data.toList := by
  unfold catK
  rw [List.take_succ_eq_append_getElem h]; rfl
theorem catK_succ (es : List ByteArray) (k : Nat) (hk : k < es.length) (h0 : 0 < k) : catK es (k + 1) = catK es k ++ [47] ++ es[k].data.toList := by
  unfold catK
  rw [List.take_succ_eq_append_getElem hk, List.map_append, List.map_cons, List.map_nil, joinS_snoc _ _ (by
    intro e
    have := congrArg List.length e
    rw [List.length_map, List.length_take, List.length_nil] at this
    omega)]
  simp
theorem joinS_tot : ∀ es : List ByteArray, (joinS (es.map (fun e => e.data.toList))).length ≤ tot es
  | [] => by simp [joinS, tot]
  | [e] => by
    show e.data.toList.length ≤ _
    rw [len_list, tot]; omega
  | e :: f :: r => by
    have ih := joinS_tot (f :: r)
    rw [List.map_cons, joinS_cons _ _ (by simp), List.length_append, List.length_cons, len_list, tot]
    omega
theorem catK_len (es : List ByteArray) (k : Nat) : (catK es k).length ≤ totK es es.length :=
  Nat.le_trans (joinS_tot (es.take k)) (totK_le es k)
def rowK (es : List ByteArray) (k : Nat) : List Value := (catK es k).map bV
def allK (es : List ByteArray) (k : Nat) : Bool := (es.take k).all (fun e => vp e.data.toList && (!(e.toList == [46]) || es.length == 1))
theorem allK_succ (es : List ByteArray) (k : Nat) (hk : k < es.length) : allK es (k + 1) = (allK es k && (vp es[k].data.toList && (!(es[k].toList == [46]) || es.length == 1))) := by
  unfold allK
  rw [List.take_succ_eq_append_getElem hk, List.all_append]; simp
theorem allK_end (es : List ByteArray) (h : 0 < es.length) : vp (catK es es.length) = allK es es.length := by
  unfold catK allK
  rw [List.take_length, vp_list, List.length_map, decide_eq_true h, Bool.true_and, List.all_map]
  exact all_congr (fun e _ => by simp only [Function.comp]; rw [dot_toList])
theorem app_slash {B : Nat} {w' : World} {v' : Value} {es : List ByteArray} {k m : Nat} {r : List Value} {x : ByteArray} (hk : k < es.length) (h0 : 0 < k) (hx : es[k] = x) (hm : m = (catK es k).length + 1) (hr : r = rowK es k ++ [.int .u8 47])
    (h : w'.ownsRow B 5 1 v' (m + x.size) (r ++ Lib.strCells x)) : w'.ownsRow B 5 1 v' (catK es (k + 1)).length (rowK es (k + 1)) := by
  subst hm hr hx
  have e : rowK es (k + 1) = rowK es k ++ [.int .u8 47] ++ Lib.strCells es[k] := by
    unfold rowK Lib.strCells
    rw [catK_succ es k hk h0, List.map_append, List.map_append]; rfl
  have e2 : (catK es (k + 1)).length = (catK es k).length + 1 + es[k].size := by
    rw [catK_succ es k hk h0, List.length_append, List.length_append, len_list]; rfl
  rw [e, e2]; exact h
theorem app_first {B : Nat} {w' : World} {v' : Value} {es : List ByteArray} {m : Nat} {r : List Value} {x : ByteArray} (h0 : 0 < es.length) (hx : es[0] = x) (hm : m = (catK es 0).length) (hr : r = rowK es 0)
    (h : w'.ownsRow B 5 1 v' (m + x.size) (r ++ Lib.strCells x)) : w'.ownsRow B 5 1 v' (catK es (0 + 1)).length (rowK es (0 + 1)) := by
  subst hm hr hx
  have e : rowK es (0 + 1) = rowK es 0 ++ Lib.strCells es[0] := by
    unfold rowK Lib.strCells
    rw [catK_one es h0, catK_zero]; rfl
  have e2 : (catK es (0 + 1)).length = (catK es 0).length + es[0].size := by
    rw [catK_one es h0, catK_zero, len_list]; simp
  rw [e, e2]; exact h
theorem grown_own {w wr w' : World} {v : Value} {n : Nat} {xs : List Value} (hown : wr.ownsRow w.heap.size 5 1 v n xs) (hb : Below w.heap.size w wr) (hg : wr.grownBy w' v.ownBlock) : Below w.heap.size w w' :=
  hb.grown hg hb.size (fun j e => (hown.lt j e).1)

set_option maxRecDepth 100000 in
set_option maxHeartbeats 1000000 in
theorem none_walk (a0 : Option Addr) (cap : Nat) (w : World) (hT : Tabs w) :
    Calls Tryd.prog 11 #[.slice a0 0 cap] w fun e w' => e = .returned (.bool true) ∧ Below w.heap.size w w' := by
  have hb : Below w.heap.size w (w.alloc (.cells #[] 5)) := (Below.refl _ _).alloc (Nat.le_refl _) _
  have c1 := impl_in ⟨#[]⟩ w (w.alloc (.cells #[] 5)) (by decide) hT hb
  have hv : vp (⟨#[]⟩ : ByteArray).data.toList = false := vp_nil
  rw [hv] at c1
  have kc := conv_own (v := .slice (some ⟨w.heap.size, 0, none⟩) 0 0) (l := []) (World.ownsRow_made (base := w.heap.size) (e := 5) (size := 1) w #[] 0 (Nat.le_refl _) (by unfold maxLen; omega) rfl : (w.alloc (.cells #[] 5)).ownsRow w.heap.size 5 1 _ 0 (([] : List UInt8).map bV)) rfl
  have C1 := Lib.hid c1
  clear c1 hv hT hb
  go_enter Tryd.func11, Tryd.ntmps11
  go_wp2_with fail
  refine wp_loop_rounds 1 ?_
  rw [rounds_succ]
  go_wp2_with fail
  refine wp_loop_rounds 1 ?_
  rw [rounds_succ]
  go_wp2_with fail
  ((with_reducible refine C1.out.mono ?_); rintro e w2 ⟨rfl, hb⟩)
  go_wp2_with fail
  go_ret
  exact ⟨rfl, hb⟩

set_option maxRecDepth 100000 in
set_option maxHeartbeats 4000000 in
theorem some_walk (b off cap : Nat) (es : List ByteArray) (w : World) (hn : 0 < es.length) (hlen : es.length ≤ 9223372036854775807) (hbw : b < w.heap.size)
    (hc : ∀ j (hj : j < es.length), w.cell? ⟨b, off + j, none⟩ = some (.string es[j])) (hz : ∀ j (hj : j < es.length), es[j].size ≤ 9223372036854775807) (hT : Tabs w) :
    Calls Tryd.prog 11 #[.slice (some ⟨b, off, none⟩) es.length cap] w fun e w' => e = .returned (.bool true) ∧ Below w.heap.size w w' := by
  obtain ⟨i0, hi, hz0, hz1, hz2⟩ := info_parts info5
  have HC := Lib.hid hc
  have HZ := Lib.hid hz
  have HT := Lib.hid hT
  have hnz : (0 : Int) < (es.length : Int) := by omega
  clear hc hz hT
  go_enter Tryd.func11, Tryd.ntmps11
  go_wp2_with fail
  go_loop [3, 12] (fun n i => ∃ k m : Nat, k ≤ es.length ∧ i = .int .i64 k ∧ n = .int .i64 m ∧ m ≤ 16777216 ∧ totK es k = m) (fun _ i => es.length - (intOf i).toNat)
  case atStart => exact ⟨0, 0, Nat.zero_le _, rfl, rfl, Nat.zero_le _, rfl⟩
  case round =>
    obtain ⟨k, m, hk, rfl, rfl, hm, htot⟩ := hrel
    have HTOT := Lib.hid htot
    clear htot
    by_cases hlt : k < es.length
    · have hltz : (k : Int) < (es.length : Int) := by omega
      have hcell := HC.out k hlt
      have hxz := HZ.out k hlt
      have hsucc := totK_succ es k hlt
      generalize es[k] = x at hcell hxz hsucc
      by_cases hbig : 16777216 ≤ x.size + m
      · have hbz : (16777216 : Int) - (m : Int) ≤ (x.size : Int) := by omega
        clear hsucc
        go_wp2_with fail
        go_ret
        exact ⟨rfl, Below.refl _ _⟩
      · have hbz : ¬ ((16777216 : Int) - (m : Int) ≤ (x.size : Int)) := by omega
        have hbz2 : (x.size : Int) < (16777216 : Int) - (m : Int) := by omega
        have HS := Lib.hid hsucc
        clear hsucc
        go_wp2_with fail
        go_round
        case rel => exact ⟨k + 1, m + x.size + 1, by omega, by go_num, by go_num, by omega, by rw [HS.out, HTOT.out]⟩
        case measure => simp [intOf]; omega
    · obtain rfl : k = es.length := by omega
      have htl : totK es es.length ≤ 16777216 := by rw [HTOT.out]; exact hm
      have hcl := fun j => Nat.le_trans (catK_len es j) htl
      have hml := fun j hj => Nat.lt_of_lt_of_le (totK_mem es j hj) htl
      have hl2 : es.length ≤ 16777216 := by
        have := tot_len es
        unfold totK at htl
        rw [List.take_length] at htl
        omega
      have HCL := Lib.hid hcl
      have HML := Lib.hid hml
      clear hcl hml htl HTOT HZ hm
      go_wp2_with fail
      go_loopw [6, 7, 33] (fun v a i wr => ∃ k : Nat, k ≤ es.length ∧ i = .int .i64 k ∧ a = .bool (allK es k) ∧ wr.ownsRow w.heap.size 5 1 v (catK es k).length (rowK es k) ∧ Below w.heap.size w wr) (fun _ _ i _ => es.length - (intOf i).toNat)
      case atStart => exact ⟨0, Nat.zero_le _, rfl, rfl, World.ownsRow_made w #[] 0 (Nat.le_refl _) (by unfold maxLen; omega) rfl, (Below.refl _ _).alloc (Nat.le_refl _) _⟩
      case round =>
        obtain ⟨k, hk2, rfl, rfl, hown, hb⟩ := hrel
        have hsz := hb.size
        by_cases hlt2 : k < es.length
        · have hltz : (k : Int) < (es.length : Int) := by omega
          have hcell : wr.cell? ⟨b, off + k, none⟩ = some (.string es[k]) := by rw [hb.cell (p := ⟨b, off + k, none⟩) hbw]; exact HC.out k hlt2
          have hxz := HML.out k hlt2
          have hjz := HCL.out k
          have hsucc := allK_succ es k hlt2
          obtain ⟨x, hx⟩ : ∃ x, es[k] = x := ⟨_, rfl⟩
          rw [hx] at hcell hxz hsucc
          have cS : ∀ W, Calls Tryd.prog 16 #[.string x] W _ := fun W => spec_any x W (by omega)
          generalize vp x.data.toList = vx at hsucc cS
          generalize allK es k = a at hsucc
          obtain ⟨d, hd⟩ : ∃ d, (x.toList == [46]) = d := ⟨_, rfl⟩
          obtain ⟨o, ho1⟩ : ∃ o, (es.length == 1) = o := ⟨_, rfl⟩
          have ho2 : ((es.length : Int) == 1) = o := by
            rw [← ho1, Bool.eq_iff_iff]; simp; omega
          rw [hd, ho1] at hsucc
          have HX := Lib.hid hx
          have CS := Lib.hid cS
          have HS := Lib.hid hsucc
          clear hx cS hsucc ho1
          obtain ⟨n, hn2⟩ : ∃ n, n = (catK es k).length := ⟨_, rfl⟩
          obtain ⟨r, hr⟩ : ∃ r, r = rowK es k := ⟨_, rfl⟩
          rw [← hn2] at hown hjz
          rw [← hr] at hown
          have HN := Lib.hid hn2
          have HR := Lib.hid hr
          clear hn2 hr
          by_cases hk0 : 0 < k
          · have hk0z : (0 : Int) < (k : Int) := by omega
            go_wp2_with (at_builtin; refine wpList_append_own _ rfl _ _ 24 rfl w.heap.size 5 i0 (.int .u8 0) 1 1 Tryd.underlying24 hi hz0 hz1 hz2 rfl (by decide) _ _ _ rfl (hown.alloc _) ⟨wr.heap.size, 0, none⟩ 1 1 [.int .u8 47] rfl rfl (cell_one_new _ _ _) (by intro u hu; rw [List.mem_singleton.1 hu]; rfl) (by unfold maxLen; omega) (by omega) (by simp; omega) ?_)
            intro v1 w1 hown1 hgrow1 _
            have hb1 : Below w.heap.size w w1 := grown_own (hown.alloc _) (hb.alloc hb.size _) hgrow1
            have hsz1 := hb1.size
            obtain ⟨n1, hn1⟩ : ∃ n1, n1 = n + 1 := ⟨_, rfl⟩
            obtain ⟨r1, hr1⟩ : ∃ r1, r1 = r ++ [Value.int .u8 47] := ⟨_, rfl⟩
            rw [← hn1, ← hr1] at hown1
            have hjz1 : n1 ≤ 16777217 := by omega
            have HN1 := Lib.hid hn1
            have HR1 := Lib.hid hr1
            clear hn1 hr1 hgrow1 hown hb hsz hcell
            go_wp2_with (at_builtin; refine Lib.wpList_append_own_string _ rfl _ _ 24 9 rfl w.heap.size 5 i0 Tryd.underlying24 Tryd.underlying9 hi hz0 hz1 hz2 _ _ _ rfl hown1 x rfl (by unfold maxLen; omega) (by omega) (by omega) ?_)
            intro v2 w2 hown2 hgrow2 _
            have hb2 : Below w.heap.size w w2 := grown_own hown1 hb1 hgrow2
            have hown3 := app_slash hlt2 hk0 HX.out (by rw [HN1.out, HN.out]) (by rw [HR1.out, HR.out]) hown2
            clear hown2 hgrow2 hown1 hb1 hsz1
            cases a <;> cases vx <;> cases d <;> cases o
            all_goals
              go_wp2_with fail
              (try ((with_reducible refine (CS.out _).mono ?_); rintro e w3 ⟨rfl, hb3⟩; replace hown3 := below_own hown3 hb3; replace hb2 := hb2.trans (hb3.mono hb2.size); clear hb3; go_wp2_with fail))
              go_roundw
              case rel => exact ⟨k + 1, by omega, by go_num, by rw [HS.out]; rfl, hown3, hb2⟩
              case measure => simp [intOf]; omega
          · obtain rfl : k = 0 := by omega
            rw [Nat.add_zero] at hcell
            go_wp2_with (at_builtin; refine Lib.wpList_append_own_string _ rfl _ _ 24 9 rfl w.heap.size 5 i0 Tryd.underlying24 Tryd.underlying9 hi hz0 hz1 hz2 _ _ _ rfl hown x rfl (by unfold maxLen; omega) (by omega) (by omega) ?_)
            intro v2 w2 hown2 hgrow2 _
            have hb2 : Below w.heap.size w w2 := grown_own hown hb hgrow2
            have hown3 := app_first hlt2 HX.out HN.out HR.out hown2
            clear hown2 hgrow2 hown hb hsz hcell
            cases a <;> cases vx <;> cases d <;> cases o
            all_goals
              go_wp2_with fail
              (try ((with_reducible refine (CS.out _).mono ?_); rintro e w3 ⟨rfl, hb3⟩; replace hown3 := below_own hown3 hb3; replace hb2 := hb2.trans (hb3.mono hb2.size); clear hb3; go_wp2_with fail))
              go_roundw
              case rel => exact ⟨0 + 1, by omega, by go_num, by rw [HS.out]; rfl, hown3, hb2⟩
              case measure => simp [intOf]; omega
        · obtain rfl : k = es.length := by omega
          have hjz := HCL.out es.length
          have c1 : ∀ W, Below w.heap.size w W → Calls Tryd.prog 17 #[.string ⟨(catK es es.length).toArray⟩] W _ := fun W h => impl_in _ w W (by show (catK es es.length).toArray.size ≤ _; rw [List.size_toArray]; omega) HT.out h
          have hv : vp (⟨(catK es es.length).toArray⟩ : ByteArray).data.toList = allK es es.length := allK_end es hn
          rw [hv] at c1
          have kc : (convert 24 9 u6).run Tryd.prog wr = .ok (.string ⟨(catK es es.length).toArray⟩) wr := conv_own (l := catK es es.length) hown rfl
          generalize (⟨(catK es es.length).toArray⟩ : ByteArray) = T at c1 kc
          generalize allK es es.length = a at c1
          have C1 := Lib.hid c1
          clear c1 hv hown hsz
          cases a
          all_goals
            go_wp2_with fail
            ((with_reducible refine (C1.out _ hb).mono ?_); rintro e w2 ⟨rfl, hb2⟩)
            go_wp2_with fail
            go_ret
            exact ⟨rfl, hb2⟩

theorem cells9 : Tryd.prog.cellsOf 9 = 1 := by kernel_rfl
theorem laidOut : laidOutB Tryd.prog = true := by kernel_rfl

/-- The walk, for every argument that can be read. -/
theorem contract (H : Type) (enc : TypeId × Value → H) (F : Stop.Interp) (W : World) (base : Nat) (args : Array Value) (ds gs : List (DataW H)) (before : List MemPlace)
    (hval : ∀ (j : Nat) t v, Tryd.f11.params[j]? = some t → args[j]? = some v → Value.okWide Tryd.prog W .any base t v)
    (hW : DataW.Whole enc Tryd.prog Tryd.f11.params.toList Rows.fnValidListSpec.vars false W args.toList ds gs before) (hT : Tabs W) :
    Calls Tryd.prog 11 args W fun e W' => ∃ v, e = .returned v ∧ ((OpenSpec.ofChange Rows.fnValidListSpec).at F).post enc Tryd.prog Tryd.f11 false true false false W args v W' := by
  have hW' := hW
  obtain ⟨p, q, hA0, hV, rfl, hfz, hnd⟩ := hW
  have hA : DataW.TrodAll enc Tryd.prog W 0 (fun _ => true) true Tryd.f11.params.toList args.toList ds p := hA0
  rw [Tryd.params11] at hA hval
  obtain ⟨v0, d0, rfl, rfl, h0⟩ := trodAll_one hA
  obtain ⟨rfl, rfl⟩ := trodVars_none hV
  obtain ⟨a0, len, cap, rfl⟩ := okWide_slice Tryd.underlying27 (hval 0 27 v0 rfl rfl)
  have h0k := h0
  obtain ⟨fuel, hf⟩ := h0
  clear hA0 hV
  simp only [List.append_nil] at hW'
  have hlt : ∀ x ∈ p, x.block < W.heap.size := fun x hx => by simpa using hW'.lt x hx
  have fin : ∀ W' : World, Below W.heap.size W W' → ((OpenSpec.ofChange Rows.fnValidListSpec).at F).post enc Tryd.prog Tryd.f11 false true false false W #[.slice a0 len cap] (.bool true) W' := by
    intro W' bel
    have e1 : ((OpenSpec.ofChange Rows.fnValidListSpec).at F).fn H ([d0] ++ []) = { results := [.lit (.bool true)], args := [d0] } := rfl
    refine ⟨_, _, _, [], p, [], hW', ?_, ?_, ?_, bel.frame _, fun h => by cases h⟩
    · rw [e1]; exact trodAll_mk1 (shut_bool Tryd.underlying4 _)
    · rw [e1]; exact trodAll_mk1 (Below.trod laidOut (by kernel_rfl) (of_decide_eq_true (by kernel_rfl)) h0k bel hlt)
    · rw [e1]; rfl
  have none_end : len = 0 → Calls Tryd.prog 11 #[.slice a0 len cap] W fun e W' => ∃ v, e = .returned v ∧ ((OpenSpec.ofChange Rows.fnValidListSpec).at F).post enc Tryd.prog Tryd.f11 false true false false W #[.slice a0 len cap] v W' := by
    intro hl0
    subst hl0
    refine (none_walk a0 cap W hT).mono ?_
    rintro e W' ⟨rfl, bel⟩
    exact ⟨_, rfl, fin W' bel⟩
  rcases open_strings Tryd.underlying27 Tryd.underlying9 cells9 hf with ⟨hcs, _⟩ | ⟨a, len', cap', ss, hcs, _, hl, hm, hz, hx, hcell, hws⟩
  · simp [Value.cells] at hcs
    exact none_end hcs.2.1
  · simp [Value.cells] at hcs
    obtain ⟨rfl, rfl, rfl⟩ := hcs
    simp only [Prod.mk.injEq] at hx
    obtain ⟨hd, hp⟩ := hx
    simp only [if_true] at hz
    by_cases hl0 : len = 0
    · exact none_end hl0
    · obtain ⟨b, off, spot⟩ := a
      have hspot : spot = none := by simpa [Addr.add] using World.cell?_spot (hcell 0 (by omega))
      subst hspot
      have hbW : b < W.heap.size := hlt (.cell b off) (by rw [hp]; exact MemPlace.mem_row.2 ⟨0, by omega, by simp⟩)
      have hlen : (ss.take len).length = len := by rw [List.length_take]; omega
      have hget : ∀ j (hj : j < (ss.take len).length), (ss.take len)[j] = ss.getD j ByteArray.empty := fun j hj => by
        rw [List.getElem_take, List.getD_eq_getElem?_getD, List.getElem?_eq_getElem (by omega)]; rfl
      unfold maxLen at hm
      have hw := some_walk b off cap (ss.take len) W (by omega) (by omega) hbW
        (fun j hj => by rw [hget j hj, ← add_plain]; exact hcell j (by omega))
        (fun j hj => by
          have := hws _ (List.mem_of_mem_take (List.getElem_mem hj))
          unfold maxLen at this; omega) hT
      rw [hlen] at hw
      refine hw.mono ?_
      rintro e W' ⟨rfl, bel⟩
      exact ⟨_, rfl, fin W' bel⟩

theorem reads (os : Os) {H : Type} (enc : TypeId × Value → H) : ∃ places, DataW.whole enc Tryd.prog ((laidWorld os).forCall (fun _ _ => 0) ⟨#[], #[.slice none 0 0], []⟩).memory Tryd.f11.params.toList Rows.fnValidListSpec.vars false #[Value.slice none 0 0].toList 8 = some ([.nil], [], places) :=
  ⟨[], by kernel_rfl⟩

set_option maxRecDepth 100000 in
theorem lifted (os : Os) (started : os.Started) (H : Type) (enc : TypeId × Value → H) (F : Stop.Interp) :
    ReturnsInHanded {} Tryd.checked os 11 .any ((OpenSpec.ofChange Rows.fnValidListSpec).preRow enc Tryd.prog Tryd.f11 Rows.fnValidListRow.domain false Rows.fnValidListRow.laid) (((OpenSpec.ofChange Rows.fnValidListSpec).at F).post enc Tryd.prog Tryd.f11 false true false false) := by
  obtain ⟨places, hx⟩ := reads os enc
  refine returnsInHanded_of_row (C := Tryd.checked) (s := (OpenSpec.ofChange Rows.fnValidListSpec)) own started (by kernel_rfl) Tryd.func11
    (witness_row_at (enc := enc) (C := Tryd.checked) false (laidWorld os) #[.slice none 0 0] rfl (by kernel_rfl) (by kernel_rfl) (by kernel_rfl)
      (OpenSpec.preRow_of_cond 8 hx (by kernel_rfl) (fun k hk => by cases hk) (by kernel_rfl) (laid_met os _))) ?_
  intro W base args ds gs before hval hW _ _ _ hL _ _
  exact contract H enc F W base args ds gs before hval hW (tabs_of hL)

theorem said : Rows.FnValidListSaid :=
  OpenClaim.holds_of_cond 11 Tryd.f11 rfl rfl rfl rfl rfl rfl rfl ⟨rfl, rfl, rfl, rfl, rfl⟩ rfl rfl rfl rfl rfl (by kernel_rfl) Tryd.func11 (by kernel_rfl)
    (of_decide_eq_true (by kernel_rfl)) (by unfold Func.isWrapper; first | (rw [if_pos (by decide +kernel)]; kernel_rfl) | (rw [if_neg (by decide +kernel)]; exact ⟨rfl, rfl⟩))
    (fun os started H enc _ F => by rw [OpenClaim.pre_eq_preRow]; exact lifted os started H enc F)

theorem plain (f : FuncId) (fn : Func) (hf : Tryd.pinned.checked.prog.funcNamed Rows.fnValidListRow.func = some f) (hfn : Tryd.pinned.checked.prog.funcs[f]? = some fn) :
    false = Tryd.pinned.checked.prog.looks [] ∧ ∀ (j : Nat) t, fn.params[j]? = some t → Tryd.pinned.checked.prog.wantsStandIn t = false := by
  obtain rfl : f = 11 := Option.some.inj ((show Tryd.prog.funcNamed Rows.fnValidListRow.func = some 11 by kernel_rfl).symm.trans hf) |>.symm
  obtain rfl : fn = Tryd.f11 := (Option.some.inj (Tryd.func11.symm.trans hfn)).symm
  refine ⟨by kernel_rfl, fun j t ht => ?_⟩
  rw [Tryd.params11] at ht
  obtain rfl : t = 27 := by simpa using Array.mem_of_getElem? ht
  exact (show Tryd.prog.wantsStandIn 27 = false by kernel_rfl)

/-- The card. -/
theorem card : Rows.FnValidListCardSaid :=
  Claim7.holds_tied_plain_at .later [] _ _ _ _ said (fun _ h => by cases h) (by kernel_rfl) (fun _ h => by cases h) fnValidList_row_tie rfl ⟨rfl, rfl⟩ (by kernel_rfl) rfl plain (by kernel_rfl)
#print axioms card
end Go.Proofs.YtlbhelibgifaaaaDoor.fnValidList
