/-
  The walk of spec.Elements (18): the elements of a name in a new slice of strings.
-/
import Derived.Test.YtlbhelibgifaaaaDoorWalkD
namespace Go.Proofs.YtlbhelibgifaaaaDoor
open Go.RowKit

theorem info9 : (Tryd.prog.info? 9).map (fun i => (i.zero, i.size, i.bytes)) = some (some (.string ⟨#[]⟩), 1, 16) := by kernel_rfl
/-- A text as a value. -/
def strV (b : List UInt8) : Value := .string ⟨b.toArray⟩
theorem strV_data (s : ByteArray) : strV s.data.toList = .string s := rfl
theorem strV_ext (s : ByteArray) (a b : Nat) : strV ((s.data.toList.drop a).take (b - a)) = .string (s.extract a b) := by
  rw [← Lib.extract_data, strV_data]

/-- What stands in front of place k: the elements es, and an open one from 'fr' on; behind the end: all. -/
def Cut (l : List UInt8) (k fr : Nat) (es : List (List UInt8)) : Prop :=
  es.length ≤ k ∧ ((k ≤ l.length ∧ fr ≤ k ∧ (47 : UInt8) ∉ (l.drop fr).take (k - fr) ∧ split l = es ++ split (l.drop fr)) ∨ (k = l.length + 1 ∧ split l = es))
theorem cut_start (l : List UInt8) : Cut l 0 0 [] := ⟨Nat.le_refl _, .inl ⟨Nat.zero_le _, Nat.le_refl _, by simp, by simp⟩⟩
theorem cut_open {l : List UInt8} {k fr : Nat} {es : List (List UInt8)} (h : Cut l k fr es) (hk : k ≤ l.length) : fr ≤ k ∧ (47 : UInt8) ∉ (l.drop fr).take (k - fr) ∧ split l = es ++ split (l.drop fr) := by
  rcases h.2 with h | h
  · exact h.2
  · omega
theorem cut_end {l : List UInt8} {k fr : Nat} {es : List (List UInt8)} (h : Cut l k fr es) (hk : l.length < k) : split l = es := by
  rcases h.2 with h | h
  · omega
  · exact h.2
theorem cut_other {l : List UInt8} {k fr : Nat} {es : List (List UInt8)} (h : Cut l k fr es) (hk : k < l.length) (hx : l[k] ≠ 47) : Cut l (k + 1) fr es := by
  obtain ⟨h1, h2, h3⟩ := cut_open h (by omega)
  refine ⟨by have := h.1; omega, .inl ⟨by omega, by omega, ?_, h3⟩⟩
  have e : k + 1 - fr = (k - fr) + 1 := by omega
  rw [e]
  refine no_snoc (l.drop fr) (k - fr) (by simp; omega) ?_ h2
  rw [List.getElem_drop]
  simpa [show fr + (k - fr) = k by omega] using hx
theorem cut_slash {l : List UInt8} {k fr : Nat} {es : List (List UInt8)} (h : Cut l k fr es) (hk : k < l.length) (hx : l[k] = 47) : Cut l (k + 1) (k + 1) (es ++ [(l.drop fr).take (k - fr)]) := by
  obtain ⟨h1, h2, h3⟩ := cut_open h (by omega)
  refine ⟨by have := h.1; simp; omega, .inl ⟨by omega, Nat.le_refl _, by simp, ?_⟩⟩
  have hf := split_first (l.drop fr) (k - fr) (by simp; omega) (by rw [List.getElem_drop]; simpa [show fr + (k - fr) = k by omega] using hx) h2
  rw [List.drop_drop, show fr + (k - fr + 1) = k + 1 by omega] at hf
  rw [h3, hf]; simp
theorem cut_last {l : List UInt8} {fr : Nat} {es : List (List UInt8)} (h : Cut l l.length fr es) : Cut l (l.length + 1) (l.length + 1) (es ++ [(l.drop fr).take (l.length - fr)]) := by
  obtain ⟨h1, h2, h3⟩ := cut_open h (Nat.le_refl _)
  have e : (l.drop fr).take (l.length - fr) = l.drop fr := List.take_of_length_le (by simp)
  rw [e] at h2 ⊢
  refine ⟨by have := h.1; simp; omega, .inr ⟨rfl, ?_⟩⟩
  rw [h3, split_no _ h2]

/-- What spec.Elements leaves: a slice of its own that holds the elements. -/
def ElemsPost (w : World) (l : List UInt8) (e : Ending) (w' : World) : Prop :=
  ∃ v, e = .returned v ∧ w'.ownsRow w.heap.size 9 1 v (split l).length ((split l).map strV) ∧ Below w.heap.size w w'

theorem elem_append {w wr w' : World} {s : ByteArray} {v v' : Value} {k fr : Nat} {es : List (List UInt8)} {O : Obj} (hown : wr.ownsRow w.heap.size 9 1 v es.length (es.map strV)) (hb : Below w.heap.size w wr)
    (hown' : w'.ownsRow w.heap.size 9 1 v' (es.length + 1) (es.map strV ++ [.string (s.extract fr k)])) (hg : (wr.alloc O).grownBy w' v.ownBlock) :
    w'.ownsRow w.heap.size 9 1 v' (es ++ [(s.data.toList.drop fr).take (k - fr)]).length ((es ++ [(s.data.toList.drop fr).take (k - fr)]).map strV) ∧ Below w.heap.size w w' := by
  constructor
  · rw [List.length_append, List.map_append, List.map_cons, List.map_nil, strV_ext]; exact hown'
  · exact (hb.alloc hb.size O).grown hg (by have := hb.size; simp; omega) (fun j e => (hown.lt j e).1)

set_option maxRecDepth 100000 in
set_option maxHeartbeats 1000000 in
theorem elements_any (s : ByteArray) (w : World) (hs : s.size ≤ 8000000000000) :
    Calls Tryd.prog 18 #[.string s] w (ElemsPost w s.data.toList) := by
  obtain ⟨i0, hi, hz0, hz1, hz2⟩ := info_parts info9
  go_enter Tryd.func18, Tryd.ntmps18
  go_wp2_with fail
  go_loopw [3, 4, 5] (fun v f i wr => ∃ (k fr : Nat) (es : List (List UInt8)), i = .int .i64 k ∧ f = .int .i64 fr ∧ k ≤ s.size + 1 ∧ Cut s.data.toList k fr es ∧ wr.ownsRow w.heap.size 9 1 v es.length (es.map strV) ∧ Below w.heap.size w wr) (fun _ _ i _ => s.size + 1 - (intOf i).toNat)
  case atStart => exact ⟨0, 0, [], rfl, rfl, Nat.zero_le _, cut_start _, World.ownsRow_made w #[] 0 (Nat.le_refl _) (by unfold maxLen; omega) rfl, (Below.refl _ _).alloc (Nat.le_refl _) _⟩
  case round =>
    obtain ⟨k, fr, es, rfl, rfl, hk, hcut, hown, hb⟩ := hrel
    have HC := Lib.hid hcut
    have hel := hcut.1
    have hll := len_list s
    have hsz := hb.size
    by_cases hks : k ≤ s.size
    · have hkz : (k : Int) ≤ (s.size : Int) := by omega
      have hfr := (cut_open hcut (by omega)).1
      clear hcut hll
      have hfz : (fr : Int) ≤ (k : Int) := by omega
      by_cases hlt : k < s.size
      · have hltz : (k : Int) < (s.size : Int) := by omega
        have hne : ((k : Int) == (s.size : Int)) = false := by simp; omega
        obtain ⟨x, hx⟩ : ∃ x, s[k] = x := ⟨_, rfl⟩
        by_cases h47 : x = 47
        · subst h47
          have HC2 := Lib.hid (cut_slash HC.out (by simpa using hlt) (by rw [get_at s k hlt]; exact hx))
          go_wp2_with (at_builtin; refine wpList_append_own _ rfl _ _ 27 rfl w.heap.size 9 i0 (.string ⟨#[]⟩) 1 16 Tryd.underlying27 hi hz0 hz1 hz2 rfl (by decide) _ _ _ rfl (hown.alloc _) ⟨wr.heap.size, 0, none⟩ 1 1 [.string (s.extract fr k)] rfl rfl ?c1 ?c2 ?c3 ?c4 ?c5 ?_)
          case c1 => exact cell_one_new _ _ _
          case c2 => intro u hu; rw [List.mem_singleton.1 hu]; rfl
          case c3 => unfold maxLen; omega
          case c4 => omega
          case c5 => simp; omega
          intro v' w1 hown' hgrow _
          obtain ⟨ho2, hb2⟩ := elem_append hown hb hown' hgrow
          clear hown' hgrow hown hb
          go_wp2
          go_roundw
          case rel => exact ⟨k + 1, k + 1, _, by go_num, by go_num, by omega, HC2.out, ho2, hb2⟩
          case measure => simp [intOf]; omega
        · have hx2 : ((x.toNat : Int) == 47) = false := u8_ne (n := 47) h47
          have HC2 := Lib.hid (cut_other HC.out (by simpa using hlt) (by rw [get_at s k hlt, hx]; exact h47))
          go_wp2
          go_roundw
          case rel => exact ⟨k + 1, fr, es, by go_num, rfl, by omega, HC2.out, hown, hb⟩
          case measure => simp [intOf]; omega
      · obtain rfl : k = s.size := by omega
        have hcl := HC.out
        rw [← len_list s] at hcl
        have hc2 := cut_last hcl
        rw [len_list s] at hc2
        have HC2 := Lib.hid hc2
        clear hcl hc2
        go_wp2_with (at_builtin; refine wpList_append_own _ rfl _ _ 27 rfl w.heap.size 9 i0 (.string ⟨#[]⟩) 1 16 Tryd.underlying27 hi hz0 hz1 hz2 rfl (by decide) _ _ _ rfl (hown.alloc _) ⟨wr.heap.size, 0, none⟩ 1 1 [.string (s.extract fr s.size)] rfl rfl ?c1 ?c2 ?c3 ?c4 ?c5 ?_)
        case c1 => exact cell_one_new _ _ _
        case c2 => intro u hu; rw [List.mem_singleton.1 hu]; rfl
        case c3 => unfold maxLen; omega
        case c4 => omega
        case c5 => simp; omega
        intro v' w1 hown' hgrow _
        obtain ⟨ho2, hb2⟩ := elem_append hown hb hown' hgrow
        clear hown' hgrow hown hb
        go_wp2
        go_roundw
        case rel => exact ⟨s.size + 1, s.size + 1, _, by go_num, by go_num, by omega, HC2.out, ho2, hb2⟩
        case measure => simp [intOf]
    · have hcl := cut_end hcut (by omega)
      have HF := Lib.hid hcl
      clear hcut hll hcl
      have hkz : ¬ ((k : Int) ≤ (s.size : Int)) := by omega
      go_wp2
      go_ret
      exact ⟨_, rfl, by rw [HF.out]; exact hown, hb⟩
end Go.Proofs.YtlbhelibgifaaaaDoor
