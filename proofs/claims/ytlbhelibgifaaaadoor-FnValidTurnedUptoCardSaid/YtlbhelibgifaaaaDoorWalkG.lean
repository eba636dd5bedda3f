/-
  What the laws' walks share: the two ValidPath functions called in a later world, strings put together, string(b) of a byte slice of the call's own.
-/
import Derived.Test.YtlbhelibgifaaaaDoorWalkF
import Derived.Laws.IdiomStrings
namespace Go.Proofs.YtlbhelibgifaaaaDoor
open Go.RowKit

theorem impl_in (s : ByteArray) (w W : World) (hs : s.size ≤ 9223372036854775807) (hT : Tabs w) (hb : Below w.heap.size w W) :
    Calls Tryd.prog 17 #[.string s] W fun e w' => e = .returned (.bool (vp s.data.toList)) ∧ Below w.heap.size w w' :=
  (impl_any s W hs (hT.below hb rfl)).mono fun _ _ ⟨he, h⟩ => ⟨he, hb.trans (h.mono hb.size)⟩
theorem spec_in (s : ByteArray) (w W : World) (hs : s.size ≤ 8000000000000) (hb : Below w.heap.size w W) :
    Calls Tryd.prog 16 #[.string s] W fun e w' => e = .returned (.bool (vp s.data.toList)) ∧ Below w.heap.size w w' :=
  (spec_any s W hs).mono fun _ _ ⟨he, h⟩ => ⟨he, hb.trans (h.mono hb.size)⟩
theorem cat_list (a b : ByteArray) : (a ++ b).data.toList = a.data.toList ++ b.data.toList := by simp [ByteArray.data_append]
theorem cat_size (a b : ByteArray) : (a ++ b).size = a.size + b.size := ByteArray.size_append
theorem dot_toList (s : ByteArray) : (s.data.toList == [46]) = (s.toList == [46]) := by rw [Lib.toList_data]
/-- string([]byte{..}). -/
theorem conv_lit (W : World) (l : List UInt8) (A : Array Value) (hA : A = (l.map fun b => Value.int .u8 (b.toNat : Int)).toArray) (n : Nat) (hn : n = l.length) :
    (convert 24 9 (.slice (some ⟨W.heap.size, 0, none⟩) n n)).run Tryd.prog (W.alloc (.cells A 5)) = .ok (.string ⟨l.toArray⟩) (W.alloc (.cells A 5)) := by
  subst hA hn
  refine run_convert_bytes_back _ 24 9 5 ⟨W.heap.size, 0, none⟩ l.length l Tryd.underlying24 Tryd.underlying5 Tryd.underlying9 (fun j hj => ?_)
  have e : (⟨W.heap.size, 0, none⟩ : Addr).add j = ⟨W.heap.size, j, none⟩ := by unfold Addr.add; split <;> simp_all
  rw [e, World.cell?_alloc_mark]
  simp [hj]
theorem byte_of (x : Int) (h : 0 ≤ x ∧ x ≤ 255) : ∃ b : UInt8, x = (b.toNat : Int) := by
  refine ⟨UInt8.ofNat x.toNat, ?_⟩
  rw [UInt8.toNat_ofNat']
  omega
end Go.Proofs.YtlbhelibgifaaaaDoor
