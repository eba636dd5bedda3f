/-
  The walk of laws.encode (19): the UTF-8 sequence of a code point, and that it is a valid name just if it is no slash.
-/
import Derived.Test.YtlbhelibgifaaaaDoorWalkG
namespace Go.Proofs.YtlbhelibgifaaaaDoor
open Go.RowKit
open Go.Lib (validD)

/-- A number as a byte. -/
def bt (x : Int) : UInt8 := UInt8.ofNat x.toNat
theorem bt_toNat (x : Int) (h0 : 0 ≤ x) (h1 : x ≤ 255) : ((bt x).toNat : Int) = x := by
  unfold bt
  rw [UInt8.toNat_ofNat']
  omega
theorem conv_ints (W : World) (l : List Int) (hl : ∀ x ∈ l, 0 ≤ x ∧ x ≤ 255) (A : Array Value) (hA : A = (l.map fun x => Value.int .u8 x).toArray) (n : Nat) (hn : n = l.length) :
    (convert 24 9 (.slice (some ⟨W.heap.size, 0, none⟩) n n)).run Tryd.prog (W.alloc (.cells A 5)) = .ok (.string ⟨(l.map bt).toArray⟩) (W.alloc (.cells A 5)) := by
  refine conv_lit W (l.map bt) A ?_ n (by simp [hn])
  rw [hA, List.map_map]
  congr 1
  exact List.map_congr_left fun x hx => by
    have := hl x hx
    simp only [Function.comp, bt_toNat x this.1 this.2]

theorem s0_1 (c : Nat) (h : 194 ≤ c ∧ c ≤ 223) : stp 0 c = 1 := by
  unfold stp; rw [if_pos rfl, if_neg (by omega), if_neg (by omega), if_pos (by omega)]
theorem s0_2 (c : Nat) (h : 225 ≤ c ∧ c ≤ 239) (h' : c ≠ 237) : stp 0 c = 2 := by
  unfold stp; rw [if_pos rfl, if_neg (by omega), if_neg (by omega), if_neg (by omega), if_neg (by omega), if_neg h', if_pos (by omega)]
theorem s0_3 (c : Nat) (h : 241 ≤ c ∧ c ≤ 243) : stp 0 c = 3 := by
  unfold stp; rw [if_pos rfl, if_neg (by omega), if_neg (by omega), if_neg (by omega), if_neg (by omega), if_neg (by omega), if_neg (by omega), if_neg (by omega), if_pos (by omega)]
theorem s1 (c : Nat) (h : 128 ≤ c ∧ c ≤ 191) : stp 1 c = 0 := by simp [stp, h]
theorem s2 (c : Nat) (h : 128 ≤ c ∧ c ≤ 191) : stp 2 c = 1 := by simp [stp, h]
theorem s3 (c : Nat) (h : 128 ≤ c ∧ c ≤ 191) : stp 3 c = 2 := by simp [stp, h]
theorem s4 (c : Nat) (h : 160 ≤ c ∧ c ≤ 191) : stp 4 c = 1 := by simp [stp, h]
theorem s5 (c : Nat) (h : 128 ≤ c ∧ c ≤ 159) : stp 5 c = 1 := by simp [stp, h]
theorem s6 (c : Nat) (h : 144 ≤ c ∧ c ≤ 191) : stp 6 c = 2 := by simp [stp, h]
theorem s7 (c : Nat) (h : 128 ≤ c ∧ c ≤ 143) : stp 7 c = 2 := by simp [stp, h]
theorem valid_two (b0 b1 : UInt8) (h0 : 194 ≤ b0.toNat ∧ b0.toNat ≤ 223) (h1 : 128 ≤ b1.toNat ∧ b1.toNat ≤ 191) : validD [b0, b1] = true := by
  rw [valid_eq]
  unfold okU
  rw [runq, runq, runq, s0_1 _ h0, s1 _ h1]; rfl
theorem valid_three (b0 b1 b2 : UInt8) (h0 : 224 ≤ b0.toNat ∧ b0.toNat ≤ 239) (h1 : 128 ≤ b1.toNat ∧ b1.toNat ≤ 191) (h2 : 128 ≤ b2.toNat ∧ b2.toNat ≤ 191)
    (ha : b0.toNat = 224 → 160 ≤ b1.toNat) (hb : b0.toNat = 237 → b1.toNat ≤ 159) : validD [b0, b1, b2] = true := by
  rw [valid_eq]
  unfold okU
  have e1 : stp (stp 0 b0.toNat) b1.toNat = 1 := by
    by_cases c1 : b0.toNat = 224
    · have e0 : stp 0 b0.toNat = 4 := by rw [c1]; rfl
      rw [e0]; exact s4 _ ⟨ha c1, h1.2⟩
    by_cases c2 : b0.toNat = 237
    · have e0 : stp 0 b0.toNat = 5 := by rw [c2]; rfl
      rw [e0]; exact s5 _ ⟨h1.1, hb c2⟩
    · rw [s0_2 _ (by omega) c2]; exact s2 _ h1
  rw [runq, runq, runq, runq, e1, s1 _ h2]; rfl
theorem valid_four (b0 b1 b2 b3 : UInt8) (h0 : 240 ≤ b0.toNat ∧ b0.toNat ≤ 244) (h1 : 128 ≤ b1.toNat ∧ b1.toNat ≤ 191) (h2 : 128 ≤ b2.toNat ∧ b2.toNat ≤ 191) (h3 : 128 ≤ b3.toNat ∧ b3.toNat ≤ 191)
    (ha : b0.toNat = 240 → 144 ≤ b1.toNat) (hb : b0.toNat = 244 → b1.toNat ≤ 143) : validD [b0, b1, b2, b3] = true := by
  rw [valid_eq]
  unfold okU
  have e1 : stp (stp 0 b0.toNat) b1.toNat = 2 := by
    by_cases c1 : b0.toNat = 240
    · have e0 : stp 0 b0.toNat = 6 := by rw [c1]; rfl
      rw [e0]; exact s6 _ ⟨ha c1, h1.2⟩
    by_cases c2 : b0.toNat = 244
    · have e0 : stp 0 b0.toNat = 7 := by rw [c2]; rfl
      rw [e0]; exact s7 _ ⟨h1.1, hb c2⟩
    · rw [s0_3 _ (by omega)]; exact s3 _ h1
  rw [runq, runq, runq, runq, runq, e1, s2 _ h2, s1 _ h3]; rfl
/-- Bytes from 128 on: no slash, no dot. -/
theorem vp_high (b : UInt8) (l : List UInt8) (hv : validD (b :: l) = true) (h : ∀ c ∈ b :: l, 128 ≤ c.toNat) : vp (b :: l) = true := by
  refine vp_one _ hv (fun m => ?_) (by simp) (fun e => ?_)
  · have := h 47 m; exact absurd this (by decide)
  · have := h 46 (by rw [e]; simp); exact absurd this (by decide)
theorem vp_asc1 (b : UInt8) (h : b.toNat < 128) (h47 : b ≠ 47) : vp [b] = true :=
  vp_one _ (by rw [Go.Lib.validD_cons b [] h]; rfl) (by simp; exact fun e => h47 e.symm) (by simp) (by simp)
theorem vp_slash1 : vp [47] = false := by decide

/-- What laws.encode leaves: a text that is valid just if the code point is no slash. -/
def EncPost (r : Int) (w : World) (e : Ending) (w' : World) : Prop :=
  ∃ s : ByteArray, e = .returned (.string s) ∧ s.size ≤ 4 ∧ vp s.data.toList = !(r == 47) ∧ Below w.heap.size w w'

set_option maxRecDepth 100000 in
set_option maxHeartbeats 400000 in
theorem enc1 (r : Int) (w : World) (h0 : 0 ≤ r) (h1 : r < 128) : Calls Tryd.prog 19 #[.int .i32 r] w (EncPost r w) := by
  have kc := fun W => conv_ints W [r] (by simp; omega) _ rfl 1 rfl
  have hp : vp [bt r] = !(r == 47) := by
    have hb := bt_toNat r h0 (by omega)
    by_cases e : r = 47
    · subst e; exact vp_slash1
    · have : (r == 47) = false := by simp [e]
      rw [this]
      exact vp_asc1 _ (by omega) (fun e' => e (by rw [← hb, e']; rfl))
  have HP := Lib.hid hp
  clear hp
  simp only [List.map_cons, List.map_nil] at kc
  go_enter Tryd.func19, Tryd.ntmps19
  go_wp2_with fail
  go_ret
  exact ⟨_, rfl, (show (1 : Nat) ≤ 4 by decide), HP.out, (Below.refl _ _).alloc (Nat.le_refl _) _⟩
set_option maxRecDepth 100000 in
set_option maxHeartbeats 400000 in
theorem enc2 (r : Int) (w : World) (h0 : 128 ≤ r) (h1 : r < 2048) : Calls Tryd.prog 19 #[.int .i32 r] w (EncPost r w) := by
  have kc := fun W => conv_ints W [192 + r / 64, 128 + r % 64] (by simp; omega) _ rfl 2 rfl
  have hp : vp [bt (192 + r / 64), bt (128 + r % 64)] = !(r == 47) := by
    have b0 := bt_toNat (192 + r / 64) (by omega) (by omega)
    have b1 := bt_toNat (128 + r % 64) (by omega) (by omega)
    have : (r == 47) = false := by simp; omega
    rw [this]
    refine vp_high _ _ (valid_two _ _ (by omega) (by omega)) (fun c hc => ?_)
    simp only [List.mem_cons, List.not_mem_nil, or_false] at hc
    rcases hc with rfl | rfl <;> omega
  have HP := Lib.hid hp
  clear hp
  simp only [List.map_cons, List.map_nil] at kc
  go_enter Tryd.func19, Tryd.ntmps19
  go_wp2_with fail
  go_ret
  exact ⟨_, rfl, (show (2 : Nat) ≤ 4 by decide), HP.out, (Below.refl _ _).alloc (Nat.le_refl _) _⟩
set_option maxRecDepth 100000 in
set_option maxHeartbeats 400000 in
theorem enc3 (r : Int) (w : World) (h0 : 2048 ≤ r) (h1 : r < 65536) (hs : r < 55296 ∨ 57343 < r) : Calls Tryd.prog 19 #[.int .i32 r] w (EncPost r w) := by
  have kc := fun W => conv_ints W [224 + r / 4096, 128 + r / 64 % 64, 128 + r % 64] (by simp; omega) _ rfl 3 rfl
  have hp : vp [bt (224 + r / 4096), bt (128 + r / 64 % 64), bt (128 + r % 64)] = !(r == 47) := by
    have b0 := bt_toNat (224 + r / 4096) (by omega) (by omega)
    have b1 := bt_toNat (128 + r / 64 % 64) (by omega) (by omega)
    have b2 := bt_toNat (128 + r % 64) (by omega) (by omega)
    have : (r == 47) = false := by simp; omega
    rw [this]
    refine vp_high _ _ (valid_three _ _ _ (by omega) (by omega) (by omega) (fun _ => by omega) (fun _ => by omega)) (fun c hc => ?_)
    simp only [List.mem_cons, List.not_mem_nil, or_false] at hc
    rcases hc with rfl | rfl | rfl <;> omega
  have HP := Lib.hid hp
  clear hp hs
  simp only [List.map_cons, List.map_nil] at kc
  go_enter Tryd.func19, Tryd.ntmps19
  go_wp2_with fail
  go_ret
  exact ⟨_, rfl, (show (3 : Nat) ≤ 4 by decide), HP.out, (Below.refl _ _).alloc (Nat.le_refl _) _⟩
set_option maxRecDepth 100000 in
set_option maxHeartbeats 400000 in
theorem enc4 (r : Int) (w : World) (h0 : 65536 ≤ r) (h1 : r ≤ 1114111) : Calls Tryd.prog 19 #[.int .i32 r] w (EncPost r w) := by
  have kc := fun W => conv_ints W [240 + r / 262144, 128 + r / 4096 % 64, 128 + r / 64 % 64, 128 + r % 64] (by simp; omega) _ rfl 4 rfl
  have hp : vp [bt (240 + r / 262144), bt (128 + r / 4096 % 64), bt (128 + r / 64 % 64), bt (128 + r % 64)] = !(r == 47) := by
    have b0 := bt_toNat (240 + r / 262144) (by omega) (by omega)
    have b1 := bt_toNat (128 + r / 4096 % 64) (by omega) (by omega)
    have b2 := bt_toNat (128 + r / 64 % 64) (by omega) (by omega)
    have b3 := bt_toNat (128 + r % 64) (by omega) (by omega)
    have : (r == 47) = false := by simp; omega
    rw [this]
    refine vp_high _ _ (valid_four _ _ _ _ (by omega) (by omega) (by omega) (by omega) (fun _ => by omega) (fun _ => by omega)) (fun c hc => ?_)
    simp only [List.mem_cons, List.not_mem_nil, or_false] at hc
    rcases hc with rfl | rfl | rfl | rfl <;> omega
  have HP := Lib.hid hp
  clear hp
  simp only [List.map_cons, List.map_nil] at kc
  go_enter Tryd.func19, Tryd.ntmps19
  go_wp2_with fail
  go_ret
  exact ⟨_, rfl, (show (4 : Nat) ≤ 4 by decide), HP.out, (Below.refl _ _).alloc (Nat.le_refl _) _⟩
theorem encode_any (r : Int) (w : World) (h0 : 0 ≤ r) (h1 : r ≤ 1114111) (hs : r < 55296 ∨ 57343 < r) : Calls Tryd.prog 19 #[.int .i32 r] w (EncPost r w) := by
  by_cases c1 : r < 128
  · exact enc1 r w h0 c1
  by_cases c2 : r < 2048
  · exact enc2 r w (by omega) c2
  by_cases c3 : r < 65536
  · exact enc3 r w (by omega) c3 hs
  · exact enc4 r w (by omega) h1
end Go.Proofs.YtlbhelibgifaaaaDoor
