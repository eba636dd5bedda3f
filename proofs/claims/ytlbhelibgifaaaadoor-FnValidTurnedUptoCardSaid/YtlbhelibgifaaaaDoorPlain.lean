/-
  The plain layer: UTF-8 as an automaton over bytes, a name's elements, which names are valid, and the laws of these that the statements come to. No program and no memory in this text.
-/
import Derived.Lib.ValidLaws
namespace Go.Proofs.YtlbhelibgifaaaaDoor
open Go.Lib (validD checkN firstT accLo accHi)

/-! ## UTF-8 as an automaton -/
/-- One byte's step: 0 between two sequences, 9 once broken. -/
def stp (q b : Nat) : Nat :=
  if q = 0 then
    (if b < 128 then 0 else if b < 194 then 9 else if b < 224 then 1 else if b = 224 then 4 else if b = 237 then 5 else if b < 240 then 2 else if b = 240 then 6 else if b < 244 then 3 else if b = 244 then 7 else 9)
  else if q = 1 then (if 128 ≤ b ∧ b ≤ 191 then 0 else 9)
  else if q = 2 then (if 128 ≤ b ∧ b ≤ 191 then 1 else 9)
  else if q = 3 then (if 128 ≤ b ∧ b ≤ 191 then 2 else 9)
  else if q = 4 then (if 160 ≤ b ∧ b ≤ 191 then 1 else 9)
  else if q = 5 then (if 128 ≤ b ∧ b ≤ 159 then 1 else 9)
  else if q = 6 then (if 144 ≤ b ∧ b ≤ 191 then 2 else 9)
  else if q = 7 then (if 128 ≤ b ∧ b ≤ 143 then 2 else 9)
  else 9
def runq : Nat → List UInt8 → Nat
  | q, [] => q
  | q, b :: t => runq (stp q b.toNat) t
def okU (l : List UInt8) : Bool := runq 0 l == 0

theorem runq_fail : ∀ l : List UInt8, runq 9 l = 9
  | [] => rfl
  | b :: t => by
    have h : stp 9 b.toNat = 9 := by simp [stp]
    rw [runq, h]; exact runq_fail t
theorem runq_append : ∀ (a : List UInt8) (q : Nat) (b : List UInt8), runq q (a ++ b) = runq (runq q a) b
  | [], _, _ => rfl
  | c :: t, q, b => by
    rw [List.cons_append, runq, runq]; exact runq_append t _ b
theorem stp_asc (q b : Nat) (h : b < 128) : stp q b = if q = 0 then 0 else 9 := by
  unfold stp
  repeat' split
  all_goals first | rfl | omega
theorem stp_ff (q : Nat) : stp q 255 = 9 := by
  unfold stp
  repeat' split
  all_goals first | rfl | omega

/-- A lead byte of two bytes. -/
theorem lead2 (b : UInt8) (t : List UInt8) (q lo hi x2 x3 : Nat) (hq : q ≠ 0) (hs : ∀ c, stp q c = if lo ≤ c ∧ c ≤ hi then 0 else 9) (ih : ∀ r : List UInt8, r.length < t.length + 1 → validD r = okU r) :
    (match checkN (b :: t).length ((b :: t).getD 1 0).toNat x2 x3 2 lo hi with | none => false | some k => validD ((b :: t).drop k)) = (runq q t == 0) := by
  match t, ih with
  | [], _ => simp [checkN, runq, hq]
  | x :: r, ih =>
    have e : runq q (x :: r) = runq (if lo ≤ x.toNat ∧ x.toNat ≤ hi then 0 else 9) r := by rw [runq, hs]
    rw [e]
    by_cases h : lo ≤ x.toNat ∧ x.toNat ≤ hi
    · rw [if_pos h]
      have hc : checkN (b :: x :: r).length ((b :: x :: r).getD 1 0).toNat x2 x3 2 lo hi = some 2 := by
        simp [checkN]; omega
      rw [hc]
      exact ih r (by simp; omega)
    · rw [if_neg h, runq_fail]
      have hc : checkN (b :: x :: r).length ((b :: x :: r).getD 1 0).toNat x2 x3 2 lo hi = none := by
        simp [checkN]; omega
      rw [hc]; rfl
/-- A lead byte of three bytes. -/
theorem lead3 (b : UInt8) (t : List UInt8) (q lo hi x3 : Nat) (hq : q ≠ 0) (hs : ∀ c, stp q c = if lo ≤ c ∧ c ≤ hi then 1 else 9) (ih : ∀ r : List UInt8, r.length < t.length + 1 → validD r = okU r) :
    (match checkN (b :: t).length ((b :: t).getD 1 0).toNat ((b :: t).getD 2 0).toNat x3 3 lo hi with | none => false | some k => validD ((b :: t).drop k)) = (runq q t == 0) := by
  match t, ih with
  | [], _ => simp [checkN, runq, hq]
  | [x], _ =>
    have e : runq q [x] = if lo ≤ x.toNat ∧ x.toNat ≤ hi then 1 else 9 := by rw [runq, hs]; rfl
    rw [e]
    have hc : checkN [b, x].length (([b, x]).getD 1 0).toNat (([b, x]).getD 2 0).toNat x3 3 lo hi = none := by simp [checkN]
    rw [hc]
    show false = _
    split <;> rfl
  | x :: y :: r, ih =>
    have h1 : ∀ c, stp 1 c = if 128 ≤ c ∧ c ≤ 191 then 0 else 9 := fun c => by simp [stp]
    have e : runq q (x :: y :: r) = runq (stp (if lo ≤ x.toNat ∧ x.toNat ≤ hi then 1 else 9) y.toNat) r := by rw [runq, hs, runq]
    rw [e]
    by_cases h : lo ≤ x.toNat ∧ x.toNat ≤ hi
    · rw [if_pos h, h1]
      by_cases g : 128 ≤ y.toNat ∧ y.toNat ≤ 191
      · rw [if_pos g]
        have hc : checkN (b :: x :: y :: r).length ((b :: x :: y :: r).getD 1 0).toNat ((b :: x :: y :: r).getD 2 0).toNat x3 3 lo hi = some 3 := by
          simp [checkN]; omega
        rw [hc]
        exact ih r (by simp; omega)
      · rw [if_neg g, runq_fail]
        have hc : checkN (b :: x :: y :: r).length ((b :: x :: y :: r).getD 1 0).toNat ((b :: x :: y :: r).getD 2 0).toNat x3 3 lo hi = none := by
          simp [checkN]; omega
        rw [hc]; rfl
    · have h9 : stp 9 y.toNat = 9 := by simp [stp]
      rw [if_neg h, h9, runq_fail]
      have hc : checkN (b :: x :: y :: r).length ((b :: x :: y :: r).getD 1 0).toNat ((b :: x :: y :: r).getD 2 0).toNat x3 3 lo hi = none := by
        simp [checkN]; omega
      rw [hc]; rfl
/-- A lead byte of four bytes. -/
theorem lead4 (b : UInt8) (t : List UInt8) (q lo hi : Nat) (hq : q ≠ 0) (hs : ∀ c, stp q c = if lo ≤ c ∧ c ≤ hi then 2 else 9) (ih : ∀ r : List UInt8, r.length < t.length + 1 → validD r = okU r) :
    (match checkN (b :: t).length ((b :: t).getD 1 0).toNat ((b :: t).getD 2 0).toNat ((b :: t).getD 3 0).toNat 4 lo hi with | none => false | some k => validD ((b :: t).drop k)) = (runq q t == 0) := by
  have h2 : ∀ c, stp 2 c = if 128 ≤ c ∧ c ≤ 191 then 1 else 9 := fun c => by simp [stp]
  have h1 : ∀ c, stp 1 c = if 128 ≤ c ∧ c ≤ 191 then 0 else 9 := fun c => by simp [stp]
  have h9 : ∀ c, stp 9 c = 9 := fun c => by simp [stp]
  match t, ih with
  | [], _ => simp [checkN, runq, hq]
  | [x], _ =>
    have e : runq q [x] = if lo ≤ x.toNat ∧ x.toNat ≤ hi then 2 else 9 := by rw [runq, hs]; rfl
    rw [e]
    have hc : checkN [b, x].length (([b, x]).getD 1 0).toNat (([b, x]).getD 2 0).toNat (([b, x]).getD 3 0).toNat 4 lo hi = none := by simp [checkN]
    rw [hc]
    show false = _
    split <;> rfl
  | [x, y], _ =>
    have e : runq q [x, y] = stp (if lo ≤ x.toNat ∧ x.toNat ≤ hi then 2 else 9) y.toNat := by rw [runq, hs]; rfl
    rw [e]
    have hc : checkN [b, x, y].length (([b, x, y]).getD 1 0).toNat (([b, x, y]).getD 2 0).toNat (([b, x, y]).getD 3 0).toNat 4 lo hi = none := by simp [checkN]
    rw [hc]
    show false = _
    by_cases h : lo ≤ x.toNat ∧ x.toNat ≤ hi
    · rw [if_pos h, h2]; split <;> rfl
    · rw [if_neg h, h9]; rfl
  | x :: y :: z :: r, ih =>
    have e : runq q (x :: y :: z :: r) = runq (stp (stp (if lo ≤ x.toNat ∧ x.toNat ≤ hi then 2 else 9) y.toNat) z.toNat) r := by rw [runq, hs, runq, runq]
    rw [e]
    have hnone : (¬ (lo ≤ x.toNat ∧ x.toNat ≤ hi) ∨ ¬ (128 ≤ y.toNat ∧ y.toNat ≤ 191) ∨ ¬ (128 ≤ z.toNat ∧ z.toNat ≤ 191)) →
        checkN (b :: x :: y :: z :: r).length ((b :: x :: y :: z :: r).getD 1 0).toNat ((b :: x :: y :: z :: r).getD 2 0).toNat ((b :: x :: y :: z :: r).getD 3 0).toNat 4 lo hi = none := fun h => by
      simp [checkN]; omega
    by_cases h : lo ≤ x.toNat ∧ x.toNat ≤ hi
    · rw [if_pos h, h2]
      by_cases g : 128 ≤ y.toNat ∧ y.toNat ≤ 191
      · rw [if_pos g, h1]
        by_cases k : 128 ≤ z.toNat ∧ z.toNat ≤ 191
        · rw [if_pos k]
          have hc : checkN (b :: x :: y :: z :: r).length ((b :: x :: y :: z :: r).getD 1 0).toNat ((b :: x :: y :: z :: r).getD 2 0).toNat ((b :: x :: y :: z :: r).getD 3 0).toNat 4 lo hi = some 4 := by
            simp [checkN]; omega
          rw [hc]
          exact ih r (by simp; omega)
        · rw [if_neg k, runq_fail, hnone (.inr (.inr k))]; rfl
      · rw [if_neg g, h9, runq_fail, hnone (.inr (.inl g))]; rfl
    · rw [if_neg h, h9, h9, runq_fail, hnone (.inl h)]; rfl

theorem valid_okU : ∀ (n : Nat) (l : List UInt8), l.length ≤ n → validD l = okU l
  | _, [], _ => rfl
  | 0, _ :: _, h => by simp at h
  | n + 1, b :: t, h => by
    have ih : ∀ r : List UInt8, r.length < t.length + 1 → validD r = okU r := fun r hr => valid_okU n r (by simp at h; omega)
    have hb := b.toNat_lt
    by_cases c : b.toNat < 128
    · rw [Go.Lib.validD_cons b t c, ih t (by omega)]
      unfold okU
      rw [runq, stp_asc 0 _ c]; rfl
    · rw [Go.Lib.validD_lead (b :: t) (by simp) (by simp; omega)]
      have e0 : ((b :: t).getD 0 0).toNat = b.toNat := by simp
      rw [e0]
      unfold okU
      rw [runq]
      by_cases c0 : b.toNat < 194
      · have es : stp 0 b.toNat = 9 := by simp [stp, c, c0]
        have ec : checkN (b :: t).length ((b :: t).getD 1 0).toNat ((b :: t).getD 2 0).toNat ((b :: t).getD 3 0).toNat (firstT b.toNat % 8) (accLo (firstT b.toNat / 16)) (accHi (firstT b.toNat / 16)) = none := by
          simp [firstT, checkN, c, c0]
        rw [es, runq_fail, ec]; rfl
      by_cases c1 : b.toNat < 224
      · have es : stp 0 b.toNat = 1 := by simp [stp, c, c0, c1]
        rw [es, show firstT b.toNat % 8 = 2 by simp [firstT, c, c0, c1], show accLo (firstT b.toNat / 16) = 128 by simp [firstT, accLo, c, c0, c1], show accHi (firstT b.toNat / 16) = 191 by simp [firstT, accHi, c, c0, c1]]
        exact lead2 b t 1 128 191 _ _ (by decide) (fun c => by simp [stp]) ih
      by_cases c2 : b.toNat = 224
      · have es : stp 0 b.toNat = 4 := by simp [stp, c2]
        rw [es, show firstT b.toNat % 8 = 3 by simp [firstT, c2], show accLo (firstT b.toNat / 16) = 160 by simp [firstT, accLo, c2], show accHi (firstT b.toNat / 16) = 191 by simp [firstT, accHi, c2]]
        exact lead3 b t 4 160 191 _ (by decide) (fun c => by simp [stp]) ih
      by_cases c3 : b.toNat = 237
      · have es : stp 0 b.toNat = 5 := by simp [stp, c3]
        rw [es, show firstT b.toNat % 8 = 3 by simp [firstT, c3], show accLo (firstT b.toNat / 16) = 128 by simp [firstT, accLo, c3], show accHi (firstT b.toNat / 16) = 159 by simp [firstT, accHi, c3]]
        exact lead3 b t 5 128 159 _ (by decide) (fun c => by simp [stp]) ih
      by_cases c5 : b.toNat < 240
      · have es : stp 0 b.toNat = 2 := by simp [stp, c, c0, c1, c2, c3, c5]
        have ef : firstT b.toNat % 8 = 3 ∧ accLo (firstT b.toNat / 16) = 128 ∧ accHi (firstT b.toNat / 16) = 191 := by
          by_cases c4 : b.toNat < 237
          · simp [firstT, accLo, accHi, c, c0, c1, c2, c4]
          · simp [firstT, accLo, accHi, c, c0, c1, c2, c3, c4, c5]
        rw [es, ef.1, ef.2.1, ef.2.2]
        exact lead3 b t 2 128 191 _ (by decide) (fun c => by simp [stp]) ih
      have c4 : ¬ b.toNat < 237 := by omega
      by_cases c6 : b.toNat = 240
      · have es : stp 0 b.toNat = 6 := by simp [stp, c6]
        rw [es, show firstT b.toNat % 8 = 4 by simp [firstT, c6], show accLo (firstT b.toNat / 16) = 144 by simp [firstT, accLo, c6], show accHi (firstT b.toNat / 16) = 191 by simp [firstT, accHi, c6]]
        exact lead4 b t 6 144 191 (by decide) (fun c => by simp [stp]) ih
      by_cases c7 : b.toNat < 244
      · have es : stp 0 b.toNat = 3 := by simp [stp, c, c0, c1, c2, c3, c5, c6, c7]
        rw [es, show firstT b.toNat % 8 = 4 by simp [firstT, c, c0, c1, c2, c3, c4, c5, c6, c7], show accLo (firstT b.toNat / 16) = 128 by simp [firstT, accLo, c, c0, c1, c2, c3, c4, c5, c6, c7], show accHi (firstT b.toNat / 16) = 191 by simp [firstT, accHi, c, c0, c1, c2, c3, c4, c5, c6, c7]]
        exact lead4 b t 3 128 191 (by decide) (fun c => by simp [stp]) ih
      by_cases c8 : b.toNat = 244
      · have es : stp 0 b.toNat = 7 := by simp [stp, c8]
        rw [es, show firstT b.toNat % 8 = 4 by simp [firstT, c8], show accLo (firstT b.toNat / 16) = 128 by simp [firstT, accLo, c8], show accHi (firstT b.toNat / 16) = 143 by simp [firstT, accHi, c8]]
        exact lead4 b t 7 128 143 (by decide) (fun c => by simp [stp]) ih
      · have es : stp 0 b.toNat = 9 := by simp [stp, c, c0, c1, c2, c3, c5, c6, c7, c8]
        have ec : checkN (b :: t).length ((b :: t).getD 1 0).toNat ((b :: t).getD 2 0).toNat ((b :: t).getD 3 0).toNat (firstT b.toNat % 8) (accLo (firstT b.toNat / 16)) (accHi (firstT b.toNat / 16)) = none := by
          simp [firstT, checkN, c, c0, c1, c2, c3, c4, c5, c6, c7, c8]
        rw [es, runq_fail, ec]; rfl
theorem valid_eq (l : List UInt8) : validD l = okU l := valid_okU l.length l (Nat.le_refl _)

/-- A byte below 128 parts a text into two. -/
theorem valid_part (a b : List UInt8) (c : UInt8) (h : c.toNat < 128) : validD (a ++ c :: b) = (validD a && validD b) := by
  rw [valid_eq, valid_eq, valid_eq]
  unfold okU
  rw [runq_append, runq, stp_asc _ _ h]
  by_cases e : runq 0 a = 0
  · simp [e]
  · rw [if_neg e, runq_fail]; simp [e]
/-- A byte 255 stands in no well-formed text. -/
theorem valid_ff (a b : List UInt8) : validD (a ++ 255 :: b) = false := by
  rw [valid_eq]
  unfold okU
  rw [runq_append, runq]
  have h : stp (runq 0 a) (255 : UInt8).toNat = 9 := stp_ff _
  rw [h, runq_fail]; rfl
theorem runq_map (f : UInt8 → UInt8) (h1 : ∀ c, 128 ≤ c.toNat → f c = c) (h2 : ∀ c, c.toNat < 128 → (f c).toNat < 128) : ∀ (l : List UInt8) (q : Nat), runq q (l.map f) = runq q l
  | [], _ => rfl
  | c :: t, q => by
    rw [List.map_cons, runq, runq, runq_map f h1 h2 t]
    by_cases h : c.toNat < 128
    · rw [stp_asc _ _ h, stp_asc _ _ (h2 c h)]
    · rw [h1 c (by omega)]
theorem valid_map (f : UInt8 → UInt8) (h1 : ∀ c, 128 ≤ c.toNat → f c = c) (h2 : ∀ c, c.toNat < 128 → (f c).toNat < 128) (l : List UInt8) : validD (l.map f) = validD l := by
  rw [valid_eq, valid_eq]; unfold okU; rw [runq_map f h1 h2]

/-! ## The elements of a name -/
def split : List UInt8 → List (List UInt8)
  | [] => [[]]
  | c :: t => if c = 47 then [] :: split t else (c :: (split t).headD []) :: (split t).tail
def plainE (e : List UInt8) : Bool := !(e == []) && !(e == [46]) && !(e == [46, 46])
/-- Which names are valid. -/
def vp (l : List UInt8) : Bool := validD l && (l == [46] || (split l).all plainE)
def core (l : List UInt8) : Bool := validD l && (split l).all plainE
def good (e : List UInt8) : Bool := validD e && plainE e

theorem split_ne (l : List UInt8) : split l ≠ [] := by
  cases l with
  | nil => simp [split]
  | cons c t => unfold split; split <;> simp
theorem split_cons (l : List UInt8) : ∃ h r, split l = h :: r := by
  cases e : split l with
  | nil => exact absurd e (split_ne l)
  | cons h r => exact ⟨h, r, rfl⟩
theorem split_slash : ∀ a b : List UInt8, split (a ++ 47 :: b) = split a ++ split b
  | [], b => by simp [split]
  | c :: t, b => by
    have ih := split_slash t b
    obtain ⟨h, r, e⟩ := split_cons t
    rw [List.cons_append, split, split, ih, e]
    split <;> simp
theorem split_no : ∀ l : List UInt8, (47 : UInt8) ∉ l → split l = [l]
  | [], _ => rfl
  | c :: t, h => by
    have hc : c ≠ 47 := fun e => h (by simp [e])
    have ih := split_no t (fun m => h (by simp [m]))
    rw [split, if_neg hc, ih]; rfl
theorem split_mem : ∀ (l e : List UInt8), e ∈ split l → (47 : UInt8) ∉ e
  | [], e, h => by
    simp [split] at h; simp [h]
  | c :: t, e, h => by
    obtain ⟨g, r, eg⟩ := split_cons t
    have ih := split_mem t
    rw [eg] at ih
    unfold split at h
    by_cases hc : c = 47
    · rw [if_pos hc, eg] at h
      rcases List.mem_cons.1 h with rfl | h
      · simp
      · exact ih e h
    · rw [if_neg hc, eg] at h
      simp only [List.headD_cons, List.tail_cons] at h
      rcases List.mem_cons.1 h with rfl | h
      · have := ih g (by simp)
        intro m
        rcases List.mem_cons.1 m with m | m
        · exact hc m.symm
        · exact this m
      · exact ih e (by simp [h])
/-- Names: no slash, or an element, a slash, and a name. -/
theorem slash_ind {P : List UInt8 → Prop} (h0 : ∀ a : List UInt8, (47 : UInt8) ∉ a → P a) (h1 : ∀ a b : List UInt8, (47 : UInt8) ∉ a → P b → P (a ++ 47 :: b)) : ∀ (l acc : List UInt8), (47 : UInt8) ∉ acc → P (acc ++ l)
  | [], acc, h => by rw [List.append_nil]; exact h0 acc h
  | c :: t, acc, h => by
    by_cases hc : c = 47
    · subst hc
      exact h1 acc t h (slash_ind h0 h1 t [] (by simp))
    · have := slash_ind h0 h1 t (acc ++ [c]) (fun m => by
        rcases List.mem_append.1 m with m | m
        · exact h m
        · simp at m; exact hc m.symm)
      rwa [List.append_assoc] at this
theorem name_ind {P : List UInt8 → Prop} (h0 : ∀ a : List UInt8, (47 : UInt8) ∉ a → P a) (h1 : ∀ a b : List UInt8, (47 : UInt8) ∉ a → P b → P (a ++ 47 :: b)) (l : List UInt8) : P l :=
  slash_ind h0 h1 l [] (by simp)
theorem core_good (l : List UInt8) : core l = (split l).all good := by
  refine name_ind (P := fun l => core l = (split l).all good) ?_ ?_ l
  · intro a ha
    unfold core good; rw [split_no a ha]; simp
  · intro a b ha ih
    unfold core at ih ⊢
    rw [split_slash, split_no a ha, List.all_append, List.all_append, ← ih, valid_part _ _ _ (by decide)]
    simp only [List.all_cons, List.all_nil, Bool.and_true, good]
    cases validD a <;> cases plainE a <;> cases validD b <;> cases (split b).all plainE <;> rfl
theorem valid_dot : validD [46] = true := by rw [valid_eq]; decide
theorem core_dot : core [46] = false := by unfold core; simp [split, plainE]
theorem vp_core (l : List UInt8) : vp l = (l == [46] || core l) := by
  unfold vp core
  by_cases h : l = [46]
  · subst h; simp [valid_dot]
  · have : (l == [46]) = false := by simpa using h
    rw [this]; simp
theorem core_slash (a b : List UInt8) : core (a ++ 47 :: b) = (core a && core b) := by
  rw [core_good, core_good, core_good, split_slash, List.all_append]
theorem slash_dot (a b : List UInt8) : (a ++ 47 :: b == [46]) = false := by
  cases a with
  | nil => simp
  | cons c t => cases t <;> simp
theorem vp_nodot (a : List UInt8) : (vp a && !(a == [46])) = core a := by
  rw [vp_core]
  by_cases h : a = [46]
  · subst h; rw [core_dot]; rfl
  · have : (a == [46]) = false := by simpa using h
    rw [this]; simp
theorem vp_slash (a b : List UInt8) : vp (a ++ 47 :: b) = (core a && core b) := by
  rw [vp_core, slash_dot, core_slash]; rfl
/-- FnValidJoin's law. -/
theorem vp_join (a b : List UInt8) : vp (a ++ 47 :: b) = (vp a && vp b && !(a == [46]) && !(b == [46])) := by
  rw [vp_slash, ← vp_nodot a, ← vp_nodot b]
  cases vp a <;> cases vp b <;> cases (a == [46]) <;> cases (b == [46]) <;> rfl
theorem vp_of_core {a : List UInt8} (h : core a = true) : vp a = true := by rw [vp_core, h]; simp
/-- FnValidCut's law. -/
theorem vp_cut (a b : List UInt8) (h : vp (a ++ 47 :: b) = true) : vp a = true ∧ vp b = true := by
  rw [vp_slash] at h
  simp only [Bool.and_eq_true] at h
  exact ⟨vp_of_core h.1, vp_of_core h.2⟩
/-- FnValidBroken's law. -/
theorem vp_broken (a b : List UInt8) : vp (a ++ 255 :: b) = false := by
  unfold vp; rw [valid_ff]; rfl
/-- FnValidElements' law. -/
theorem all_congr {α : Type} {p q : α → Bool} : ∀ {l : List α}, (∀ x ∈ l, p x = q x) → l.all p = l.all q
  | [], _ => rfl
  | x :: t, h => by rw [List.all_cons, List.all_cons, h x (by simp), all_congr (fun y hy => h y (by simp [hy]))]
theorem vp_elem (e : List UInt8) (h : (47 : UInt8) ∉ e) : (!(e == [46]) && vp e) = good e := by
  rw [Bool.and_comm, vp_nodot, core_good, split_no e h]; simp
theorem vp_elements (l : List UInt8) : vp l = ((split l).all (fun e => !(e == [46]) && vp e) || l == [46]) := by
  rw [all_congr (q := good) (fun e he => vp_elem e (split_mem l e he)), ← core_good, vp_core, Bool.or_comm]

/-! ## Names put together -/
def joinS : List (List UInt8) → List UInt8
  | [] => []
  | [e] => e
  | e :: f :: r => e ++ 47 :: joinS (f :: r)
theorem joinS_cons (e : List UInt8) (r : List (List UInt8)) (h : r ≠ []) : joinS (e :: r) = e ++ 47 :: joinS r := by
  cases r with
  | nil => exact absurd rfl h
  | cons f r => rfl
theorem split_joinS : ∀ es : List (List UInt8), es ≠ [] → (∀ e ∈ es, (47 : UInt8) ∉ e) → split (joinS es) = es
  | [], h, _ => absurd rfl h
  | [e], _, h => split_no e (h e (by simp))
  | e :: f :: r, _, h => by
    rw [joinS_cons e (f :: r) (by simp), split_slash, split_no e (h e (by simp)), split_joinS (f :: r) (by simp) (fun x hx => h x (by simp [hx]))]; rfl
theorem joinS_split (l : List UInt8) : joinS (split l) = l := by
  refine name_ind (P := fun l => joinS (split l) = l) ?_ ?_ l
  · intro a ha; rw [split_no a ha]; rfl
  · intro a b ha ih
    rw [split_slash, split_no a ha, List.singleton_append, joinS_cons a _ (split_ne b), ih]
theorem dot_split (l : List UInt8) : (l == [46]) = (split l == [[46]]) := by
  rw [Bool.eq_iff_iff]
  simp only [beq_iff_eq]
  constructor
  · rintro rfl; decide
  · intro h
    have := joinS_split l
    rw [h] at this
    exact this.symm
theorem vp_split (l : List UInt8) : vp l = (split l == [[46]] || (split l).all good) := by
  rw [vp_core, dot_split, core_good]
/-- FnValidTurned's law. -/
theorem vp_turned (l : List UInt8) : vp (joinS (split l).reverse) = vp l := by
  have hs : split (joinS (split l).reverse) = (split l).reverse :=
    split_joinS _ (by simpa using split_ne l) (fun e he => split_mem l e (by simpa using he))
  rw [vp_split, vp_split, hs, List.all_reverse]
  congr 1
  rw [Bool.eq_iff_iff]
  simp only [beq_iff_eq]
  constructor
  · intro h
    have := congrArg List.reverse h
    simpa using this
  · intro h; rw [h]; rfl
theorem joinS_snoc : ∀ (es : List (List UInt8)) (e : List UInt8), es ≠ [] → joinS (es ++ [e]) = joinS es ++ 47 :: e
  | [], _, h => absurd rfl h
  | [f], e, _ => rfl
  | f :: g :: r, e, _ => by
    have ih := joinS_snoc (g :: r) e (by simp)
    rw [List.cons_append, joinS_cons f (g :: r ++ [e]) (by simp), ih, joinS_cons f (g :: r) (by simp)]
    simp
theorem core_joinS : ∀ es : List (List UInt8), es ≠ [] → core (joinS es) = es.all core
  | [], h => absurd rfl h
  | [e], _ => by simp [joinS]
  | e :: f :: r, _ => by
    rw [joinS_cons e (f :: r) (by simp), core_slash, core_joinS (f :: r) (by simp)]; rfl
/-- FnValidList's law. -/
theorem vp_list (es : List (List UInt8)) : vp (joinS es) = (decide (0 < es.length) && es.all (fun e => vp e && (!(e == [46]) || es.length == 1))) := by
  match es with
  | [] =>
    have : vp (joinS []) = false := by decide
    rw [this]; rfl
  | [e] => simp [joinS]
  | e :: f :: r =>
    have h1 : ((e :: f :: r).length == 1) = false := by simp
    rw [h1]
    have h2 : decide (0 < (e :: f :: r).length) = true := by simp
    rw [h2]
    rw [all_congr (q := core) (fun x _ => by rw [Bool.or_false]; exact vp_nodot x), joinS_cons e (f :: r) (by simp), vp_slash, core_joinS (f :: r) (by simp)]
    simp
/-- A name, so many times more, with slashes between. -/
def many (l : List UInt8) : Nat → List UInt8
  | 0 => l
  | n + 1 => many l n ++ 47 :: l
theorem core_many (l : List UInt8) : ∀ n, core (many l n) = core l
  | 0 => rfl
  | n + 1 => by rw [many, core_slash, core_many l n]; simp
theorem many_length (l : List UInt8) : ∀ n, (many l n).length = l.length + n * (l.length + 1)
  | 0 => by simp [many]
  | n + 1 => by
    rw [many, List.length_append, List.length_cons, many_length l n, Nat.add_mul]; omega
/-- FnValidMany's law. -/
theorem vp_many (l : List UInt8) (n : Nat) : vp (many l n) = (vp l && (n == 0 || !(l == [46]))) := by
  cases n with
  | zero => simp [many]
  | succ n =>
    rw [many, vp_slash, core_many]
    have : (n + 1 == 0) = false := by simp
    rw [this, Bool.false_or, vp_nodot]; simp
/-- FnValidDots' law. -/
theorem vp_dots (n : Nat) : vp (List.replicate n 46) = (n == 1 || decide (2 < n)) := by
  have hn : (47 : UInt8) ∉ List.replicate n (46 : UInt8) := by
    intro h; have := List.eq_of_mem_replicate h; exact absurd this (by decide)
  have hv : ∀ n, validD (List.replicate n 46) = true := fun n => by
    induction n with
    | zero => rfl
    | succ n ih => rw [List.replicate_succ, Go.Lib.validD_cons _ _ (by decide), ih]
  rw [vp_core, core_good, split_no _ hn]
  simp only [List.all_cons, List.all_nil, Bool.and_true, good, hv, Bool.true_and, plainE]
  match n with
  | 0 => decide
  | 1 => decide
  | 2 => decide
  | n + 3 => simp [List.replicate_succ]
/-- FnValidByte's laws. -/
theorem plain_cons (e : List UInt8) (b : UInt8) (h : plainE e = true) : plainE (b :: e) = true := by
  unfold plainE at *
  match e, h with
  | [], h => simp at h
  | [x], h => simp at h ⊢; exact .inr h
  | x :: y :: t, _ => simp
theorem plain_snoc (e : List UInt8) (b : UInt8) (h : plainE e = true) : plainE (e ++ [b]) = true := by
  unfold plainE at *
  match e, h with
  | [], h => simp at h
  | [x], h => simp at h ⊢; exact .inl h
  | x :: y :: t, _ => simp
theorem split_snoc : ∀ (l : List UInt8) (b : UInt8), b ≠ 47 → ∃ a e, split l = a ++ [e] ∧ split (l ++ [b]) = a ++ [e ++ [b]]
  | [], b, h => ⟨[], [], rfl, by simp [split, h]⟩
  | c :: t, b, h => by
    obtain ⟨a, e, h1, h2⟩ := split_snoc t b h
    by_cases hc : c = 47
    · subst hc
      exact ⟨[] :: a, e, by simp [split, h1], by simp [split, h2]⟩
    · cases a with
      | nil => exact ⟨[], c :: e, by simp [split, h1, hc], by simp [split, h2, hc]⟩
      | cons x a => exact ⟨(c :: x) :: a, e, by simp [split, h1, hc], by simp [split, h2, hc]⟩
theorem core_byte (l : List UInt8) (b : UInt8) (hb : b.toNat < 128) (h47 : b ≠ 47) (h : core l = true) : core (b :: l) = true ∧ core (l ++ [b]) = true := by
  unfold core at *
  simp only [Bool.and_eq_true] at h ⊢
  obtain ⟨hv, hp⟩ := h
  constructor
  · refine ⟨by rw [Go.Lib.validD_cons _ _ hb]; exact hv, ?_⟩
    obtain ⟨g, r, e⟩ := split_cons l
    rw [e] at hp
    simp only [List.all_cons, Bool.and_eq_true] at hp
    rw [split, if_neg h47, e]
    simp only [List.headD_cons, List.tail_cons, List.all_cons, Bool.and_eq_true]
    exact ⟨plain_cons g b hp.1, hp.2⟩
  · refine ⟨by rw [valid_part _ _ _ hb, hv]; rfl, ?_⟩
    obtain ⟨a, e, h1, h2⟩ := split_snoc l b h47
    rw [h1, List.all_append] at hp
    rw [h2, List.all_append]
    simp only [List.all_cons, List.all_nil, Bool.and_true, Bool.and_eq_true] at hp ⊢
    exact ⟨hp.1, plain_snoc e b hp.2⟩
theorem vp_byte (l : List UInt8) (b : UInt8) (hb : b.toNat < 128) (h47 : b ≠ 47) (hd : l ≠ [46]) (h : vp l = true) : vp (l ++ [b]) = true ∧ vp (b :: l) = true := by
  have hc : core l = true := by
    rw [← vp_nodot, h]; simpa using hd
  have := core_byte l b hb h47 hc
  exact ⟨vp_of_core this.2, vp_of_core this.1⟩
/-- FnValidOther's law. -/
def other (c : UInt8) : UInt8 := if c = 92 ∨ c = 58 then 120 else c
theorem other_asc (c : UInt8) (h : c.toNat < 128) : (other c).toNat < 128 := by unfold other; split; decide; exact h
theorem other_not (c : UInt8) (h : 128 ≤ c.toNat) : other c = c := by
  unfold other
  rw [if_neg]
  rintro (rfl | rfl) <;> exact absurd h (by decide)
theorem other_eq (c : UInt8) (d : UInt8) (h1 : d ≠ 92) (h2 : d ≠ 58) (h3 : d ≠ 120) : other c = d ↔ c = d := by
  unfold other
  split
  · rename_i h
    constructor
    · intro e; exact absurd e.symm h3
    · rintro rfl; rcases h with h | h
      · exact absurd h h1
      · exact absurd h h2
  · exact Iff.rfl
theorem other_dot (c : UInt8) : other c = 46 ↔ c = 46 := other_eq c 46 (by decide) (by decide) (by decide)
theorem other_slash (c : UInt8) : other c = 47 ↔ c = 47 := other_eq c 47 (by decide) (by decide) (by decide)
theorem split_other : ∀ l : List UInt8, split (l.map other) = (split l).map (List.map other)
  | [] => rfl
  | c :: t => by
    have ih := split_other t
    obtain ⟨g, r, e⟩ := split_cons t
    rw [e] at ih
    rw [List.map_cons, split, split, ih, e]
    by_cases hc : c = 47
    · rw [if_pos ((other_slash c).2 hc), if_pos hc]; rfl
    · rw [if_neg (fun h => hc ((other_slash c).1 h)), if_neg hc]; rfl
theorem dot_other (e : List UInt8) : (e.map other == [46]) = (e == [46]) := by
  match e with
  | [] => rfl
  | [x] => rw [Bool.eq_iff_iff]; simp [other_dot]
  | x :: y :: t => simp
theorem plain_other (e : List UInt8) : plainE (e.map other) = plainE e := by
  unfold plainE
  rw [dot_other]
  congr 1
  · congr 1
    cases e <;> rfl
  · congr 1
    match e with
    | [] => rfl
    | [x] => simp
    | [x, y] => rw [Bool.eq_iff_iff]; simp [other_dot]
    | x :: y :: z :: t => simp
theorem vp_other (l : List UInt8) : vp (l.map other) = vp l := by
  unfold vp
  rw [valid_map other other_not other_asc, dot_other, split_other, List.all_map]
  congr 2
  exact all_congr (fun e _ => plain_other e)
/-- FnValidEnds' laws. -/
theorem vp_nil : vp [] = false := by decide
theorem core_nil : core [] = false := by decide
theorem vp_head (t : List UInt8) : vp (47 :: t) = false := by
  have := vp_slash [] t
  rw [List.nil_append] at this
  rw [this, core_nil]; rfl
theorem vp_last (t : List UInt8) : vp (t ++ [47]) = false := by
  rw [vp_slash, core_nil]; simp
theorem vp_two (a b : List UInt8) : vp (a ++ 47 :: 47 :: b) = false := by
  have h : core (47 :: b) = false := by
    have := core_slash [] b
    rw [List.nil_append] at this
    rw [this, core_nil]; rfl
  rw [vp_slash, h]; simp
/-- FnValidRune's law. -/
theorem vp_one (l : List UInt8) (hv : validD l = true) (h47 : (47 : UInt8) ∉ l) (h0 : l ≠ []) (h2 : l ≠ [46, 46]) : vp l = true := by
  unfold vp
  rw [hv, split_no l h47]
  by_cases h : l = [46]
  · subst h; rfl
  · simp [plainE, h0, h2, h]
end Go.Proofs.YtlbhelibgifaaaaDoor
