/-
  The plain layer of the reference's own functions: spec.follows and spec.sequence as functions on bytes, and that Lib.validD goes by them. No program and no memory in this text.
-/
import Derived.Test.YtlbhelibgifaaaaDoorPlain
namespace Go.Proofs.YtlbhelibgifaaaaDoor
open Go.Lib (validD checkN firstT accLo accHi)

/-- A byte of 80 to bf. -/
def cont (c : UInt8) : Bool := decide (128 ≤ c.toNat) && decide (c.toNat ≤ 191)
/-- spec.follows. -/
def folB (l : List UInt8) (m : Nat) : Bool := decide (m ≤ l.length) && (l.take m).all cont
theorem cont_yes {c : UInt8} : cont c = true ↔ 128 ≤ c.toNat ∧ c.toNat ≤ 191 := by simp [cont]
theorem folB_short (l : List UInt8) (m : Nat) (h : l.length < m) : folB l m = false := by
  unfold folB
  rw [decide_eq_false (by omega)]; rfl
theorem folB_yes (l : List UInt8) (m : Nat) (h : m ≤ l.length) (ha : (l.take m).all cont = true) : folB l m = true := by
  unfold folB
  rw [decide_eq_true h, ha]; rfl
theorem folB_no (l : List UInt8) (m k : Nat) (hk : k < m) (hl : k < l.length) (h : cont l[k] = false) : folB l m = false := by
  unfold folB
  have : (l.take m).all cont = false := by
    rw [List.all_eq_false]
    refine ⟨l[k], ?_, by simp [h]⟩
    rw [List.mem_take_iff_getElem]
    exact ⟨k, by omega, rfl⟩
  rw [this]; simp
theorem folB_1 (l : List UInt8) : folB (l.drop 1) 1 = true ↔ 2 ≤ l.length ∧ (128 ≤ (l.getD 1 0).toNat ∧ (l.getD 1 0).toNat ≤ 191) := by
  match l with
  | [] => simp [folB]
  | [a] => simp [folB]
  | a :: b :: t => simp [folB, cont]
theorem folB_2 (l : List UInt8) : folB (l.drop 1) 2 = true ↔ 3 ≤ l.length ∧ (128 ≤ (l.getD 1 0).toNat ∧ (l.getD 1 0).toNat ≤ 191) ∧ (128 ≤ (l.getD 2 0).toNat ∧ (l.getD 2 0).toNat ≤ 191) := by
  match l with
  | [] => simp [folB]
  | [a] => simp [folB]
  | [a, b] => simp [folB]
  | a :: b :: c :: t => simp [folB, cont]
theorem folB_3 (l : List UInt8) : folB (l.drop 1) 3 = true ↔ 4 ≤ l.length ∧ (128 ≤ (l.getD 1 0).toNat ∧ (l.getD 1 0).toNat ≤ 191) ∧ (128 ≤ (l.getD 2 0).toNat ∧ (l.getD 2 0).toNat ≤ 191) ∧ (128 ≤ (l.getD 3 0).toNat ∧ (l.getD 3 0).toNat ≤ 191) := by
  match l with
  | [] => simp [folB]
  | [a] => simp [folB]
  | [a, b] => simp [folB]
  | [a, b, c] => simp [folB]
  | a :: b :: c :: d :: t => simp [folB, cont]
/-- spec.sequence. -/
def seqL (l : List UInt8) : Nat :=
  if (l.getD 0 0).toNat < 128 then 1
  else if 194 ≤ (l.getD 0 0).toNat ∧ (l.getD 0 0).toNat ≤ 223 ∧ folB (l.drop 1) 1 = true then 2
  else if 224 ≤ (l.getD 0 0).toNat ∧ (l.getD 0 0).toNat ≤ 239 ∧ folB (l.drop 1) 2 = true then
    (if ((l.getD 0 0).toNat = 224 ∧ (l.getD 1 0).toNat < 160) ∨ ((l.getD 0 0).toNat = 237 ∧ 159 < (l.getD 1 0).toNat) then 0 else 3)
  else if 240 ≤ (l.getD 0 0).toNat ∧ (l.getD 0 0).toNat ≤ 244 ∧ folB (l.drop 1) 3 = true then
    (if ((l.getD 0 0).toNat = 240 ∧ (l.getD 1 0).toNat < 144) ∨ ((l.getD 0 0).toNat = 244 ∧ 143 < (l.getD 1 0).toNat) then 0 else 4)
  else 0
theorem seqL_le (l : List UInt8) (h : l ≠ []) : seqL l ≤ l.length := by
  have hl : 0 < l.length := List.length_pos_iff.2 h
  unfold seqL
  repeat' split
  all_goals first | omega | (rename_i g; have := (folB_1 l).1 g.2.2; omega) | (rename_i g _; have := (folB_2 l).1 g.2.2; omega) | (rename_i g _; have := (folB_3 l).1 g.2.2; omega)
/-- What 'size' and the two bounds are at a lead byte from 128 on. -/
theorem lead_tab (b : Nat) (h : 128 ≤ b) (h' : b < 256) :
    ((b < 194 ∨ 245 ≤ b) ∧ firstT b % 8 = 1) ∨
    ((194 ≤ b ∧ b ≤ 223) ∧ firstT b % 8 = 2 ∧ accLo (firstT b / 16) = 128 ∧ accHi (firstT b / 16) = 191) ∨
    (b = 224 ∧ firstT b % 8 = 3 ∧ accLo (firstT b / 16) = 160 ∧ accHi (firstT b / 16) = 191) ∨
    (b = 237 ∧ firstT b % 8 = 3 ∧ accLo (firstT b / 16) = 128 ∧ accHi (firstT b / 16) = 159) ∨
    ((225 ≤ b ∧ b ≤ 239 ∧ b ≠ 237) ∧ firstT b % 8 = 3 ∧ accLo (firstT b / 16) = 128 ∧ accHi (firstT b / 16) = 191) ∨
    (b = 240 ∧ firstT b % 8 = 4 ∧ accLo (firstT b / 16) = 144 ∧ accHi (firstT b / 16) = 191) ∨
    (b = 244 ∧ firstT b % 8 = 4 ∧ accLo (firstT b / 16) = 128 ∧ accHi (firstT b / 16) = 143) ∨
    ((241 ≤ b ∧ b ≤ 243) ∧ firstT b % 8 = 4 ∧ accLo (firstT b / 16) = 128 ∧ accHi (firstT b / 16) = 191) := by
  have key : ∀ x : Fin 256, 128 ≤ x.val → ((x.val < 194 ∨ 245 ≤ x.val) ∧ firstT x.val % 8 = 1) ∨
    ((194 ≤ x.val ∧ x.val ≤ 223) ∧ firstT x.val % 8 = 2 ∧ accLo (firstT x.val / 16) = 128 ∧ accHi (firstT x.val / 16) = 191) ∨
    (x.val = 224 ∧ firstT x.val % 8 = 3 ∧ accLo (firstT x.val / 16) = 160 ∧ accHi (firstT x.val / 16) = 191) ∨
    (x.val = 237 ∧ firstT x.val % 8 = 3 ∧ accLo (firstT x.val / 16) = 128 ∧ accHi (firstT x.val / 16) = 159) ∨
    ((225 ≤ x.val ∧ x.val ≤ 239 ∧ x.val ≠ 237) ∧ firstT x.val % 8 = 3 ∧ accLo (firstT x.val / 16) = 128 ∧ accHi (firstT x.val / 16) = 191) ∨
    (x.val = 240 ∧ firstT x.val % 8 = 4 ∧ accLo (firstT x.val / 16) = 144 ∧ accHi (firstT x.val / 16) = 191) ∨
    (x.val = 244 ∧ firstT x.val % 8 = 4 ∧ accLo (firstT x.val / 16) = 128 ∧ accHi (firstT x.val / 16) = 143) ∨
    ((241 ≤ x.val ∧ x.val ≤ 243) ∧ firstT x.val % 8 = 4 ∧ accLo (firstT x.val / 16) = 128 ∧ accHi (firstT x.val / 16) = 191) := by decide +kernel
  exact key ⟨b, h'⟩ h
theorem seq_check (l : List UInt8) (h0 : 128 ≤ (l.getD 0 0).toNat) :
    checkN l.length (l.getD 1 0).toNat (l.getD 2 0).toNat (l.getD 3 0).toNat (firstT (l.getD 0 0).toNat % 8) (accLo (firstT (l.getD 0 0).toNat / 16)) (accHi (firstT (l.getD 0 0).toNat / 16)) = if seqL l = 0 then none else some (seqL l) := by
  have f1 := folB_1 l
  have f2 := folB_2 l
  have f3 := folB_3 l
  have ht := lead_tab (l.getD 0 0).toNat h0 (UInt8.toNat_lt _)
  obtain ⟨S, hS⟩ : ∃ S, seqL l = S := ⟨_, rfl⟩
  rw [hS]
  unfold seqL at hS
  generalize folB (l.drop 1) 1 = F1 at *
  generalize folB (l.drop 1) 2 = F2 at *
  generalize folB (l.drop 1) 3 = F3 at *
  generalize (l.getD 0 0).toNat = a at *
  generalize (l.getD 1 0).toNat = b at *
  generalize (l.getD 2 0).toNat = c at *
  generalize (l.getD 3 0).toNat = d at *
  generalize l.length = n at *
  rw [if_neg (by omega : ¬ a < 128)] at hS
  rcases ht with ⟨ha, e⟩ | ⟨ha, e1, e2, e3⟩ | ⟨ha, e1, e2, e3⟩ | ⟨ha, e1, e2, e3⟩ | ⟨ha, e1, e2, e3⟩ | ⟨ha, e1, e2, e3⟩ | ⟨ha, e1, e2, e3⟩ | ⟨ha, e1, e2, e3⟩
  · rw [if_neg (by omega), if_neg (by omega), if_neg (by omega)] at hS
    subst hS; rw [e]; rfl
  · rw [e1, e2, e3]
    cases F1
    · rw [if_neg (by simp), if_neg (by omega), if_neg (by omega)] at hS
      simp at f1
      subst hS; simp [checkN]; omega
    · rw [if_pos ⟨ha.1, ha.2, rfl⟩] at hS
      have := f1.1 rfl
      subst hS; simp [checkN]; omega
  · rw [e1, e2, e3]
    rw [if_neg (by omega)] at hS
    cases F2
    · rw [if_neg (by simp), if_neg (by omega)] at hS
      simp at f2
      subst hS; simp [checkN]; omega
    · rw [if_pos ⟨by omega, by omega, rfl⟩] at hS
      have := f2.1 rfl
      by_cases g : b < 160
      · rw [if_pos (.inl ⟨ha, g⟩)] at hS
        subst hS; simp [checkN]; omega
      · rw [if_neg (by omega)] at hS
        subst hS; simp [checkN]; omega
  · rw [e1, e2, e3]
    rw [if_neg (by omega)] at hS
    cases F2
    · rw [if_neg (by simp), if_neg (by omega)] at hS
      simp at f2
      subst hS; simp [checkN]; omega
    · rw [if_pos ⟨by omega, by omega, rfl⟩] at hS
      have := f2.1 rfl
      by_cases g : 159 < b
      · rw [if_pos (.inr ⟨ha, g⟩)] at hS
        subst hS; simp [checkN]; omega
      · rw [if_neg (by omega)] at hS
        subst hS; simp [checkN]; omega
  · rw [e1, e2, e3]
    rw [if_neg (by omega)] at hS
    cases F2
    · rw [if_neg (by simp), if_neg (by omega)] at hS
      simp at f2
      subst hS; simp [checkN]; omega
    · rw [if_pos ⟨by omega, by omega, rfl⟩, if_neg (by omega)] at hS
      have := f2.1 rfl
      subst hS; simp [checkN]; omega
  · rw [e1, e2, e3]
    rw [if_neg (by omega), if_neg (by omega)] at hS
    cases F3
    · rw [if_neg (by simp)] at hS
      simp at f3
      subst hS; simp [checkN]; omega
    · rw [if_pos ⟨by omega, by omega, rfl⟩] at hS
      have := f3.1 rfl
      by_cases g : b < 144
      · rw [if_pos (.inl ⟨ha, g⟩)] at hS
        subst hS; simp [checkN]; omega
      · rw [if_neg (by omega)] at hS
        subst hS; simp [checkN]; omega
  · rw [e1, e2, e3]
    rw [if_neg (by omega), if_neg (by omega)] at hS
    cases F3
    · rw [if_neg (by simp)] at hS
      simp at f3
      subst hS; simp [checkN]; omega
    · rw [if_pos ⟨by omega, by omega, rfl⟩] at hS
      have := f3.1 rfl
      by_cases g : 143 < b
      · rw [if_pos (.inr ⟨ha, g⟩)] at hS
        subst hS; simp [checkN]; omega
      · rw [if_neg (by omega)] at hS
        subst hS; simp [checkN]; omega
  · rw [e1, e2, e3]
    rw [if_neg (by omega), if_neg (by omega)] at hS
    cases F3
    · rw [if_neg (by simp)] at hS
      simp at f3
      subst hS; simp [checkN]; omega
    · rw [if_pos ⟨by omega, by omega, rfl⟩, if_neg (by omega)] at hS
      have := f3.1 rfl
      subst hS; simp [checkN]; omega
/-- spec.Whole's step. -/
theorem seq_valid (l : List UInt8) (h : l ≠ []) : validD l = if seqL l = 0 then false else validD (l.drop (seqL l)) := by
  by_cases h0 : 128 ≤ (l.getD 0 0).toNat
  · rw [Go.Lib.validD_lead l h h0, seq_check l h0]
    by_cases e : seqL l = 0
    · rw [if_pos e, if_pos e]
    · rw [if_neg e, if_neg e]
  · have e : seqL l = 1 := by unfold seqL; rw [if_pos (by omega)]
    rw [e, if_neg (by decide)]
    match l, h, h0 with
    | b :: t, _, h0 => exact Go.Lib.validD_cons b t (by simp at h0; omega)
end Go.Proofs.YtlbhelibgifaaaaDoor
