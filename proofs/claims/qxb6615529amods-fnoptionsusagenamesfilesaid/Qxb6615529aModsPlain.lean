/-
  What sim.Outputs.Options lists, as plain data, and what the law asks of it. No Go in sight but the strings' bytes. Proof text of this seat.
-/
import Derived.Test.Qxb6615529aModsRows
namespace Go.Proofs.Qxb6615529aMods

/-- the options' names -/
def N : Nat → ByteArray
  | 0 => ⟨#[116, 114, 97, 99, 101]⟩
  | 1 => ⟨#[103, 114, 111, 117, 112, 115]⟩
  | 2 => ⟨#[112, 101, 101, 114, 115]⟩
  | _ => ⟨#[99, 114, 111, 119, 100, 115]⟩
/-- the options' usages -/
def U : Nat → ByteArray
  | 0 => ⟨#[119, 114, 105, 116, 101, 32, 101, 118, 101, 114, 121, 32, 116, 114, 97, 110, 115, 102, 101, 114, 32, 116, 111, 32, 96, 70, 73, 76, 69, 96, 32, 97, 115, 32, 67, 83, 86]⟩
  | 1 => ⟨#[119, 114, 105, 116, 101, 32, 116, 104, 101, 32, 112, 105, 101, 99, 101, 115, 32, 101, 97, 99, 104, 32, 103, 114, 111, 117, 112, 39, 115, 32, 112, 101, 101, 114, 115, 32, 100, 111, 119, 110, 108, 111, 97, 100, 101, 100, 44, 32, 114, 117, 110, 32, 98, 121, 32, 114, 117, 110, 44, 32, 116, 111, 32, 96, 70, 73, 76, 69, 96, 32, 97, 115, 32, 67, 83, 86]⟩
  | 2 => ⟨#[119, 114, 105, 116, 101, 32, 116, 104, 101, 32, 117, 110, 105, 116, 115, 32, 101, 97, 99, 104, 32, 112, 101, 101, 114, 32, 106, 111, 105, 110, 101, 100, 44, 32, 99, 97, 109, 101, 32, 116, 111, 32, 104, 111, 108, 100, 32, 101, 118, 101, 114, 121, 32, 112, 105, 101, 99, 101, 32, 97, 110, 100, 32, 108, 101, 102, 116, 32, 105, 110, 44, 32, 114, 117, 110, 32, 98, 121, 32, 114, 117, 110, 44, 32, 116, 111, 32, 96, 70, 73, 76, 69, 96, 32, 97, 115, 32, 67, 83, 86]⟩
  | _ => ⟨#[119, 114, 105, 116, 101, 32, 101, 97, 99, 104, 32, 99, 114, 111, 119, 100, 39, 115, 32, 100, 105, 115, 116, 114, 105, 98, 117, 116, 101, 100, 32, 99, 111, 112, 121, 44, 32, 105, 116, 115, 32, 109, 101, 109, 98, 101, 114, 115, 39, 32, 109, 101, 97, 110, 32, 99, 111, 109, 112, 108, 101, 116, 101, 32, 117, 110, 105, 116, 32, 97, 110, 100, 32, 105, 116, 115, 32, 99, 111, 108, 108, 105, 115, 105, 111, 110, 115, 44, 32, 114, 117, 110, 32, 98, 121, 32, 114, 117, 110, 44, 32, 116, 111, 32, 96, 70, 73, 76, 69, 96, 32, 97, 115, 32, 67, 83, 86]⟩
/-- where the two backquotes of each usage stand -/
def P : Nat → Nat
  | 0 => 24
  | 1 => 63
  | 2 => 87
  | _ => 104

/-- every byte of s is a lower-case letter, and there is one -/
def FlagOK (s : ByteArray) : Prop := 0 < s.size ∧ ∀ k (h : k < s.size), 97 ≤ (s[k].toNat : Int) ∧ (s[k].toNat : Int) ≤ 122
/-- s has its two backquotes at p and p + 5 and nowhere else -/
def QuotedAt (s : ByteArray) (p : Nat) : Prop := p + 5 < s.size ∧ ∀ k (h : k < s.size), (s[k].toNat : Int) = 96 ↔ (k = p ∨ k = p + 5)

def flagB (l : List UInt8) : Bool := !l.isEmpty && l.all fun c => 97 ≤ c.toNat && c.toNat ≤ 122
theorem flag_of {s : ByteArray} (h : flagB s.data.toList = true) : FlagOK s := by
  unfold flagB at h
  rw [Bool.and_eq_true, List.all_eq_true] at h
  refine ⟨?_, fun k hk => ?_⟩
  · rcases Nat.eq_zero_or_pos s.size with e | e
    · have : s.data.toList = [] := List.eq_nil_of_length_eq_zero (by simpa using e)
      simp [this] at h
    · exact e
  · have hm : s[k] ∈ s.data.toList := by
      show s.data[k] ∈ s.data.toList
      exact Array.getElem_mem_toList hk
    have := h.2 _ hm
    simp at this
    omega
def quotB (l : List UInt8) (p : Nat) : Bool := decide (p + 5 < l.length) && (List.range l.length).all fun k => (l.getD k 0 == 96) == (k == p || k == p + 5)
theorem quoted_of {s : ByteArray} {p : Nat} (h : quotB s.data.toList p = true) : QuotedAt s p := by
  unfold quotB at h
  rw [Bool.and_eq_true, List.all_eq_true] at h
  have hl : s.data.toList.length = s.size := by simp
  rw [hl] at h
  refine ⟨by simpa using h.1, fun k hk => ?_⟩
  have h2 := h.2 k (List.mem_range.2 hk)
  have e : s.data.toList.getD k 0 = s[k] := by
    rw [List.getD_eq_getElem?_getD, List.getElem?_eq_getElem (by rw [hl]; exact hk)]
    simp
    rfl
  rw [e] at h2
  have h3 : (s[k] == 96) = (k == p || k == p + 5) := by simpa using h2
  have h4 : ((s[k].toNat : Int) = 96) ↔ (s[k] == 96) = true := by
    rw [beq_iff_eq]
    constructor
    · intro h5
      apply UInt8.toNat_inj.1
      show s[k].toNat = 96
      omega
    · intro h5
      rw [h5]
      rfl
  rw [h4, h3]
  simp

theorem N_ok (i : Nat) : FlagOK (N i) := by
  refine flag_of ?_
  match i with
  | 0 => decide +kernel
  | 1 => decide +kernel
  | 2 => decide +kernel
  | _ + 3 => show flagB (N 3).data.toList = true; decide +kernel
theorem U_ok (i : Nat) : QuotedAt (U i) (P i) := by
  refine quoted_of ?_
  match i with
  | 0 => decide +kernel
  | 1 => decide +kernel
  | 2 => decide +kernel
  | _ + 3 => show quotB (U 3).data.toList (P 3) = true; decide +kernel
theorem U_cut (i : Nat) : (U i).extract (P i + 1) (P i + 5) = ⟨#[70, 73, 76, 69]⟩ := by
  match i with
  | 0 => decide +kernel
  | 1 => decide +kernel
  | 2 => decide +kernel
  | _ + 3 => show (U 3).extract (P 3 + 1) (P 3 + 5) = ⟨#[70, 73, 76, 69]⟩; decide +kernel
theorem N_apart (i j : Nat) (hi : i < 4) (hj : j < i) : ((N i).toList == (N j).toList) = false := by
  match i, j with
  | 1, 0 => decide +kernel
  | 2, 0 => decide +kernel
  | 2, 1 => decide +kernel
  | 3, 0 => decide +kernel
  | 3, 1 => decide +kernel
  | 3, 2 => decide +kernel
  | 0, _ => omega
  | 1, _ + 1 => omega
  | 2, _ + 2 => omega
  | 3, _ + 3 => omega
  | _ + 4, _ => omega
end Go.Proofs.Qxb6615529aMods
