/-
  (*holding).lack and ZZholdingLack. Proof text of this seat.
-/
import Derived.Test.Qxb6614545aModsView
namespace Go.Proofs.Qxb6614545aMods
open Go.RowKit

def lackCls (m : Bool) (r o : Int) (n : Nat) (Z : Nat → Int) : Nat :=
  if (!m || r == 1 || o == 1 || hasZ n Z 1) = true then 0 else if (r == 2 || o == 2 || hasZ n Z 2) = true then 1 else 2
def lackS (cls : Nat) (q : Bool) : ByteArray :=
  if cls = 0 then ⟨#[109, 105, 115, 115, 105, 110, 103]⟩ else if cls = 1 then ⟨#[99, 111, 114, 114, 117, 112, 116]⟩ else if q = true then ⟨#[112, 101, 110, 100, 105, 110, 103]⟩ else ⟨#[]⟩

section
variable (p : Nat) (m q : Bool) (r o : Int) (a : Option Addr) (n c : Nat) (Z : Nat → Int) (w : World)

set_option maxHeartbeats 1000000 in
theorem lack_missing (hn : n ≤ 65536) (hh : HoldAt w p m q r o a n c) (hi : Ints w a n Z) (hc : (!m || r == 1 || o == 1 || hasZ n Z 1) = true) :
    Calls Trym.prog 16 #[.pointer (some ⟨p, 0, none⟩)] w fun e w' => e = .returned (.string ⟨#[109, 105, 115, 115, 105, 110, 103]⟩) ∧ w' = w := by
  have c0 := hh.flag
  have c2 := hh.record
  have c3 := hh.object
  have c4 := hh.pieces
  clear hh
  cases m with
  | false =>
    clear hc hi
    go_enter Trym.func16, Trym.ntmps16
    go_wp2
    go_ret
    exact ⟨rfl, rfl⟩
  | true =>
    cases h1 : (r == 1) with
    | true =>
      clear hc hi
      go_enter Trym.func16, Trym.ntmps16
      go_wp2
      go_ret
      exact ⟨rfl, rfl⟩
    | false =>
      cases h2 : (o == 1) with
      | true =>
        clear hc hi
        go_enter Trym.func16, Trym.ntmps16
        go_wp2
        go_ret
        exact ⟨rfl, rfl⟩
      | false =>
        rw [h1, h2] at hc
        simp at hc
        go_enter Trym.func16, Trym.ntmps16
        go_wp2_with fail
        refine (contains_any a n c Z 1 w hn hi).mono ?_
        rintro e w1 ⟨rfl, rfl⟩
        rw [hc]
        go_wp2
        go_ret
        exact ⟨rfl, rfl⟩

set_option maxHeartbeats 1000000 in
theorem lack_corrupt (hn : n ≤ 65536) (hh : HoldAt w p m q r o a n c) (hi : Ints w a n Z) (hc : (!m || r == 1 || o == 1 || hasZ n Z 1) = false) (hd : (r == 2 || o == 2 || hasZ n Z 2) = true) :
    Calls Trym.prog 16 #[.pointer (some ⟨p, 0, none⟩)] w fun e w' => e = .returned (.string ⟨#[99, 111, 114, 114, 117, 112, 116]⟩) ∧ w' = w := by
  have c0 := hh.flag
  have c2 := hh.record
  have c3 := hh.object
  have c4 := hh.pieces
  clear hh
  simp only [Bool.or_eq_false_iff, Bool.not_eq_false'] at hc
  obtain ⟨⟨⟨rfl, h1⟩, h2⟩, h3⟩ := hc
  have H3 := hide h3
  clear h3
  cases h4 : (r == 2) with
  | true =>
    clear hd
    go_enter Trym.func16, Trym.ntmps16
    go_wp2_with fail
    refine (contains_any a n c Z 1 w hn hi).mono ?_
    rintro e w1 ⟨rfl, rfl⟩
    rw [H3.out]
    go_wp2
    go_ret
    exact ⟨rfl, rfl⟩
  | false =>
    cases h5 : (o == 2) with
    | true =>
      clear hd
      go_enter Trym.func16, Trym.ntmps16
      go_wp2_with fail
      refine (contains_any a n c Z 1 w hn hi).mono ?_
      rintro e w1 ⟨rfl, rfl⟩
      rw [H3.out]
      go_wp2
      go_ret
      exact ⟨rfl, rfl⟩
    | false =>
      rw [h4, h5] at hd
      simp at hd
      have HD := hide hd
      clear hd
      go_enter Trym.func16, Trym.ntmps16
      go_wp2_with fail
      refine (contains_any a n c Z 1 w hn hi).mono ?_
      rintro e w1 ⟨rfl, rfl⟩
      rw [H3.out]
      go_wp2_with fail
      refine (contains_any a n c Z 2 w1 hn hi).mono ?_
      rintro e w2 ⟨rfl, rfl⟩
      rw [HD.out]
      go_wp2
      go_ret
      exact ⟨rfl, rfl⟩

set_option maxHeartbeats 1000000 in
theorem lack_whole (hn : n ≤ 65536) (hh : HoldAt w p m q r o a n c) (hi : Ints w a n Z) (hc : (!m || r == 1 || o == 1 || hasZ n Z 1) = false) (hd : (r == 2 || o == 2 || hasZ n Z 2) = false) :
    Calls Trym.prog 16 #[.pointer (some ⟨p, 0, none⟩)] w fun e w' => e = .returned (.string (lackS 2 q)) ∧ w' = w := by
  have c0 := hh.flag
  have c1 := hh.pending
  have c2 := hh.record
  have c3 := hh.object
  have c4 := hh.pieces
  clear hh
  simp only [Bool.or_eq_false_iff, Bool.not_eq_false'] at hc hd
  obtain ⟨⟨⟨rfl, h1⟩, h2⟩, h3⟩ := hc
  obtain ⟨⟨h4, h5⟩, h6⟩ := hd
  have H3 := hide h3
  have H6 := hide h6
  clear h3 h6
  cases q
  all_goals
    go_enter Trym.func16, Trym.ntmps16
    go_wp2_with fail
    refine (contains_any a n c Z 1 w hn hi).mono ?_
    rintro e w1 ⟨rfl, rfl⟩
    rw [H3.out]
    go_wp2_with fail
    refine (contains_any a n c Z 2 w1 hn hi).mono ?_
    rintro e w2 ⟨rfl, rfl⟩
    rw [H6.out]
    go_wp2
    go_ret
    exact ⟨rfl, rfl⟩

theorem lack_any (hn : n ≤ 65536) (hh : HoldAt w p m q r o a n c) (hi : Ints w a n Z) :
    Calls Trym.prog 16 #[.pointer (some ⟨p, 0, none⟩)] w fun e w' => e = .returned (.string (lackS (lackCls m r o n Z) q)) ∧ w' = w := by
  cases h1 : (!m || r == 1 || o == 1 || hasZ n Z 1) with
  | true =>
    have e : lackS (lackCls m r o n Z) q = ⟨#[109, 105, 115, 115, 105, 110, 103]⟩ := by simp [lackCls, lackS, h1]
    rw [e]
    exact lack_missing p m q r o a n c Z w hn hh hi h1
  | false =>
    cases h2 : (r == 2 || o == 2 || hasZ n Z 2) with
    | true =>
      have e : lackS (lackCls m r o n Z) q = ⟨#[99, 111, 114, 114, 117, 112, 116]⟩ := by simp [lackCls, lackS, h1, h2]
      rw [e]
      exact lack_corrupt p m q r o a n c Z w hn hh hi h1 h2
    | false =>
      have e : lackCls m r o n Z = 2 := by simp [lackCls, h1, h2]
      rw [e]
      exact lack_whole p m q r o a n c Z w hn hh hi h1 h2

set_option maxHeartbeats 400000 in
theorem zzlack_any (hn : n ≤ 65536) (hh : HoldAt w p m q r o a n c) (hi : Ints w a n Z) :
    Calls Trym.prog 8 #[.pointer (some ⟨p, 0, none⟩)] w fun e w' => e = .returned (.string (lackS (lackCls m r o n Z) q)) ∧ w' = w := by
  go_enter Trym.func8, Trym.ntmps8
  go_wp2_with fail
  refine (lack_any p m q r o a n c Z w hn hh hi).mono ?_
  rintro e w1 ⟨rfl, rfl⟩
  go_wp2
  go_ret
  exact ⟨rfl, rfl⟩
end
end Go.Proofs.Qxb6614545aMods
