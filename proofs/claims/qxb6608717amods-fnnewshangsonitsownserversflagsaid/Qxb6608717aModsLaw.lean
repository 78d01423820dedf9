/-
  The law's own walk. Proof text of this seat.
-/
import Derived.Test.Qxb6608717aModsView
namespace Go.Proofs.Qxb6608717aMods
open Go.RowKit

def putB (B : Nat → Bool) (s : Nat) (x : Bool) (i : Nat) : Bool := if i = s then x else B i

/-- a store into a copy -/
theorem Fresh.set {w w' : World} {n : Nat} {B : Nat → Bool} (hr : w'.rowIs w.heap.size 4 n (fun i => .bool (B i))) (s : Nat) (x : Bool) : (w'.setCell ⟨w.heap.size, s, none⟩ (.bool x)).rowIs w.heap.size 4 n (fun i => .bool (putB B s x i)) :=
  (hr.set s _).congr (fun j _ => by
    simp only [putB]
    by_cases e : j = s
    · simp [e]
    · simp [e])

theorem news_all {n : Nat} {B : Nat → Bool} {s : Nat} {c : Bool} (h : c = true ∨ n ≤ s) (B' : Nat → Bool) : newsB n B s c = true ∧ newsB n B' s c = true := by
  rcases h with rfl | h
  · simp [newsB]
  · simp [newsB, h]
theorem news_in {n : Nat} {B : Nat → Bool} {s : Nat} (h : s < n) : newsB n B s false = !B s := by
  simp [newsB]
  intro h2
  omega

set_option maxHeartbeats 4000000 in
set_option maxRecDepth 100000 in
theorem law_walk (l s o : Int) (i c : Bool) (a : Option Addr) (n cap : Nat) (B : Nat → Bool) (w : World) (hn0 : n ≤ 9223372036854775807) (h : Bools w a n B) :
    Calls Trym.prog 6 #[.int .i64 l, .slice a n cap, .bool i, .int .i64 s, .bool c, .int .i64 o] w fun e w' => e = .returned (.bool true) ∧ Below w.heap.size w w' := by
  go_enter Trym.func6, Trym.ntmps6
  go_wp2_with fail
  refine (bytes_any l s o i c a n cap w hn0).mono ?_
  rintro e w1 ⟨⟨x, rfl⟩, rfl⟩
  cases x with
  | false =>
    go_wp2
    go_ret
    exact ⟨rfl, Below.refl _ _⟩
  | true =>
  by_cases hbig : 65536 < n
  · go_wp2
    go_ret
    exact ⟨rfl, Below.refl _ _⟩
  by_cases hs0 : s < 0
  · go_wp2
    go_ret
    exact ⟨rfl, Below.refl _ _⟩
  obtain ⟨sn, rfl⟩ := Int.eq_ofNat_of_zero_le (show 0 ≤ s by omega)
  have hn : n ≤ 65536 := by omega
  clear hbig hs0 hn0
  go_wp2_with fail
  refine (clone_any a n cap B w1 hn h).mono ?_
  rintro e w2 ⟨a2, c2, rfl, hF, hb2⟩
  clear h
  have h2 := hF.bools
  go_wp2_with fail
  refine (news_any l a2 n c2 B i sn c w2 h2).mono ?_
  rintro e w3 ⟨rfl, hb3⟩
  have h3 := h2.below hb3 (Nat.le_refl _)
  go_wp2_with fail
  refine (news_any 0 a2 n c2 B false sn c w3 h3).mono ?_
  rintro e w4 ⟨rfl, hb4⟩
  have h4 := h3.below hb4 (Nat.le_refl _)
  have hbel : Below w1.heap.size w1 w4 := (hb2.trans (hb3.mono hb2.size)).trans (hb4.mono (Nat.le_trans hb2.size hb3.size))
  clear h2 h3 hb2 hb3 hb4 hF
  by_cases hcs : c = true ∨ n ≤ sn
  · have hall := news_all hcs (B := B) (fun _ => true)
    rw [hall.1]
    have hA := hide hall.2
    clear hall
    have hgo : c = true ∨ (c = false ∧ n ≤ sn) := by
      cases c with
      | true => exact .inl rfl
      | false => exact .inr ⟨rfl, by simpa using hcs⟩
    clear hcs
    rcases hgo with rfl | ⟨rfl, hle⟩
    all_goals
      go_wp2_with fail
      refine (alltrue_any n w4 hn).mono ?_
      rintro e w5 ⟨rfl, hT, hb5⟩
      go_wp2_with fail
      refine (news_any l _ n n (fun _ => true) i sn _ w5 hT).mono ?_
      rintro e w6 ⟨rfl, hb6⟩
      rw [hA.out]
      go_wp2
      go_ret
      exact ⟨rfl, (hbel.trans (hb5.mono hbel.size)).trans (hb6.mono (Nat.le_trans hbel.size hb5.size))⟩
  · have hc : c = false := by
      cases c with
      | true => exact absurd (Or.inl rfl) hcs
      | false => rfl
    subst hc
    have hlt : sn < n := by
      by_cases e : sn < n
      · exact e
      · exact absurd (Or.inr (by omega)) hcs
    clear hcs
    rw [news_in hlt]
    have hne : ((!B sn) != (!B sn)) = false := by simp
    have hi : (sn : Int) < n := by omega
    go_wp2_with fail
    refine (clone_any a2 n c2 B w4 hn h4).mono ?_
    rintro e w5 ⟨a5, c5, rfl, hF5, hb5⟩
    obtain ⟨rfl, hr5⟩ := hF5 (by omega)
    have g3 := hr5.cell hlt
    have g4 := hr5.frozen sn
    have hm5 := Fresh.set hr5 sn true
    have hbel5 := (hbel.trans (hb5.mono hbel.size)).setCell (p := ⟨w4.heap.size, sn, none⟩) hbel.size (.bool true)
    have h5 : Bools (w5.setCell ⟨w4.heap.size, sn, none⟩ (.bool true)) a2 n B := h4.below (hb5.setCell (p := ⟨w4.heap.size, sn, none⟩) (Nat.le_refl _) _) (Nat.le_refl _)
    go_wp2_with fail
    generalize w5.setCell ⟨w4.heap.size, sn, none⟩ (.bool true) = w6 at *
    clear g3 g4 hF5 hr5 hb5 h4 hbel
    refine (clone_any a2 n c2 B w6 hn h5).mono ?_
    rintro e w7 ⟨a7, c7, rfl, hF7, hb7⟩
    obtain ⟨rfl, hr7⟩ := hF7 (by omega)
    have g3 := hr7.cell hlt
    have g4 := hr7.frozen sn
    have hf7 := Fresh.set hr7 sn (!B sn)
    have hb8 := hb7.setCell (p := ⟨w6.heap.size, sn, none⟩) (Nat.le_refl _) (.bool (!B sn))
    obtain ⟨b, oo, rfl, hc⟩ := h5.below hb7 (Nat.le_refl _) sn hlt
    go_wp2_with fail
    generalize w7.setCell ⟨w6.heap.size, sn, none⟩ (.bool (!B sn)) = w8 at *
    clear g3 g4 hF7 hr7 hb7 hc
    have hM8 := Bools.of_row (rowIs_below hm5 hb8 (Nat.le_refl _))
    have hF8 := Bools.of_row hf7
    have hB8 := h5.below hb8 (Nat.le_refl _)
    have hbel8 := hbel5.trans (hb8.mono hbel5.size)
    refine (news_any l _ n c5 _ i sn false w8 hM8).mono ?_
    rintro e w9 ⟨rfl, hb9⟩
    rw [show newsB n (putB B sn true) sn false = false from by rw [news_in hlt]; simp [putB]]
    have hF9 := hF8.below hb9 (Nat.le_refl _)
    have hB9 := hB8.below hb9 (Nat.le_refl _)
    have hbel9 := hbel8.trans (hb9.mono hbel8.size)
    clear hm5 hbel5 h5 hf7 hb8 hM8 hF8 hB8
    go_wp2_with fail
    refine (news_any l _ n c7 _ i sn false w9 hF9).mono ?_
    rintro e w10 ⟨rfl, hb10⟩
    rw [show newsB n (putB B sn (!B sn)) sn false = B sn from by rw [news_in hlt]; simp [putB]]
    have hB10 := hB9.below hb10 (Nat.le_refl _)
    have hbel10 := hbel9.trans (hb10.mono hbel9.size)
    have heq : (B sn == !B sn) = false := by cases B sn <;> rfl
    clear hF9 hB9 hb10 hb9 hbel9 hbel8
    by_cases ho : 0 ≤ o ∧ o < n ∧ o ≠ sn
    · obtain ⟨ho0, ho1, ho2⟩ := ho
      obtain ⟨on, rfl⟩ := Int.eq_ofNat_of_zero_le ho0
      have hlo : on < n := by omega
      have hob : ((on : Int) != (sn : Int)) = true := by rw [bne_iff_ne]; exact ho2
      go_wp2_with fail
      refine (clone_any _ n c2 B w10 hn hB10).mono ?_
      rintro e w11 ⟨a11, c11, rfl, hF11, hb11⟩
      obtain ⟨rfl, hr11⟩ := hF11 (by omega)
      have g3 := hr11.cell hlo
      have g4 := hr11.frozen on
      have hf11 := Fresh.set hr11 on (!B on)
      have hb12 := hb11.setCell (p := ⟨w10.heap.size, on, none⟩) (Nat.le_refl _) (.bool (!B on))
      obtain ⟨b', oo', e, hc⟩ := hB10.below hb11 (Nat.le_refl _) on hlo
      simp at e
      obtain ⟨rfl, rfl⟩ := e
      go_wp2_with fail
      generalize w11.setCell ⟨w10.heap.size, on, none⟩ (.bool (!B on)) = w12 at *
      have hO := Bools.of_row hf11
      refine (news_any l _ n c11 _ i sn false w12 hO).mono ?_
      rintro e w13 ⟨rfl, hb13⟩
      rw [show newsB n (putB B on (!B on)) sn false = !B sn from by rw [news_in hlt]; simp only [putB]; rw [if_neg (by omega)]]
      go_wp2
      go_ret
      exact ⟨rfl, (hbel10.trans (hb12.mono hbel10.size)).trans (hb13.mono (Nat.le_trans hbel10.size hb12.size))⟩
    · have hoc : o < 0 ∨ (0 ≤ o ∧ (n : Int) ≤ o) ∨ (0 ≤ o ∧ o < n ∧ o = sn) := by omega
      clear ho
      rcases hoc with ho | ⟨ho, ho1⟩ | ⟨ho, ho1, ho2⟩
      · go_wp2
        go_ret
        exact ⟨rfl, hbel10⟩
      · go_wp2
        go_ret
        exact ⟨rfl, hbel10⟩
      · subst ho2
        have hob : ((sn : Int) != (sn : Int)) = false := by simp
        go_wp2
        go_ret
        exact ⟨rfl, hbel10⟩
end Go.Proofs.Qxb6608717aMods
