/-
  The law's own walk. Proof text of this seat.
-/
import Derived.Test.Qxb6614545aModsLack
namespace Go.Proofs.Qxb6614545aMods
open Go.RowKit

/-- 'copy(zzc, pieces)' into a new row as long as what is copied; the world behind it is a variable. -/
theorem wpList_copy_row {ops : Array Oper} {rest : List Oper} {o : Oper} {a : Act} {w : World} {Q : Exit → Act → World → Prop} (hgd : o.guard = none) (d s : Operand)
    (ho : o.op = .call { callee := .builtin .copy, args := #[d, s], argTypes := #[22, 22] }) (g n cap : Nat) (sp : Option Addr) (hd : a.eval d = .slice (some ⟨g, 0, none⟩) n n) (hs : a.eval s = .slice sp n cap)
    (f : Nat → Value) (hr : w.rowIs g 3 n f) (Z : Nat → Int) (hZ : Ints w sp n Z) (B : Nat) (w0 : World) (hb : Below B w0 w) (hBg : B ≤ g)
    (h : ∀ w', w'.rowIs g 3 n (fun i => .int .i64 (Z i)) → Below B w0 w' → wpList Trym.prog ops Q rest (a.put o.dst (goInt n)) w') : wpList Trym.prog ops Q (o :: rest) a w := by
  obtain ⟨cu, hg, hsz, _⟩ := hr
  have hl : ((List.range n).map fun i => Value.int .i64 (Z i)).length = n := by simp
  refine wpList_copy_splice hgd d s 22 22 ho 3 Trym.underlying22 Trym.sz3 _ _ n n n cap hd hs g 0 cu.toList 3 (by simpa using hg) ((List.range n).map fun i => Value.int .i64 (Z i)) (by rw [hl]; exact (Nat.min_self n).symm) (fun hp => ?_) (by rw [hl]; simp [hsz]) (fun v hv => ?_) B w0 hb hBg (fun w' hw' hb' => ?_)
  · obtain ⟨b, oo, rfl, _⟩ := hZ 0 (by omega)
    refine ⟨rfl, _, rfl, fun j v hv => ?_⟩
    have hj : j < n := by have := (List.getElem?_eq_some_iff.1 hv).1; omega
    obtain ⟨b', o', e, hc⟩ := hZ j hj
    simp at e
    obtain ⟨rfl, rfl⟩ := e
    simp [hj] at hv
    subst hv
    have : (⟨b, oo, none⟩ : Addr).add j = ⟨b, oo + j, none⟩ := by unfold Addr.add; split <;> simp_all
    rw [this]
    exact hc
  · simp at hv
    obtain ⟨i, _, rfl⟩ := hv
    rfl
  · rw [hl]
    refine h w' ⟨_, hw'.out, ?_, fun i hi => ?_⟩ hb'
    · simp [splice, hsz]
    · simp only [splice, List.take_zero, List.nil_append, List.getElem?_toArray]
      rw [List.getElem?_append_left (by simpa using hi)]
      simp [hi]

set_option maxHeartbeats 4000000 in
set_option maxRecDepth 100000 in
theorem law_walk (m : Bool) (r o : Int) (a : Option Addr) (n cap : Nat) (Z : Nat → Int) (w : World) (hn0 : n ≤ 9223372036854775807) (h : Ints w a n Z) :
    Calls Trym.prog 4 #[.bool m, .int .i64 r, .int .i64 o, .slice a n cap] w fun e w' => e = .returned (.bool true) ∧ Below w.heap.size w w' := by
  have hne := fun W a n c => run_neq_slice_nil_any (P := Trym.prog) W 22 3 a n c 0 0 Trym.underlying22
  go_enter Trym.func4, Trym.ntmps4
  go_wp2_with fail
  refine (bytes_any m r o a n cap w hn0).mono ?_
  rintro e w1 ⟨⟨x, rfl⟩, rfl⟩
  cases x with
  | false =>
    go_wp2
    go_ret
    exact ⟨rfl, Below.refl _ _⟩
  | true =>
  by_cases hbig : 65536 < n
  · go_wp2
    go_ret
    exact ⟨rfl, Below.refl _ _⟩
  have hn : n ≤ 65536 := by omega
  clear hbig hn0
  go_wp2_with fail
  refine (state_any r w1).mono ?_
  rintro e w2 ⟨⟨x, rfl⟩, rfl⟩
  cases x with
  | false =>
    go_wp2
    go_ret
    exact ⟨rfl, Below.refl _ _⟩
  | true =>
  go_wp2_with fail
  refine (state_any o w2).mono ?_
  rintro e w3 ⟨⟨x, rfl⟩, rfl⟩
  cases x with
  | false =>
    go_wp2
    go_ret
    exact ⟨rfl, Below.refl _ _⟩
  | true =>
  have hmk := run_make_row' (P := Trym.prog) 22 3 (.int .i64 0) 8 Trym.underlying22 Trym.info3 rfl .i64 .i64 n (by omega) (by omega)
  cases a with
  | none =>
    have hI := h
    have hb4 := Below.refl w3.heap.size w3
    go_wp2
    clear hmk hne
    go_loop [10] (fun i => ∃ k : Nat, k ≤ n ∧ i = .int .i64 k) (fun i => n - (intOf i).toNat)
    case atStart => exact ⟨0, Nat.zero_le _, rfl⟩
    case round =>
      obtain ⟨k, hk, rfl⟩ := hrel
      by_cases hlt : k < n
      · obtain ⟨b, oo, e, hc⟩ := hI k hlt
        cases e
      · go_wp2_with fail
        refine (new_any m false r o none n cap Z w3 hn hI).mono ?_
        rintro e w5 ⟨p5, a5, c5, rfl, hh5, hi5, hb5⟩
        go_wp2_with fail
        refine (zzlack_any p5 m false r o a5 n c5 Z w5 hn hh5 hi5).mono ?_
        rintro e w6 ⟨rfl, rfl⟩
        have hI6 := hI.below hb5 (Nat.le_refl _)
        have hb6 := hb4.trans (hb5.mono hb4.size)
        clear hh5 hi5 hb5
        go_wp2_with fail
        refine (new_any m true r o none n cap Z w6 hn hI6).mono ?_
        rintro e w7 ⟨p7, a7, c7, rfl, hh7, hi7, hb7⟩
        go_wp2_with fail
        refine (zzlack_any p7 m true r o a7 n c7 Z w7 hn hh7 hi7).mono ?_
        rintro e w8 ⟨rfl, rfl⟩
        have hb8 := hb6.trans (hb7.mono hb6.size)
        clear hh7 hi7 hb7 hb6 hI6
        have hcls : lackCls m r o n Z = 0 ∨ lackCls m r o n Z = 1 ∨ lackCls m r o n Z = 2 := by
          unfold lackCls
          split
          · exact .inl rfl
          · split
            · exact .inr (.inl rfl)
            · exact .inr (.inr rfl)
        rcases hcls with hcl | hcl | hcl
        · rw [hcl, show lackS 0 false = ⟨#[109, 105, 115, 115, 105, 110, 103]⟩ from rfl, show lackS 0 true = ⟨#[109, 105, 115, 115, 105, 110, 103]⟩ from rfl]
          clear hcl
          go_wp2
          go_ret
          exact ⟨rfl, hb8⟩
        · rw [hcl, show lackS 1 false = ⟨#[99, 111, 114, 114, 117, 112, 116]⟩ from rfl, show lackS 1 true = ⟨#[99, 111, 114, 114, 117, 112, 116]⟩ from rfl]
          clear hcl
          go_wp2
          go_ret
          exact ⟨rfl, hb8⟩
        · rw [hcl, show lackS 2 false = ⟨#[]⟩ from rfl, show lackS 2 true = ⟨#[112, 101, 110, 100, 105, 110, 103]⟩ from rfl]
          clear hcl
          go_wp2
          go_ret
          exact ⟨rfl, hb8⟩
  | some x =>
    go_wp2_with (refine wpList_copy_row rfl _ _ rfl w3.heap.size n cap (some x) rfl rfl _ (World.rowIs_made w3 (.int .i64 0) n 3) Z (h.below ((Below.refl _ _).alloc (Nat.le_refl _) _) (Nat.le_refl _)) w3.heap.size w3 ((Below.refl _ _).alloc (Nat.le_refl _) _) (Nat.le_refl _) ?_; intro w4 hr4 hb4)
    have hI := Ints.of_row hr4
    clear hmk hne hr4
    go_loop [10] (fun i => ∃ k : Nat, k ≤ n ∧ i = .int .i64 k) (fun i => n - (intOf i).toNat)
    case atStart => exact ⟨0, Nat.zero_le _, rfl⟩
    case round =>
      obtain ⟨k, hk, rfl⟩ := hrel
      by_cases hlt : k < n
      · obtain ⟨b, oo, e, hc⟩ := hI k hlt
        simp at e
        obtain ⟨rfl, rfl⟩ := e
        rw [Nat.zero_add] at hc
        go_wp2_with fail
        refine (state_any (Z k) w4).mono ?_
        rintro e w5 ⟨⟨x, rfl⟩, rfl⟩
        cases x with
        | false =>
          go_wp2
          go_ret
          exact ⟨rfl, hb4⟩
        | true =>
          go_wp2
          go_round
          case rel => exact ⟨k + 1, by omega, by go_num⟩
          case measure => simp [intOf]; omega
      · go_wp2_with fail
        refine (new_any m false r o _ n n Z w4 hn hI).mono ?_
        rintro e w5 ⟨p5, a5, c5, rfl, hh5, hi5, hb5⟩
        go_wp2_with fail
        refine (zzlack_any p5 m false r o a5 n c5 Z w5 hn hh5 hi5).mono ?_
        rintro e w6 ⟨rfl, rfl⟩
        have hI6 := hI.below hb5 (Nat.le_refl _)
        have hb6 := hb4.trans (hb5.mono hb4.size)
        clear hh5 hi5 hb5
        go_wp2_with fail
        refine (new_any m true r o _ n n Z w6 hn hI6).mono ?_
        rintro e w7 ⟨p7, a7, c7, rfl, hh7, hi7, hb7⟩
        go_wp2_with fail
        refine (zzlack_any p7 m true r o a7 n c7 Z w7 hn hh7 hi7).mono ?_
        rintro e w8 ⟨rfl, rfl⟩
        have hb8 := hb6.trans (hb7.mono hb6.size)
        clear hh7 hi7 hb7 hb6 hI6
        have hcls : lackCls m r o n Z = 0 ∨ lackCls m r o n Z = 1 ∨ lackCls m r o n Z = 2 := by
          unfold lackCls
          split
          · exact .inl rfl
          · split
            · exact .inr (.inl rfl)
            · exact .inr (.inr rfl)
        rcases hcls with hcl | hcl | hcl
        · rw [hcl, show lackS 0 false = ⟨#[109, 105, 115, 115, 105, 110, 103]⟩ from rfl, show lackS 0 true = ⟨#[109, 105, 115, 115, 105, 110, 103]⟩ from rfl]
          clear hcl
          go_wp2
          go_ret
          exact ⟨rfl, hb8⟩
        · rw [hcl, show lackS 1 false = ⟨#[99, 111, 114, 114, 117, 112, 116]⟩ from rfl, show lackS 1 true = ⟨#[99, 111, 114, 114, 117, 112, 116]⟩ from rfl]
          clear hcl
          go_wp2
          go_ret
          exact ⟨rfl, hb8⟩
        · rw [hcl, show lackS 2 false = ⟨#[]⟩ from rfl, show lackS 2 true = ⟨#[112, 101, 110, 100, 105, 110, 103]⟩ from rfl]
          clear hcl
          go_wp2
          go_ret
          exact ⟨rfl, hb8⟩
end Go.Proofs.Qxb6614545aMods
