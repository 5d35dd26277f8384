import Derived.Test.Qxb6605976aAlone
namespace Go.Proofs.Qxb6605976a.turns
open Go.RowKit

theorem inTeam_snoc (names : List ByteArray) (x : ByteArray) : inTeam (names ++ [x]) x = true := by
  unfold inTeam
  rw [List.any_eq_true]
  exact ⟨x, by simp, by simp⟩

set_option maxRecDepth 100000 in
set_option maxHeartbeats 4000000 in
theorem alone_some (pm co : ByteArray) (hc : Bool) (ad : Addr) (cap : Nat) (names : List ByteArray) (fr kd it ph ct : ByteArray) (w : World) (hs : ∀ k, (names.getD k ByteArray.empty).size ≤ 9223372036854775807) (h : NamesAt w (some ad) names) :
    Calls Try.prog 6 #[.string pm, .string co, .bool hc, .slice (some ad) names.length cap, .string fr, .string kd, .string it, .string ph, .string ct] w fun e w' => e = .returned (.bool true) ∧ Below w.heap.size w w' := by
  obtain ⟨i0, hi, hz0, hz1, hz2⟩ := info_parts Try.info9
  go_enter Try.func6, Try.ntmps6
  go_wp2_with fail
  refine (bytes9_any pm co hc _ cap names fr kd it ph ct _ hs h).mono ?_
  rintro e w1 ⟨⟨r, rfl⟩, rfl⟩
  cases r
  · go_wp2_with fail
    go_ret
    exact ⟨rfl, Below.refl _ _⟩
  go_wp2_with fail
  iterate 2 (go_ret; exact ⟨rfl, Below.refl _ _⟩)
  rotate_left 1
  iterate 6 (go_ret; exact ⟨rfl, Below.refl _ _⟩)
  have hn : names.length ≤ 1000000 := by omega
  refine (listBytes_any _ cap names _ (by omega) hs h).mono ?_
  rintro e w2 ⟨⟨r, rfl, r0, r1⟩, rfl⟩
  clear hs
  go_wp2_with (at_make; refine wpList_make_full _ rfl _ _ 24 rfl w2.heap.size 9 i0 (.string ⟨#[]⟩) 1 Try.underlying24 hi hz0 hz1 .i64 .i64 _ _ names.length rfl rfl rfl rfl ?m1 ?m2 ?m3 ?_)
  · go_ret
    exact ⟨rfl, Below.refl _ _⟩
  case m1 => rw [hz2]; omega
  case m2 => unfold maxLen; omega
  case m3 => omega
  intro w3 hown3 hgrow3
  obtain ⟨cur, hcur, hlen⟩ := row_of hown3
  have hb3 : Below w2.heap.size w2 w3 := (Below.refl _ _).grown hgrow3 (Nat.le_refl _) (fun k e => by cases e)
  have hsrc := src_cells h (Nat.le_refl _) hb3
  clear hown3 hgrow3 hi hz0 hz1 hz2
  go_wp2_with (refine wpList_copy_splice rfl (.tmp 103) (.tmp 104) 24 24 rfl 9 Try.underlying24 Try.size9 _ _ _ _ _ _ rfl rfl w2.heap.size 0 cur 9 hcur (names.map Value.string) ?p1 ?p2 ?p3 ?p4 w2.heap.size w2 hb3 (Nat.le_refl _) ?_)
  case p1 => simp
  case p2 => exact hsrc
  case p3 => simp; omega
  case p4 => intro v hv; simp at hv; obtain ⟨a, _, rfl⟩ := hv; rfl
  intro w4 hc4 hb4
  have hN4 := namesAt_copied hlen hc4.out
  clear hc4 hsrc hb3 hcur hlen h
  go_wp2_with fail
  refine (newTeam_any pm co hc _ _ names _ (by omega) hN4).mono ?_
  rintro e w5 ⟨rfl, ht5, hb5⟩
  have hm5 := MsgAt.new w5 fr kd it ph ct
  have hb5a := (Below.refl w5.heap.size w5).alloc (Nat.le_refl _) (.cells #[.string fr, .string kd, .string it, .string ph, .string ct, .pointer none] 31)
  have hb5b := hb5.trans (hb5a.mono hb5.size)
  have hN5 := hN4.below (Nat.le_refl _) hb5b
  have ht5a := ht5.below (Nat.le_refl _) hb5a
  have hb50 := hb4.trans (hb5b.mono hb4.size)
  have hd4 := hb4.size
  have hd5 := hb5.size
  clear hN4 hb4 hb5 hb5a hb5b ht5
  cases hp : (kd.toList == [112, 97, 115, 115]) <;> cases hin : inTeam names fr
  · have Hp : Hid (passB kd = false) := hp
    have Hin : Hid (inTeam names fr = false) := hin
    clear hin
    go_wp2_with fail
    refine (turn_is w4.heap.size names fr kd it ph ct false _ (by rw [Hin.out, Hp.out]; rfl) (by omega) ht5a).mono ?_
    rintro e w6 ⟨rfl, hb6⟩
    have hN6 := hN5.below (Nat.le_refl _) hb6
    have hm6 := hm5.below (Nat.le_refl _) hb6
    have hb60 := hb50.trans (hb6.mono hb50.size)
    clear hN5 hm5 hb50 ht5a hb6
    go_wp2_with fail
    refine (appendOne_any _ _ names fr _ (by omega) hN6).mono ?_
    rintro e w7 ⟨rfl, hA7, hb7⟩
    have hN7 := hN6.below (Nat.le_refl _) hb7
    have hm7 := hm6.below (Nat.le_refl _) hb7
    have hb70 := hb60.trans (hb7.mono hb60.size)
    clear hN6 hm6 hb60 hb7
    go_wp2_with fail
    rw [show names.length + 1 = (names ++ [fr]).length from by simp]
    refine (newTeam_any pm co hc _ _ (names ++ [fr]) _ (by simp; omega) hA7).mono ?_
    rintro e w8 ⟨rfl, htA8, hb8⟩
    have hN8 := hN7.below (Nat.le_refl _) hb8
    have hm8 := hm7.below (Nat.le_refl _) hb8
    have hb80 := hb70.trans (hb8.mono hb70.size)
    clear hN7 hm7 hb70 hb8 hA7
    go_wp2_with fail
    refine (newTeam_none pm co hc _ _ _).mono ?_
    rintro e w9 ⟨rfl, htB9, hb9⟩
    have hN9 := hN8.below (Nat.le_refl _) hb9
    have hm9 := hm8.below (Nat.le_refl _) hb9
    have htA9 := htA8.below (Nat.le_refl _) hb9
    have hb90 := hb80.trans (hb9.mono hb80.size)
    clear hN8 hm8 hb80 hb9 htA8
    go_wp2_with fail
    refine (newTeam_any ⟨#[]⟩ ⟨#[]⟩ false _ _ names _ (by omega) hN9).mono ?_
    rintro e w10 ⟨rfl, htC10, hb10⟩
    have hb10a := (Below.refl w10.heap.size w10).alloc (Nat.le_refl _) (.cells #[.string fr, .string kd, .string ⟨#[]⟩, .string ⟨#[]⟩, .string ⟨#[]⟩, .pointer none] 31)
    have hq10 := MsgAt.new w10 fr kd ⟨#[]⟩ ⟨#[]⟩ ⟨#[]⟩
    have hb10b := hb10.trans (hb10a.mono hb10.size)
    have hm10 := hm9.below (Nat.le_refl _) hb10b
    have htA10 := htA9.below (Nat.le_refl _) hb10b
    have htB10 := htB9.below (Nat.le_refl _) hb10b
    have htC10a := htC10.below (Nat.le_refl _) hb10a
    have hb100 := hb90.trans (hb10b.mono hb90.size)
    obtain ⟨m0, m1, m2, m3, m4, m5⟩ := (hm9.below (Nat.le_refl _) hb10).cells
    have hl10 := (hm9.below (Nat.le_refl _) hb10).lt
    clear hN9 hm9 htA9 htB9 htC10 hb90 hb10 hb10a hb10b
    go_wp2_with fail
    refine (turn_is w7.heap.size (names ++ [fr]) fr kd it ph ct true _ (by rw [inTeam_snoc]; rfl) (by simp; omega) htA10).mono ?_
    rintro e w11 ⟨rfl, hb11⟩
    have hm11 := hm10.below (Nat.le_refl _) hb11
    have hq11 := hq10.below (Nat.le_refl _) hb11
    have htB11 := htB10.below (Nat.le_refl _) hb11
    have htC11 := htC10a.below (Nat.le_refl _) hb11
    have hb110 := hb100.trans (hb11.mono hb100.size)
    clear hm10 hq10 htA10 htB10 htC10a hb100 hb11 m0 m1 m2 m3 m4 m5 hl10
    obtain ⟨m0, m1, m2, m3, m4, m5⟩ := hm11.cells
    go_wp2_with fail
    refine (turn_is w8.heap.size [] fr kd it ph ct false _ (by rw [inTeam_nil, Hp.out]; rfl) (by simp) htB11).mono ?_
    rintro e w12 ⟨rfl, hb12⟩
    have hq12 := hq11.below (Nat.le_refl _) hb12
    have htC12 := htC11.below (Nat.le_refl _) hb12
    have hb120 := hb110.trans (hb12.mono hb110.size)
    clear hm11 hq11 htB11 htC11 hb110 hb12 m0 m1 m2 m3 m4 m5
    obtain ⟨m0, m1, m2, m3, m4, m5⟩ := hq12.cells
    go_wp2_with fail
    refine (turn_is w9.heap.size names fr kd ⟨#[]⟩ ⟨#[]⟩ ⟨#[]⟩ false _ (by rw [Hin.out, Hp.out]; rfl) (by omega) htC12).mono ?_
    rintro e w13 ⟨rfl, hb13⟩
    have hb130 := hb120.trans (hb13.mono hb120.size)
    clear hq12 htC12 hb120 hb13 m0 m1 m2 m3 m4 m5
    go_wp2_with fail
    go_ret
    exact ⟨rfl, hb130⟩
  · have Hp : Hid (passB kd = false) := hp
    have Hin : Hid (inTeam names fr = true) := hin
    clear hin
    go_wp2_with fail
    refine (turn_is w4.heap.size names fr kd it ph ct true _ (by rw [Hin.out, Hp.out]; rfl) (by omega) ht5a).mono ?_
    rintro e w6 ⟨rfl, hb6⟩
    have hN6 := hN5.below (Nat.le_refl _) hb6
    have hm6 := hm5.below (Nat.le_refl _) hb6
    have hb60 := hb50.trans (hb6.mono hb50.size)
    clear hN5 hm5 hb50 ht5a hb6
    go_wp2_with fail
    refine (appendOne_any _ _ names fr _ (by omega) hN6).mono ?_
    rintro e w7 ⟨rfl, hA7, hb7⟩
    have hN7 := hN6.below (Nat.le_refl _) hb7
    have hm7 := hm6.below (Nat.le_refl _) hb7
    have hb70 := hb60.trans (hb7.mono hb60.size)
    clear hN6 hm6 hb60 hb7
    go_wp2_with fail
    rw [show names.length + 1 = (names ++ [fr]).length from by simp]
    refine (newTeam_any pm co hc _ _ (names ++ [fr]) _ (by simp; omega) hA7).mono ?_
    rintro e w8 ⟨rfl, htA8, hb8⟩
    have hN8 := hN7.below (Nat.le_refl _) hb8
    have hm8 := hm7.below (Nat.le_refl _) hb8
    have hb80 := hb70.trans (hb8.mono hb70.size)
    clear hN7 hm7 hb70 hb8 hA7
    go_wp2_with fail
    refine (newTeam_none pm co hc _ _ _).mono ?_
    rintro e w9 ⟨rfl, htB9, hb9⟩
    have hN9 := hN8.below (Nat.le_refl _) hb9
    have hm9 := hm8.below (Nat.le_refl _) hb9
    have htA9 := htA8.below (Nat.le_refl _) hb9
    have hb90 := hb80.trans (hb9.mono hb80.size)
    clear hN8 hm8 hb80 hb9 htA8
    go_wp2_with fail
    refine (newTeam_any ⟨#[]⟩ ⟨#[]⟩ false _ _ names _ (by omega) hN9).mono ?_
    rintro e w10 ⟨rfl, htC10, hb10⟩
    have hb10a := (Below.refl w10.heap.size w10).alloc (Nat.le_refl _) (.cells #[.string fr, .string kd, .string ⟨#[]⟩, .string ⟨#[]⟩, .string ⟨#[]⟩, .pointer none] 31)
    have hq10 := MsgAt.new w10 fr kd ⟨#[]⟩ ⟨#[]⟩ ⟨#[]⟩
    have hb10b := hb10.trans (hb10a.mono hb10.size)
    have hm10 := hm9.below (Nat.le_refl _) hb10b
    have htA10 := htA9.below (Nat.le_refl _) hb10b
    have htB10 := htB9.below (Nat.le_refl _) hb10b
    have htC10a := htC10.below (Nat.le_refl _) hb10a
    have hb100 := hb90.trans (hb10b.mono hb90.size)
    obtain ⟨m0, m1, m2, m3, m4, m5⟩ := (hm9.below (Nat.le_refl _) hb10).cells
    have hl10 := (hm9.below (Nat.le_refl _) hb10).lt
    clear hN9 hm9 htA9 htB9 htC10 hb90 hb10 hb10a hb10b
    go_wp2_with fail
    refine (turn_is w7.heap.size (names ++ [fr]) fr kd it ph ct true _ (by rw [inTeam_snoc]; rfl) (by simp; omega) htA10).mono ?_
    rintro e w11 ⟨rfl, hb11⟩
    have hm11 := hm10.below (Nat.le_refl _) hb11
    have hq11 := hq10.below (Nat.le_refl _) hb11
    have htB11 := htB10.below (Nat.le_refl _) hb11
    have htC11 := htC10a.below (Nat.le_refl _) hb11
    have hb110 := hb100.trans (hb11.mono hb100.size)
    clear hm10 hq10 htA10 htB10 htC10a hb100 hb11 m0 m1 m2 m3 m4 m5 hl10
    obtain ⟨m0, m1, m2, m3, m4, m5⟩ := hm11.cells
    go_wp2_with fail
    refine (turn_is w8.heap.size [] fr kd it ph ct false _ (by rw [inTeam_nil, Hp.out]; rfl) (by simp) htB11).mono ?_
    rintro e w12 ⟨rfl, hb12⟩
    have hq12 := hq11.below (Nat.le_refl _) hb12
    have htC12 := htC11.below (Nat.le_refl _) hb12
    have hb120 := hb110.trans (hb12.mono hb110.size)
    clear hm11 hq11 htB11 htC11 hb110 hb12 m0 m1 m2 m3 m4 m5
    obtain ⟨m0, m1, m2, m3, m4, m5⟩ := hq12.cells
    go_wp2_with fail
    refine (turn_is w9.heap.size names fr kd ⟨#[]⟩ ⟨#[]⟩ ⟨#[]⟩ true _ (by rw [Hin.out, Hp.out]; rfl) (by omega) htC12).mono ?_
    rintro e w13 ⟨rfl, hb13⟩
    have hb130 := hb120.trans (hb13.mono hb120.size)
    clear hq12 htC12 hb120 hb13 m0 m1 m2 m3 m4 m5
    go_wp2_with fail
    go_ret
    exact ⟨rfl, hb130⟩
  · have Hp : Hid (passB kd = true) := hp
    have Hin : Hid (inTeam names fr = false) := hin
    clear hin
    go_wp2_with fail
    refine (turn_is w4.heap.size names fr kd it ph ct true _ (by rw [Hin.out, Hp.out]; rfl) (by omega) ht5a).mono ?_
    rintro e w6 ⟨rfl, hb6⟩
    have hN6 := hN5.below (Nat.le_refl _) hb6
    have hm6 := hm5.below (Nat.le_refl _) hb6
    have hb60 := hb50.trans (hb6.mono hb50.size)
    clear hN5 hm5 hb50 ht5a hb6
    go_wp2_with fail
    refine (appendOne_any _ _ names fr _ (by omega) hN6).mono ?_
    rintro e w7 ⟨rfl, hA7, hb7⟩
    have hN7 := hN6.below (Nat.le_refl _) hb7
    have hm7 := hm6.below (Nat.le_refl _) hb7
    have hb70 := hb60.trans (hb7.mono hb60.size)
    clear hN6 hm6 hb60 hb7
    go_wp2_with fail
    rw [show names.length + 1 = (names ++ [fr]).length from by simp]
    refine (newTeam_any pm co hc _ _ (names ++ [fr]) _ (by simp; omega) hA7).mono ?_
    rintro e w8 ⟨rfl, htA8, hb8⟩
    have hN8 := hN7.below (Nat.le_refl _) hb8
    have hm8 := hm7.below (Nat.le_refl _) hb8
    have hb80 := hb70.trans (hb8.mono hb70.size)
    clear hN7 hm7 hb70 hb8 hA7
    go_wp2_with fail
    refine (newTeam_none pm co hc _ _ _).mono ?_
    rintro e w9 ⟨rfl, htB9, hb9⟩
    have hN9 := hN8.below (Nat.le_refl _) hb9
    have hm9 := hm8.below (Nat.le_refl _) hb9
    have htA9 := htA8.below (Nat.le_refl _) hb9
    have hb90 := hb80.trans (hb9.mono hb80.size)
    clear hN8 hm8 hb80 hb9 htA8
    go_wp2_with fail
    refine (newTeam_any ⟨#[]⟩ ⟨#[]⟩ false _ _ names _ (by omega) hN9).mono ?_
    rintro e w10 ⟨rfl, htC10, hb10⟩
    have hb10a := (Below.refl w10.heap.size w10).alloc (Nat.le_refl _) (.cells #[.string fr, .string kd, .string ⟨#[]⟩, .string ⟨#[]⟩, .string ⟨#[]⟩, .pointer none] 31)
    have hq10 := MsgAt.new w10 fr kd ⟨#[]⟩ ⟨#[]⟩ ⟨#[]⟩
    have hb10b := hb10.trans (hb10a.mono hb10.size)
    have hm10 := hm9.below (Nat.le_refl _) hb10b
    have htA10 := htA9.below (Nat.le_refl _) hb10b
    have htB10 := htB9.below (Nat.le_refl _) hb10b
    have htC10a := htC10.below (Nat.le_refl _) hb10a
    have hb100 := hb90.trans (hb10b.mono hb90.size)
    obtain ⟨m0, m1, m2, m3, m4, m5⟩ := (hm9.below (Nat.le_refl _) hb10).cells
    have hl10 := (hm9.below (Nat.le_refl _) hb10).lt
    clear hN9 hm9 htA9 htB9 htC10 hb90 hb10 hb10a hb10b
    go_wp2_with fail
    refine (turn_is w7.heap.size (names ++ [fr]) fr kd it ph ct true _ (by rw [inTeam_snoc]; rfl) (by simp; omega) htA10).mono ?_
    rintro e w11 ⟨rfl, hb11⟩
    have hm11 := hm10.below (Nat.le_refl _) hb11
    have hq11 := hq10.below (Nat.le_refl _) hb11
    have htB11 := htB10.below (Nat.le_refl _) hb11
    have htC11 := htC10a.below (Nat.le_refl _) hb11
    have hb110 := hb100.trans (hb11.mono hb100.size)
    clear hm10 hq10 htA10 htB10 htC10a hb100 hb11 m0 m1 m2 m3 m4 m5 hl10
    obtain ⟨m0, m1, m2, m3, m4, m5⟩ := hm11.cells
    go_wp2_with fail
    refine (turn_is w8.heap.size [] fr kd it ph ct true _ (by rw [inTeam_nil, Hp.out]; rfl) (by simp) htB11).mono ?_
    rintro e w12 ⟨rfl, hb12⟩
    have hq12 := hq11.below (Nat.le_refl _) hb12
    have htC12 := htC11.below (Nat.le_refl _) hb12
    have hb120 := hb110.trans (hb12.mono hb110.size)
    clear hm11 hq11 htB11 htC11 hb110 hb12 m0 m1 m2 m3 m4 m5
    obtain ⟨m0, m1, m2, m3, m4, m5⟩ := hq12.cells
    go_wp2_with fail
    refine (turn_is w9.heap.size names fr kd ⟨#[]⟩ ⟨#[]⟩ ⟨#[]⟩ true _ (by rw [Hin.out, Hp.out]; rfl) (by omega) htC12).mono ?_
    rintro e w13 ⟨rfl, hb13⟩
    have hb130 := hb120.trans (hb13.mono hb120.size)
    clear hq12 htC12 hb120 hb13 m0 m1 m2 m3 m4 m5
    go_wp2_with fail
    go_ret
    exact ⟨rfl, hb130⟩
  · have Hp : Hid (passB kd = true) := hp
    have Hin : Hid (inTeam names fr = true) := hin
    clear hin
    go_wp2_with fail
    refine (turn_is w4.heap.size names fr kd it ph ct true _ (by rw [Hin.out, Hp.out]; rfl) (by omega) ht5a).mono ?_
    rintro e w6 ⟨rfl, hb6⟩
    have hN6 := hN5.below (Nat.le_refl _) hb6
    have hm6 := hm5.below (Nat.le_refl _) hb6
    have hb60 := hb50.trans (hb6.mono hb50.size)
    clear hN5 hm5 hb50 ht5a hb6
    go_wp2_with fail
    refine (appendOne_any _ _ names fr _ (by omega) hN6).mono ?_
    rintro e w7 ⟨rfl, hA7, hb7⟩
    have hN7 := hN6.below (Nat.le_refl _) hb7
    have hm7 := hm6.below (Nat.le_refl _) hb7
    have hb70 := hb60.trans (hb7.mono hb60.size)
    clear hN6 hm6 hb60 hb7
    go_wp2_with fail
    rw [show names.length + 1 = (names ++ [fr]).length from by simp]
    refine (newTeam_any pm co hc _ _ (names ++ [fr]) _ (by simp; omega) hA7).mono ?_
    rintro e w8 ⟨rfl, htA8, hb8⟩
    have hN8 := hN7.below (Nat.le_refl _) hb8
    have hm8 := hm7.below (Nat.le_refl _) hb8
    have hb80 := hb70.trans (hb8.mono hb70.size)
    clear hN7 hm7 hb70 hb8 hA7
    go_wp2_with fail
    refine (newTeam_none pm co hc _ _ _).mono ?_
    rintro e w9 ⟨rfl, htB9, hb9⟩
    have hN9 := hN8.below (Nat.le_refl _) hb9
    have hm9 := hm8.below (Nat.le_refl _) hb9
    have htA9 := htA8.below (Nat.le_refl _) hb9
    have hb90 := hb80.trans (hb9.mono hb80.size)
    clear hN8 hm8 hb80 hb9 htA8
    go_wp2_with fail
    refine (newTeam_any ⟨#[]⟩ ⟨#[]⟩ false _ _ names _ (by omega) hN9).mono ?_
    rintro e w10 ⟨rfl, htC10, hb10⟩
    have hb10a := (Below.refl w10.heap.size w10).alloc (Nat.le_refl _) (.cells #[.string fr, .string kd, .string ⟨#[]⟩, .string ⟨#[]⟩, .string ⟨#[]⟩, .pointer none] 31)
    have hq10 := MsgAt.new w10 fr kd ⟨#[]⟩ ⟨#[]⟩ ⟨#[]⟩
    have hb10b := hb10.trans (hb10a.mono hb10.size)
    have hm10 := hm9.below (Nat.le_refl _) hb10b
    have htA10 := htA9.below (Nat.le_refl _) hb10b
    have htB10 := htB9.below (Nat.le_refl _) hb10b
    have htC10a := htC10.below (Nat.le_refl _) hb10a
    have hb100 := hb90.trans (hb10b.mono hb90.size)
    obtain ⟨m0, m1, m2, m3, m4, m5⟩ := (hm9.below (Nat.le_refl _) hb10).cells
    have hl10 := (hm9.below (Nat.le_refl _) hb10).lt
    clear hN9 hm9 htA9 htB9 htC10 hb90 hb10 hb10a hb10b
    go_wp2_with fail
    refine (turn_is w7.heap.size (names ++ [fr]) fr kd it ph ct true _ (by rw [inTeam_snoc]; rfl) (by simp; omega) htA10).mono ?_
    rintro e w11 ⟨rfl, hb11⟩
    have hm11 := hm10.below (Nat.le_refl _) hb11
    have hq11 := hq10.below (Nat.le_refl _) hb11
    have htB11 := htB10.below (Nat.le_refl _) hb11
    have htC11 := htC10a.below (Nat.le_refl _) hb11
    have hb110 := hb100.trans (hb11.mono hb100.size)
    clear hm10 hq10 htA10 htB10 htC10a hb100 hb11 m0 m1 m2 m3 m4 m5 hl10
    obtain ⟨m0, m1, m2, m3, m4, m5⟩ := hm11.cells
    go_wp2_with fail
    refine (turn_is w8.heap.size [] fr kd it ph ct true _ (by rw [inTeam_nil, Hp.out]; rfl) (by simp) htB11).mono ?_
    rintro e w12 ⟨rfl, hb12⟩
    have hq12 := hq11.below (Nat.le_refl _) hb12
    have htC12 := htC11.below (Nat.le_refl _) hb12
    have hb120 := hb110.trans (hb12.mono hb110.size)
    clear hm11 hq11 htB11 htC11 hb110 hb12 m0 m1 m2 m3 m4 m5
    obtain ⟨m0, m1, m2, m3, m4, m5⟩ := hq12.cells
    go_wp2_with fail
    refine (turn_is w9.heap.size names fr kd ⟨#[]⟩ ⟨#[]⟩ ⟨#[]⟩ true _ (by rw [Hin.out, Hp.out]; rfl) (by omega) htC12).mono ?_
    rintro e w13 ⟨rfl, hb13⟩
    have hb130 := hb120.trans (hb13.mono hb120.size)
    clear hq12 htC12 hb120 hb13 m0 m1 m2 m3 m4 m5
    go_wp2_with fail
    go_ret
    exact ⟨rfl, hb130⟩
theorem inTeam_one (x : ByteArray) : inTeam [x] x = true := by simp [inTeam]
theorem appendOne_nil (x : ByteArray) (w : World) :
    Calls Try.prog 17 #[.slice none 0 0, .string x] w fun e w' => e = .returned (.slice (some ⟨w.heap.size, 0, none⟩) 1 1) ∧ NamesAt w' (some ⟨w.heap.size, 0, none⟩) [x] ∧ Below w.heap.size w w' :=
  appendOne_any none 0 [] x w (by simp) (fun hp => by simp at hp)

set_option maxRecDepth 100000 in
set_option maxHeartbeats 4000000 in
theorem alone_nil (pm co : ByteArray) (hc : Bool) (fr kd it ph ct : ByteArray) (w : World) :
    Calls Try.prog 6 #[.string pm, .string co, .bool hc, .slice none 0 0, .string fr, .string kd, .string it, .string ph, .string ct] w fun e w' => e = .returned (.bool true) ∧ Below w.heap.size w w' := by
  go_enter Try.func6, Try.ntmps6
  go_wp2_with fail
  refine (bytes9_none pm co hc _ _ fr kd it ph ct _).mono ?_
  rintro e w1 ⟨⟨r, rfl⟩, rfl⟩
  cases r
  · go_wp2_with fail
    go_ret
    exact ⟨rfl, Below.refl _ _⟩
  go_wp2_with fail
  iterate 1 (go_ret; exact ⟨rfl, Below.refl _ _⟩)
  rotate_left 1
  iterate 6 (go_ret; exact ⟨rfl, Below.refl _ _⟩)
  refine (listBytes_none _ _ _).mono ?_
  rintro e w2 ⟨⟨r, rfl, r0, r1⟩, rfl⟩
  go_wp2_with fail
  · go_ret
    exact ⟨rfl, Below.refl _ _⟩
  refine (newTeam_none pm co hc _ _ _).mono ?_
  rintro e w5 ⟨rfl, ht5, hb5⟩
  have hm5 := MsgAt.new w5 fr kd it ph ct
  have hb5a := (Below.refl w5.heap.size w5).alloc (Nat.le_refl _) (.cells #[.string fr, .string kd, .string it, .string ph, .string ct, .pointer none] 31)
  have hb50 := hb5.trans (hb5a.mono hb5.size)
  have ht5a := ht5.below (Nat.le_refl _) hb5a
  clear hb5 hb5a ht5
  cases hp : (kd.toList == [112, 97, 115, 115])
  · have Hp : Hid (passB kd = false) := hp
    go_wp2_with fail
    refine (turn_is w2.heap.size [] fr kd it ph ct false _ (by rw [inTeam_nil, Hp.out]; rfl) (by simp) ht5a).mono ?_
    rintro e w6 ⟨rfl, hb6⟩
    have hm6 := hm5.below (Nat.le_refl _) hb6
    have hb60 := hb50.trans (hb6.mono hb50.size)
    clear hm5 hb50 ht5a hb6
    go_wp2_with fail
    refine (appendOne_nil fr _).mono ?_
    rintro e w7 ⟨rfl, hA7, hb7⟩
    have hm7 := hm6.below (Nat.le_refl _) hb7
    have hb70 := hb60.trans (hb7.mono hb60.size)
    clear hm6 hb60 hb7
    go_wp2_with fail
    refine (newTeam_any pm co hc _ _ [fr] _ (by simp) hA7).mono ?_
    rintro e w8 ⟨rfl, htA8, hb8⟩
    have hm8 := hm7.below (Nat.le_refl _) hb8
    have hb80 := hb70.trans (hb8.mono hb70.size)
    clear hm7 hb70 hb8 hA7
    go_wp2_with fail
    refine (newTeam_none pm co hc _ _ _).mono ?_
    rintro e w9 ⟨rfl, htB9, hb9⟩
    have hm9 := hm8.below (Nat.le_refl _) hb9
    have htA9 := htA8.below (Nat.le_refl _) hb9
    have hb90 := hb80.trans (hb9.mono hb80.size)
    clear hm8 hb80 hb9 htA8
    go_wp2_with fail
    refine (newTeam_none ⟨#[]⟩ ⟨#[]⟩ false _ _ _).mono ?_
    rintro e w10 ⟨rfl, htC10, hb10⟩
    have hb10a := (Below.refl w10.heap.size w10).alloc (Nat.le_refl _) (.cells #[.string fr, .string kd, .string ⟨#[]⟩, .string ⟨#[]⟩, .string ⟨#[]⟩, .pointer none] 31)
    have hq10 := MsgAt.new w10 fr kd ⟨#[]⟩ ⟨#[]⟩ ⟨#[]⟩
    have hb10b := hb10.trans (hb10a.mono hb10.size)
    have hm10 := hm9.below (Nat.le_refl _) hb10b
    have htA10 := htA9.below (Nat.le_refl _) hb10b
    have htB10 := htB9.below (Nat.le_refl _) hb10b
    have htC10a := htC10.below (Nat.le_refl _) hb10a
    have hb100 := hb90.trans (hb10b.mono hb90.size)
    obtain ⟨m0, m1, m2, m3, m4, m5⟩ := (hm9.below (Nat.le_refl _) hb10).cells
    have hl10 := (hm9.below (Nat.le_refl _) hb10).lt
    clear hm9 htA9 htB9 htC10 hb90 hb10 hb10a hb10b
    go_wp2_with fail
    refine (turn_is w7.heap.size ([fr]) fr kd it ph ct true _ (by rw [inTeam_one]; rfl) (by simp) htA10).mono ?_
    rintro e w11 ⟨rfl, hb11⟩
    have hm11 := hm10.below (Nat.le_refl _) hb11
    have hq11 := hq10.below (Nat.le_refl _) hb11
    have htB11 := htB10.below (Nat.le_refl _) hb11
    have htC11 := htC10a.below (Nat.le_refl _) hb11
    have hb110 := hb100.trans (hb11.mono hb100.size)
    clear hm10 hq10 htA10 htB10 htC10a hb100 hb11 m0 m1 m2 m3 m4 m5 hl10
    obtain ⟨m0, m1, m2, m3, m4, m5⟩ := hm11.cells
    go_wp2_with fail
    refine (turn_is w8.heap.size [] fr kd it ph ct false _ (by rw [inTeam_nil, Hp.out]; rfl) (by simp) htB11).mono ?_
    rintro e w12 ⟨rfl, hb12⟩
    have hq12 := hq11.below (Nat.le_refl _) hb12
    have htC12 := htC11.below (Nat.le_refl _) hb12
    have hb120 := hb110.trans (hb12.mono hb110.size)
    clear hm11 hq11 htB11 htC11 hb110 hb12 m0 m1 m2 m3 m4 m5
    obtain ⟨m0, m1, m2, m3, m4, m5⟩ := hq12.cells
    go_wp2_with fail
    refine (turn_is w9.heap.size [] fr kd ⟨#[]⟩ ⟨#[]⟩ ⟨#[]⟩ false _ (by rw [inTeam_nil, Hp.out]; rfl) (by simp) htC12).mono ?_
    rintro e w13 ⟨rfl, hb13⟩
    have hb130 := hb120.trans (hb13.mono hb120.size)
    clear hq12 htC12 hb120 hb13 m0 m1 m2 m3 m4 m5
    go_wp2_with fail
    go_ret
    exact ⟨rfl, hb130⟩
  · have Hp : Hid (passB kd = true) := hp
    go_wp2_with fail
    refine (turn_is w2.heap.size [] fr kd it ph ct true _ (by rw [inTeam_nil, Hp.out]; rfl) (by simp) ht5a).mono ?_
    rintro e w6 ⟨rfl, hb6⟩
    have hm6 := hm5.below (Nat.le_refl _) hb6
    have hb60 := hb50.trans (hb6.mono hb50.size)
    clear hm5 hb50 ht5a hb6
    go_wp2_with fail
    refine (appendOne_nil fr _).mono ?_
    rintro e w7 ⟨rfl, hA7, hb7⟩
    have hm7 := hm6.below (Nat.le_refl _) hb7
    have hb70 := hb60.trans (hb7.mono hb60.size)
    clear hm6 hb60 hb7
    go_wp2_with fail
    refine (newTeam_any pm co hc _ _ [fr] _ (by simp) hA7).mono ?_
    rintro e w8 ⟨rfl, htA8, hb8⟩
    have hm8 := hm7.below (Nat.le_refl _) hb8
    have hb80 := hb70.trans (hb8.mono hb70.size)
    clear hm7 hb70 hb8 hA7
    go_wp2_with fail
    refine (newTeam_none pm co hc _ _ _).mono ?_
    rintro e w9 ⟨rfl, htB9, hb9⟩
    have hm9 := hm8.below (Nat.le_refl _) hb9
    have htA9 := htA8.below (Nat.le_refl _) hb9
    have hb90 := hb80.trans (hb9.mono hb80.size)
    clear hm8 hb80 hb9 htA8
    go_wp2_with fail
    refine (newTeam_none ⟨#[]⟩ ⟨#[]⟩ false _ _ _).mono ?_
    rintro e w10 ⟨rfl, htC10, hb10⟩
    have hb10a := (Below.refl w10.heap.size w10).alloc (Nat.le_refl _) (.cells #[.string fr, .string kd, .string ⟨#[]⟩, .string ⟨#[]⟩, .string ⟨#[]⟩, .pointer none] 31)
    have hq10 := MsgAt.new w10 fr kd ⟨#[]⟩ ⟨#[]⟩ ⟨#[]⟩
    have hb10b := hb10.trans (hb10a.mono hb10.size)
    have hm10 := hm9.below (Nat.le_refl _) hb10b
    have htA10 := htA9.below (Nat.le_refl _) hb10b
    have htB10 := htB9.below (Nat.le_refl _) hb10b
    have htC10a := htC10.below (Nat.le_refl _) hb10a
    have hb100 := hb90.trans (hb10b.mono hb90.size)
    obtain ⟨m0, m1, m2, m3, m4, m5⟩ := (hm9.below (Nat.le_refl _) hb10).cells
    have hl10 := (hm9.below (Nat.le_refl _) hb10).lt
    clear hm9 htA9 htB9 htC10 hb90 hb10 hb10a hb10b
    go_wp2_with fail
    refine (turn_is w7.heap.size ([fr]) fr kd it ph ct true _ (by rw [inTeam_one]; rfl) (by simp) htA10).mono ?_
    rintro e w11 ⟨rfl, hb11⟩
    have hm11 := hm10.below (Nat.le_refl _) hb11
    have hq11 := hq10.below (Nat.le_refl _) hb11
    have htB11 := htB10.below (Nat.le_refl _) hb11
    have htC11 := htC10a.below (Nat.le_refl _) hb11
    have hb110 := hb100.trans (hb11.mono hb100.size)
    clear hm10 hq10 htA10 htB10 htC10a hb100 hb11 m0 m1 m2 m3 m4 m5 hl10
    obtain ⟨m0, m1, m2, m3, m4, m5⟩ := hm11.cells
    go_wp2_with fail
    refine (turn_is w8.heap.size [] fr kd it ph ct true _ (by rw [inTeam_nil, Hp.out]; rfl) (by simp) htB11).mono ?_
    rintro e w12 ⟨rfl, hb12⟩
    have hq12 := hq11.below (Nat.le_refl _) hb12
    have htC12 := htC11.below (Nat.le_refl _) hb12
    have hb120 := hb110.trans (hb12.mono hb110.size)
    clear hm11 hq11 htB11 htC11 hb110 hb12 m0 m1 m2 m3 m4 m5
    obtain ⟨m0, m1, m2, m3, m4, m5⟩ := hq12.cells
    go_wp2_with fail
    refine (turn_is w9.heap.size [] fr kd ⟨#[]⟩ ⟨#[]⟩ ⟨#[]⟩ true _ (by rw [inTeam_nil, Hp.out]; rfl) (by simp) htC12).mono ?_
    rintro e w13 ⟨rfl, hb13⟩
    have hb130 := hb120.trans (hb13.mono hb120.size)
    clear hq12 htC12 hb120 hb13 m0 m1 m2 m3 m4 m5
    go_wp2_with fail
    go_ret
    exact ⟨rfl, hb130⟩
end Go.Proofs.Qxb6605976a.turns
