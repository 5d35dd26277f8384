import Derived.Test.Qxb6605976aTeam
import Derived.Laws.CopyOwn
namespace Go.Proofs.Qxb6605976a.turns
open Go.RowKit

theorem turn_is (tb : Nat) (names : List ByteArray) (fr kd it ph ct : ByteArray) (v : Bool) (w : World) (hv : (inTeam names fr || passB kd) = v) (hn : names.length ≤ 1048576) (ht : TeamAt w tb names) :
    Calls Try.prog 14 #[.pointer (some ⟨tb, 0, none⟩), .agg #[.string fr, .string kd, .string it, .string ph, .string ct, .pointer none]] w fun e w' => e = .returned (.bool v) ∧ Below w.heap.size w w' := by
  subst hv
  exact turn_any tb names fr kd it ph ct w hn ht

theorem row_of {w : World} {base g n : Nat} {xs : List Value} (h : w.ownsRow base 9 1 (.slice (some ⟨g, 0, none⟩) n n) n xs) : ∃ cur : List Value, w.heap[g]? = some (.cells cur.toArray 9 (0, 0)) ∧ cur.length = n := by
  rcases h.2 with ⟨h0, _⟩ | ⟨g', c, cur, hv, _, hh, _, _, hs, _⟩
  · simp at h0
  · simp only [Value.slice.injEq, Option.some.injEq, Addr.mk.injEq, true_and, and_true] at hv
    obtain ⟨rfl, rfl⟩ := hv
    exact ⟨cur.toList, by simpa using hh, by simpa using hs⟩

theorem src_cells {w w' : World} {ad : Addr} {names : List ByteArray} (h : NamesAt w (some ad) names) {B : Nat} (hB : w.heap.size ≤ B) (hb : Below B w w') :
    0 < names.length → ∀ (j : Nat) (a : ByteArray), names[j]? = some a → w'.cell? (ad.add j) = some (.string a) := by
  intro hp j a hj
  obtain ⟨b, off, ha, hlt, hc⟩ := (h.below hB hb) hp
  cases ha
  obtain ⟨hj1, hj2⟩ := List.getElem?_eq_some_iff.1 hj
  have := hc j hj1
  rw [getD_lt _ hj1, hj2] at this
  rw [WideShapes.add_plain]
  exact this

/-- of the first k names none is the PM's, the coach's or the system's -/
def Apart (pm co : ByteArray) (names : List ByteArray) (k : Nat) : Prop :=
  ∀ j (hj : j < names.length), j < k → (names[j].toList == pm.toList) = false ∧ (names[j].toList == co.toList) = false ∧ (names[j].toList == [115, 121, 115, 116, 101, 109]) = false

theorem Apart.succ {pm co : ByteArray} {names : List ByteArray} {k : Nat} (h : Apart pm co names k) (hk : k < names.length) (h1 : (names[k].toList == pm.toList) = false) (h2 : (names[k].toList == co.toList) = false) (h3 : (names[k].toList == [115, 121, 115, 116, 101, 109]) = false) : Apart pm co names (k + 1) := by
  intro j hj hjk
  by_cases e : j = k
  · subst e; exact ⟨h1, h2, h3⟩
  · exact h j hj (by omega)

theorem namesAt_copied {w : World} {g : Nat} {cur : List Value} {names : List ByteArray} (hl : cur.length = names.length) (h : w.heap[g]? = some (.cells (splice cur 0 (names.map Value.string)).toArray 9 (0, 0))) : NamesAt w (some ⟨g, 0, none⟩) names := by
  have e : splice cur 0 (names.map Value.string) = names.map Value.string := by
    unfold splice
    rw [List.drop_eq_nil_of_le (by simp; omega)]
    simp
  rw [e] at h
  intro _
  refine ⟨g, 0, rfl, ?_, fun k hk => ?_⟩
  · exact (Array.getElem?_eq_some_iff.1 h).1
  · rw [getD_lt _ hk]
    simp [World.cell?, h, hk]

theorem toList_sys : (⟨#[115, 121, 115, 116, 101, 109]⟩ : ByteArray).toList = [115, 121, 115, 116, 101, 109] := by decide +kernel
theorem pass_yes : passB ⟨#[112, 97, 115, 115]⟩ = true := by decide +kernel
theorem pass_no : passB ⟨#[]⟩ = false := by decide +kernel

/-- a message in memory, at the head of block b -/
def MsgAt (w : World) (b : Nat) (fr kd it ph ct : ByteArray) : Prop := w.heap[b]? = some (.cells #[.string fr, .string kd, .string it, .string ph, .string ct, .pointer none] 31 (0, 0))
theorem MsgAt.cells {w : World} {b : Nat} {fr kd it ph ct : ByteArray} (h : MsgAt w b fr kd it ph ct) :
    w.cell? ⟨b, 0, none⟩ = some (.string fr) ∧ w.cell? ⟨b, 1, none⟩ = some (.string kd) ∧ w.cell? ⟨b, 2, none⟩ = some (.string it) ∧ w.cell? ⟨b, 3, none⟩ = some (.string ph) ∧ w.cell? ⟨b, 4, none⟩ = some (.string ct) ∧ w.cell? ⟨b, 5, none⟩ = some (.pointer none) := by
  unfold MsgAt at h
  simp [World.cell?, h]
theorem MsgAt.lt {w : World} {b : Nat} {fr kd it ph ct : ByteArray} (h : MsgAt w b fr kd it ph ct) : b < w.heap.size := (Array.getElem?_eq_some_iff.1 h).1
theorem MsgAt.below {w w' : World} {b : Nat} {fr kd it ph ct : ByteArray} (h : MsgAt w b fr kd it ph ct) {B : Nat} (hB : w.heap.size ≤ B) (hb : Below B w w') : MsgAt w' b fr kd it ph ct :=
  (hb.block b (by have := h.lt; omega)).trans h
theorem MsgAt.new (w : World) (fr kd it ph ct : ByteArray) : MsgAt (w.alloc (.cells #[.string fr, .string kd, .string it, .string ph, .string ct, .pointer none] 31)) w.heap.size fr kd it ph ct := heap_alloc_new w _

theorem Try.info9 : (Try.prog.info? 9).map (fun i => (i.zero, i.size, i.bytes)) = some (some (.string ⟨#[]⟩), 1, 16) := by kernel_rfl
theorem Try.size9 : (Try.prog.info? 9).map (·.size) = some 1 := by kernel_rfl

set_option maxRecDepth 100000 in
set_option maxHeartbeats 4000000 in
theorem byRole_some (pm co : ByteArray) (hc : Bool) (ad : Addr) (cap : Nat) (names : List ByteArray) (kd it ph ct : ByteArray) (w : World) (hs : ∀ k, (names.getD k ByteArray.empty).size ≤ 9223372036854775807) (h : NamesAt w (some ad) names) :
    Calls Try.prog 5 #[.string pm, .string co, .bool hc, .slice (some ad) names.length cap, .string kd, .string it, .string ph, .string ct] w fun e w' => e = .returned (.bool true) ∧ Below w.heap.size w w' := by
  obtain ⟨i0, hi, hz0, hz1, hz2⟩ := info_parts Try.info9
  go_enter Try.func5, Try.ntmps5
  go_wp2_with fail
  refine (bytes_any pm co hc _ cap names kd it ph ct _ hs h).mono ?_
  rintro e w1 ⟨⟨r, rfl⟩, rfl⟩
  cases r
  · go_wp2_with fail
    go_ret
    exact ⟨rfl, Below.refl _ _⟩
  go_wp2_with fail
  iterate 2 (go_ret; exact ⟨rfl, Below.refl _ _⟩)
  rotate_left 1
  iterate 5 (go_ret; exact ⟨rfl, Below.refl _ _⟩)
  have hn : names.length ≤ 1048576 := by omega
  refine (listBytes_any _ cap names _ hn hs h).mono ?_
  rintro e w2 ⟨⟨r, rfl, r0, r1⟩, rfl⟩
  clear hs
  go_wp2_with (at_make; refine wpList_make_full _ rfl _ _ 24 rfl w2.heap.size 9 i0 (.string ⟨#[]⟩) 1 Try.underlying24 hi hz0 hz1 .i64 .i64 _ _ names.length rfl rfl rfl rfl ?m1 ?m2 ?m3 ?_)
  · go_ret
    exact ⟨rfl, Below.refl _ _⟩
  case m1 => rw [hz2]; omega
  case m2 => unfold maxLen; omega
  case m3 => omega
  intro w3 hown3 hgrow3
  obtain ⟨cur, hcur, hlen⟩ := row_of hown3
  have hb3 : Below w2.heap.size w2 w3 := (Below.refl _ _).grown hgrow3 (Nat.le_refl _) (fun k e => by cases e)
  have hsrc := src_cells h (Nat.le_refl _) hb3
  clear hown3 hgrow3 hi hz0 hz1 hz2
  go_wp2_with (refine wpList_copy_splice rfl (.tmp 93) (.tmp 94) 24 24 rfl 9 Try.underlying24 Try.size9 _ _ _ _ _ _ rfl rfl w2.heap.size 0 cur 9 hcur (names.map Value.string) ?p1 ?p2 ?p3 ?p4 w2.heap.size w2 hb3 (Nat.le_refl _) ?_)
  case p1 => simp
  case p2 => exact hsrc
  case p3 => simp; omega
  case p4 => intro v hv; simp at hv; obtain ⟨a, _, rfl⟩ := hv; rfl
  intro w4 hc4 hb4
  have hN := namesAt_copied hlen hc4.out
  clear hc4 hsrc hb3 hcur hlen h
  go_wp2_with fail
  go_loop [18] (fun i => ∃ k : Nat, k ≤ names.length ∧ i = .int .i64 k ∧ Apart pm co names k) (fun i => names.length - (intOf i).toNat)
  case atStart => exact ⟨0, Nat.zero_le _, rfl, fun j _ hj => by omega⟩
  case round =>
    obtain ⟨k, hk, rfl, hap⟩ := hrel
    by_cases hlt : k < names.length
    · obtain ⟨b, off, ha, hlb, hcl⟩ := hN (by omega)
      cases ha
      have hk1 := hcl k hlt
      rw [getD_lt _ hlt] at hk1
      clear hcl
      simp only [Nat.zero_add] at hk1
      go_wp2
      iterate 3 (go_ret; exact ⟨rfl, hb4⟩)
      have hh : ((names[k].toList == pm.toList) = false ∧ (names[k].toList == co.toList) = false) ∧ (names[k].toList == [115, 121, 115, 116, 101, 109]) = false := by assumption
      go_round
      case rel => exact ⟨k + 1, by omega, by go_num, hap.succ hlt hh.1.1 hh.1.2 hh.2⟩
      case measure => simp [intOf]; omega
    · obtain rfl : k = names.length := by omega
      have hpm : Hid (inTeam names pm = false) := inTeam_no fun j hj => (hap j hj hj).1
      have hco : Hid (inTeam names co = false) := inTeam_no fun j hj => (hap j hj hj).2.1
      have hsy : Hid (inTeam names ⟨#[115, 121, 115, 116, 101, 109]⟩ = false) := inTeam_no fun j hj => by rw [toList_sys]; exact (hap j hj hj).2.2
      clear hap hk hlt
      go_wp2_with fail
      refine (newTeam_any pm co hc _ _ names _ hn hN).mono ?_
      rintro e w5 ⟨rfl, ht, hb5⟩
      have hN5 := hN.below (Nat.le_refl _) hb5
      have hb6 : Below w2.heap.size w2 w5 := hb4.trans (hb5.mono hb4.size)
      have hz5 := hb5.size
      have hz4 := hb4.size
      clear hN hb5 hb4
      go_wp2_with fail
      go_loopw [22] (fun i wr => ∃ k : Nat, k ≤ names.length ∧ i = .int .i64 k ∧ NamesAt wr (some ⟨w2.heap.size, 0, none⟩) names ∧ TeamAt wr w4.heap.size names ∧ MsgAt wr w5.heap.size ⟨#[]⟩ kd it ph ct ∧ Below w2.heap.size w2 wr) (fun i _ => names.length - (intOf i).toNat)
      case atStart =>
        have hb0 := (Below.refl w5.heap.size w5).alloc (Nat.le_refl _) (.cells #[.string ⟨#[]⟩, .string kd, .string it, .string ph, .string ct, .pointer none] 31)
        exact ⟨0, Nat.zero_le _, rfl, hN5.below (Nat.le_refl _) hb0, ht.below (Nat.le_refl _) hb0, MsgAt.new _ _ _ _ _ _, hb6.alloc (by omega) _⟩
      case round =>
        clear hN5 ht hb6
        obtain ⟨k, hk, rfl, hN, ht, hm, hb⟩ := hrel
        obtain ⟨m0, m1, m2, m3, m4, m5⟩ := hm.cells
        by_cases hlt : k < names.length
        · obtain ⟨b, off, ha, hlb, hcl⟩ := hN (by omega)
          cases ha
          have hk1 := hcl k hlt
          rw [getD_lt _ hlt] at hk1
          clear hcl
          simp only [Nat.zero_add] at hk1
          have hb0 := (Below.refl wr.heap.size wr).alloc (Nat.le_refl _) (.cells #[.string names[k], .string kd, .string it, .string ph, .string ct, .pointer none] 31)
          have hv : (inTeam names names[k] || passB kd) = true := by rw [inTeam_yes hlt (by simp)]; rfl
          have Hv : Hid ((inTeam names names[k] || passB kd) = true) := hv
          clear hv
          go_wp2_with fail
          refine (turn_is w4.heap.size names names[k] kd it ph ct true _ Hv.out hn (ht.below (Nat.le_refl _) hb0)).mono ?_
          rintro e w7 ⟨rfl, hb7⟩
          have hb8 := hb0.trans (hb7.mono (by simp))
          have R := And.intro (hN.below (Nat.le_refl _) hb8) (And.intro (ht.below (Nat.le_refl _) hb8) (And.intro (hm.below (Nat.le_refl _) hb8) (hb.trans (hb8.mono hb.size))))
          clear hb0 hb7 hb8 hN ht hm hb m0 m1 m2 m3 m4 m5
          go_wp2_with fail
          go_roundw
          case rel => exact ⟨k + 1, by omega, by go_num, R.1, R.2.1, R.2.2.1, R.2.2.2⟩
          case measure => simp [intOf]; omega
        · clear hN
          have hlw := hm.lt
          have hbz := hb.size
          cases hp : (kd.toList == [112, 97, 115, 115])
          · have Hp : Hid (passB kd = false) := hp
            have hA := ((Below.refl wr.heap.size wr).alloc (Nat.le_refl _) (.cells #[.string pm, .string kd, .string it, .string ph, .string ct, .pointer none] 31)).alloc (by simp) (.cells #[.string co, .string kd, .string it, .string ph, .string ct, .pointer none] 31)
            have htA := ht.below (Nat.le_refl _) hA
            have hmA := hm.below (Nat.le_refl _) hA
            have hcA := MsgAt.new (wr.alloc (.cells #[.string pm, .string kd, .string it, .string ph, .string ct, .pointer none] 31)) co kd it ph ct
            have hbA := hb.trans (hA.mono hb.size)
            clear hA
            go_wp2_with fail
            refine (turn_is w4.heap.size names pm kd it ph ct false _ (by rw [hpm.out, Hp.out]; rfl) hn htA).mono ?_
            rintro e w7 ⟨rfl, hb7⟩
            have ht7 := htA.below (Nat.le_refl _) hb7
            have hm7 := hmA.below (Nat.le_refl _) hb7
            have hc7 := hcA.below (Nat.le_refl _) hb7
            have hb70 := hbA.trans (hb7.mono hbA.size)
            clear hb7 htA hmA hcA hbA hm ht m0 m1 m2 m3 m4 m5 hb
            simp only [World.size_alloc] at hc7
            obtain ⟨m0, m1, m2, m3, m4, m5⟩ := hc7.cells
            go_wp2_with fail
            refine (turn_is w4.heap.size names co kd it ph ct false _ (by rw [hco.out, Hp.out]; rfl) hn ht7).mono ?_
            rintro e w8 ⟨rfl, hb8⟩
            have ht8 := ht7.below (Nat.le_refl _) hb8
            have hm8 := hm7.below (Nat.le_refl _) hb8
            have hb80 := hb70.trans (hb8.mono hb70.size)
            clear hb8 ht7 hm7 hc7 hb70 m0 m1 m2 m3 m4 m5
            obtain ⟨m0, m1, m2, m3, m4, m5⟩ := hm8.cells
            go_wp2_with fail
            refine (note_any ⟨#[]⟩ kd it ph ct ⟨#[112, 97, 115, 115]⟩ ct _).mono ?_
            rintro e w9 ⟨rfl, hb9⟩
            have ht9 := ht8.below (Nat.le_refl _) hb9
            have hm9 := hm8.below (Nat.le_refl _) hb9
            have hb90 := hb80.trans (hb9.mono hb80.size)
            clear hb9 ht8 hm8 hb80 m0 m1 m2 m3 m4 m5
            go_wp2_with fail
            refine (turn_is w4.heap.size names _ _ it ph ct true _ (by rw [hsy.out, pass_yes]; rfl) hn ht9).mono ?_
            rintro e w10 ⟨rfl, hb10⟩
            have ht10 := ht9.below (Nat.le_refl _) hb10
            have hm10 := hm9.below (Nat.le_refl _) hb10
            have hb100 := hb90.trans (hb10.mono hb90.size)
            clear hb10 ht9 hm9 hb90
            obtain ⟨m0, m1, m2, m3, m4, m5⟩ := hm10.cells
            go_wp2_with fail
            refine (note_any ⟨#[]⟩ kd it ph ct ⟨#[]⟩ ct _).mono ?_
            rintro e w11 ⟨rfl, hb11⟩
            have ht11 := ht10.below (Nat.le_refl _) hb11
            have hb110 := hb100.trans (hb11.mono hb100.size)
            clear hb11 ht10 hm10 hb100 m0 m1 m2 m3 m4 m5
            go_wp2_with fail
            refine (turn_is w4.heap.size names _ _ it ph ct false _ (by rw [hsy.out, pass_no]; rfl) hn ht11).mono ?_
            rintro e w12 ⟨rfl, hb12⟩
            have hb120 := hb110.trans (hb12.mono hb110.size)
            clear hb12 ht11 hb110
            go_wp2_with fail
            go_ret
            exact ⟨rfl, hb120⟩
          · have Hp : Hid (passB kd = true) := hp
            have hA := ((Below.refl wr.heap.size wr).alloc (Nat.le_refl _) (.cells #[.string pm, .string kd, .string it, .string ph, .string ct, .pointer none] 31)).alloc (by simp) (.cells #[.string co, .string kd, .string it, .string ph, .string ct, .pointer none] 31)
            have htA := ht.below (Nat.le_refl _) hA
            have hmA := hm.below (Nat.le_refl _) hA
            have hcA := MsgAt.new (wr.alloc (.cells #[.string pm, .string kd, .string it, .string ph, .string ct, .pointer none] 31)) co kd it ph ct
            have hbA := hb.trans (hA.mono hb.size)
            clear hA
            go_wp2_with fail
            refine (turn_is w4.heap.size names pm kd it ph ct true _ (by rw [hpm.out, Hp.out]; rfl) hn htA).mono ?_
            rintro e w7 ⟨rfl, hb7⟩
            have ht7 := htA.below (Nat.le_refl _) hb7
            have hm7 := hmA.below (Nat.le_refl _) hb7
            have hc7 := hcA.below (Nat.le_refl _) hb7
            have hb70 := hbA.trans (hb7.mono hbA.size)
            clear hb7 htA hmA hcA hbA hm ht m0 m1 m2 m3 m4 m5 hb
            simp only [World.size_alloc] at hc7
            obtain ⟨m0, m1, m2, m3, m4, m5⟩ := hc7.cells
            go_wp2_with fail
            refine (turn_is w4.heap.size names co kd it ph ct true _ (by rw [hco.out, Hp.out]; rfl) hn ht7).mono ?_
            rintro e w8 ⟨rfl, hb8⟩
            have ht8 := ht7.below (Nat.le_refl _) hb8
            have hm8 := hm7.below (Nat.le_refl _) hb8
            have hb80 := hb70.trans (hb8.mono hb70.size)
            clear hb8 ht7 hm7 hc7 hb70 m0 m1 m2 m3 m4 m5
            obtain ⟨m0, m1, m2, m3, m4, m5⟩ := hm8.cells
            go_wp2_with fail
            refine (note_any ⟨#[]⟩ kd it ph ct ⟨#[112, 97, 115, 115]⟩ ct _).mono ?_
            rintro e w9 ⟨rfl, hb9⟩
            have ht9 := ht8.below (Nat.le_refl _) hb9
            have hm9 := hm8.below (Nat.le_refl _) hb9
            have hb90 := hb80.trans (hb9.mono hb80.size)
            clear hb9 ht8 hm8 hb80 m0 m1 m2 m3 m4 m5
            go_wp2_with fail
            refine (turn_is w4.heap.size names _ _ it ph ct true _ (by rw [hsy.out, pass_yes]; rfl) hn ht9).mono ?_
            rintro e w10 ⟨rfl, hb10⟩
            have ht10 := ht9.below (Nat.le_refl _) hb10
            have hm10 := hm9.below (Nat.le_refl _) hb10
            have hb100 := hb90.trans (hb10.mono hb90.size)
            clear hb10 ht9 hm9 hb90
            obtain ⟨m0, m1, m2, m3, m4, m5⟩ := hm10.cells
            go_wp2_with fail
            refine (note_any ⟨#[]⟩ kd it ph ct ⟨#[]⟩ ct _).mono ?_
            rintro e w11 ⟨rfl, hb11⟩
            have ht11 := ht10.below (Nat.le_refl _) hb11
            have hb110 := hb100.trans (hb11.mono hb100.size)
            clear hb11 ht10 hm10 hb100 m0 m1 m2 m3 m4 m5
            go_wp2_with fail
            refine (turn_is w4.heap.size names _ _ it ph ct false _ (by rw [hsy.out, pass_no]; rfl) hn ht11).mono ?_
            rintro e w12 ⟨rfl, hb12⟩
            have hb120 := hb110.trans (hb12.mono hb110.size)
            clear hb12 ht11 hb110
            go_wp2_with fail
            go_ret
            exact ⟨rfl, hb120⟩
theorem inTeam_nil (x : ByteArray) : inTeam [] x = false := rfl

set_option maxRecDepth 100000 in
set_option maxHeartbeats 4000000 in
theorem byRole_nil (pm co : ByteArray) (hc : Bool) (kd it ph ct : ByteArray) (w : World) :
    Calls Try.prog 5 #[.string pm, .string co, .bool hc, .slice none 0 0, .string kd, .string it, .string ph, .string ct] w fun e w' => e = .returned (.bool true) ∧ Below w.heap.size w w' := by
  go_enter Try.func5, Try.ntmps5
  go_wp2_with fail
  refine (bytes_none pm co hc _ _ kd it ph ct _).mono ?_
  rintro e w1 ⟨⟨r, rfl⟩, rfl⟩
  cases r
  · go_wp2_with fail
    go_ret
    exact ⟨rfl, Below.refl _ _⟩
  go_wp2_with fail
  iterate 1 (go_ret; exact ⟨rfl, Below.refl _ _⟩)
  rotate_left 1
  iterate 5 (go_ret; exact ⟨rfl, Below.refl _ _⟩)
  refine (listBytes_none _ _ _).mono ?_
  rintro e w2 ⟨⟨r, rfl, r0, r1⟩, rfl⟩
  go_wp2_with fail
  · go_ret
    exact ⟨rfl, Below.refl _ _⟩
  refine wp_loop_rounds 1 ?_
  rw [rounds_succ]
  go_wp2_with fail
  refine (newTeam_none pm co hc _ _ _).mono ?_
  rintro e w5 ⟨rfl, ht, hb5⟩
  go_wp2_with fail
  refine wp_loop_rounds 1 ?_
  rw [rounds_succ]
  have hbm := (Below.refl w5.heap.size w5).alloc (Nat.le_refl _) (.cells #[.string ⟨#[]⟩, .string kd, .string it, .string ph, .string ct, .pointer none] 31)
  have hmm := MsgAt.new w5 ⟨#[]⟩ kd it ph ct
  have htm := ht.below (Nat.le_refl _) hbm
  have hbm2 := hb5.trans (hbm.mono hb5.size)
  cases hp : (kd.toList == [112, 97, 115, 115])
  · have Hp : Hid (passB kd = false) := hp
    have hA := ((Below.refl (w5.alloc (.cells #[.string ⟨#[]⟩, .string kd, .string it, .string ph, .string ct, .pointer none] 31)).heap.size (w5.alloc (.cells #[.string ⟨#[]⟩, .string kd, .string it, .string ph, .string ct, .pointer none] 31))).alloc (Nat.le_refl _) (.cells #[.string pm, .string kd, .string it, .string ph, .string ct, .pointer none] 31)).alloc (by simp) (.cells #[.string co, .string kd, .string it, .string ph, .string ct, .pointer none] 31)
    have htA := htm.below (Nat.le_refl _) hA
    have hmA := hmm.below (Nat.le_refl _) hA
    have hcA := MsgAt.new ((w5.alloc (.cells #[.string ⟨#[]⟩, .string kd, .string it, .string ph, .string ct, .pointer none] 31)).alloc (.cells #[.string pm, .string kd, .string it, .string ph, .string ct, .pointer none] 31)) co kd it ph ct
    have hbA := hbm2.trans (hA.mono hbm2.size)
    clear hA
    go_wp2_with fail
    refine (turn_is w2.heap.size [] pm kd it ph ct false _ (by rw [inTeam_nil, Hp.out]; rfl) (by simp) htA).mono ?_
    rintro e w7 ⟨rfl, hb7⟩
    have ht7 := htA.below (Nat.le_refl _) hb7
    have hm7 := hmA.below (Nat.le_refl _) hb7
    have hc7 := hcA.below (Nat.le_refl _) hb7
    have hb70 := hbA.trans (hb7.mono hbA.size)
    clear hb7 htA hmA hcA hbA hmm htm ht hbm hbm2 hb5
    simp only [World.size_alloc] at hc7
    obtain ⟨m0, m1, m2, m3, m4, m5⟩ := hc7.cells
    go_wp2_with fail
    refine (turn_is w2.heap.size [] co kd it ph ct false _ (by rw [inTeam_nil, Hp.out]; rfl) (by simp) ht7).mono ?_
    rintro e w8 ⟨rfl, hb8⟩
    have ht8 := ht7.below (Nat.le_refl _) hb8
    have hm8 := hm7.below (Nat.le_refl _) hb8
    have hb80 := hb70.trans (hb8.mono hb70.size)
    clear hb8 ht7 hm7 hc7 hb70 m0 m1 m2 m3 m4 m5
    obtain ⟨m0, m1, m2, m3, m4, m5⟩ := hm8.cells
    go_wp2_with fail
    refine (note_any ⟨#[]⟩ kd it ph ct ⟨#[112, 97, 115, 115]⟩ ct _).mono ?_
    rintro e w9 ⟨rfl, hb9⟩
    have ht9 := ht8.below (Nat.le_refl _) hb9
    have hm9 := hm8.below (Nat.le_refl _) hb9
    have hb90 := hb80.trans (hb9.mono hb80.size)
    clear hb9 ht8 hm8 hb80 m0 m1 m2 m3 m4 m5
    go_wp2_with fail
    refine (turn_is w2.heap.size [] _ _ it ph ct true _ (by rw [inTeam_nil, pass_yes]; rfl) (by simp) ht9).mono ?_
    rintro e w10 ⟨rfl, hb10⟩
    have ht10 := ht9.below (Nat.le_refl _) hb10
    have hm10 := hm9.below (Nat.le_refl _) hb10
    have hb100 := hb90.trans (hb10.mono hb90.size)
    clear hb10 ht9 hm9 hb90
    obtain ⟨m0, m1, m2, m3, m4, m5⟩ := hm10.cells
    go_wp2_with fail
    refine (note_any ⟨#[]⟩ kd it ph ct ⟨#[]⟩ ct _).mono ?_
    rintro e w11 ⟨rfl, hb11⟩
    have ht11 := ht10.below (Nat.le_refl _) hb11
    have hb110 := hb100.trans (hb11.mono hb100.size)
    clear hb11 ht10 hm10 hb100 m0 m1 m2 m3 m4 m5
    go_wp2_with fail
    refine (turn_is w2.heap.size [] _ _ it ph ct false _ (by rw [inTeam_nil, pass_no]; rfl) (by simp) ht11).mono ?_
    rintro e w12 ⟨rfl, hb12⟩
    have hb120 := hb110.trans (hb12.mono hb110.size)
    clear hb12 ht11 hb110
    go_wp2_with fail
    go_ret
    exact ⟨rfl, hb120⟩
  · have Hp : Hid (passB kd = true) := hp
    have hA := ((Below.refl (w5.alloc (.cells #[.string ⟨#[]⟩, .string kd, .string it, .string ph, .string ct, .pointer none] 31)).heap.size (w5.alloc (.cells #[.string ⟨#[]⟩, .string kd, .string it, .string ph, .string ct, .pointer none] 31))).alloc (Nat.le_refl _) (.cells #[.string pm, .string kd, .string it, .string ph, .string ct, .pointer none] 31)).alloc (by simp) (.cells #[.string co, .string kd, .string it, .string ph, .string ct, .pointer none] 31)
    have htA := htm.below (Nat.le_refl _) hA
    have hmA := hmm.below (Nat.le_refl _) hA
    have hcA := MsgAt.new ((w5.alloc (.cells #[.string ⟨#[]⟩, .string kd, .string it, .string ph, .string ct, .pointer none] 31)).alloc (.cells #[.string pm, .string kd, .string it, .string ph, .string ct, .pointer none] 31)) co kd it ph ct
    have hbA := hbm2.trans (hA.mono hbm2.size)
    clear hA
    go_wp2_with fail
    refine (turn_is w2.heap.size [] pm kd it ph ct true _ (by rw [inTeam_nil, Hp.out]; rfl) (by simp) htA).mono ?_
    rintro e w7 ⟨rfl, hb7⟩
    have ht7 := htA.below (Nat.le_refl _) hb7
    have hm7 := hmA.below (Nat.le_refl _) hb7
    have hc7 := hcA.below (Nat.le_refl _) hb7
    have hb70 := hbA.trans (hb7.mono hbA.size)
    clear hb7 htA hmA hcA hbA hmm htm ht hbm hbm2 hb5
    simp only [World.size_alloc] at hc7
    obtain ⟨m0, m1, m2, m3, m4, m5⟩ := hc7.cells
    go_wp2_with fail
    refine (turn_is w2.heap.size [] co kd it ph ct true _ (by rw [inTeam_nil, Hp.out]; rfl) (by simp) ht7).mono ?_
    rintro e w8 ⟨rfl, hb8⟩
    have ht8 := ht7.below (Nat.le_refl _) hb8
    have hm8 := hm7.below (Nat.le_refl _) hb8
    have hb80 := hb70.trans (hb8.mono hb70.size)
    clear hb8 ht7 hm7 hc7 hb70 m0 m1 m2 m3 m4 m5
    obtain ⟨m0, m1, m2, m3, m4, m5⟩ := hm8.cells
    go_wp2_with fail
    refine (note_any ⟨#[]⟩ kd it ph ct ⟨#[112, 97, 115, 115]⟩ ct _).mono ?_
    rintro e w9 ⟨rfl, hb9⟩
    have ht9 := ht8.below (Nat.le_refl _) hb9
    have hm9 := hm8.below (Nat.le_refl _) hb9
    have hb90 := hb80.trans (hb9.mono hb80.size)
    clear hb9 ht8 hm8 hb80 m0 m1 m2 m3 m4 m5
    go_wp2_with fail
    refine (turn_is w2.heap.size [] _ _ it ph ct true _ (by rw [inTeam_nil, pass_yes]; rfl) (by simp) ht9).mono ?_
    rintro e w10 ⟨rfl, hb10⟩
    have ht10 := ht9.below (Nat.le_refl _) hb10
    have hm10 := hm9.below (Nat.le_refl _) hb10
    have hb100 := hb90.trans (hb10.mono hb90.size)
    clear hb10 ht9 hm9 hb90
    obtain ⟨m0, m1, m2, m3, m4, m5⟩ := hm10.cells
    go_wp2_with fail
    refine (note_any ⟨#[]⟩ kd it ph ct ⟨#[]⟩ ct _).mono ?_
    rintro e w11 ⟨rfl, hb11⟩
    have ht11 := ht10.below (Nat.le_refl _) hb11
    have hb110 := hb100.trans (hb11.mono hb100.size)
    clear hb11 ht10 hm10 hb100 m0 m1 m2 m3 m4 m5
    go_wp2_with fail
    refine (turn_is w2.heap.size [] _ _ it ph ct false _ (by rw [inTeam_nil, pass_no]; rfl) (by simp) ht11).mono ?_
    rintro e w12 ⟨rfl, hb12⟩
    have hb120 := hb110.trans (hb12.mono hb110.size)
    clear hb12 ht11 hb110
    go_wp2_with fail
    go_ret
    exact ⟨rfl, hb120⟩
end Go.Proofs.Qxb6605976a.turns
