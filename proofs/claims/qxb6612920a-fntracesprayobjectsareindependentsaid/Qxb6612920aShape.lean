import Derived.Test.Qxb6612920aClones
import Derived.Deep.QuietTactic
import Derived.BigQuiet
namespace Go.Proofs.Qxb6612920a.spray
open Go.RowKit Go.PlainAid

set_option maxRecDepth 100000 in
set_option maxHeartbeats 1000000 in
theorem shape_any (copies : Int) (nn : Nat) (self tot : Int) (av tv : Value) (az ts : List Int) (w : World) (ha : RowAt w w.heap.size .i64 av az) (ht : RowAt w w.heap.size .i64 tv ts) (hnn : nn ≤ 4096) (hcp : -9223372036854775808 ≤ copies ∧ copies ≤ 9223372036854775807)
    (hla : az.length ≤ 1073741824) (hlt : ts.length ≤ 1073741824)
    (hT : ∀ j, j < ts.length → 0 ≤ ts.getD j 0 ∧ ts.getD j 0 ≤ (nn : Int) - 1 ∧ (¬ 1 < copies → ts.getD j 0 = 0) ∧ (1 < copies → ts.getD j 0 ≤ copies - 1))
    (hA : ∀ k, k < az.length → self ≤ az.getD k 0 ∧ az.getD k 0 ≤ tot ∧ (copies < 1 → az.getD k 0 = 0)) :
    Calls Try.prog 14 #[.int .i64 copies, .int .i64 nn, av, tv, .int .i64 az.length, .int .i64 ts.length, .int .i64 self, .int .i64 tot] w fun r w' => r = .returned (.bool true) ∧ w' = w := by
  have Ha := Lib.hid ha
  have Ht := Lib.hid ht
  have HT := Lib.hid hT
  have HA := Lib.hid hA
  obtain ⟨pa, ca, rfl, _⟩ := ha
  obtain ⟨pt, ct, rfl, _⟩ := ht
  clear hT hA
  go_enter Try.func14, Try.ntmps14
  go_wp2_with fail
  go_loopg [17] ts.length (fun gk i wr => ∃ a : Nat, a ≤ ts.length ∧ gk = ts.length - a ∧ i = .int .i64 a ∧ wr = w)
  case atStart => exact ⟨0, Nat.zero_le _, rfl, rfl, rfl⟩
  case round =>
    obtain ⟨a, hal, rfl, rfl, rfl⟩ := hrel
    by_cases hl : a < ts.length
    · have j1 : (0 : Int) ≤ (a : Int) := by omega
      have j2 : (a : Int) < (ts.length : Int) := by omega
      obtain ⟨g, cap, e, _, _, hc⟩ := Ht.out.at hl
      simp only [Value.slice.injEq, true_and] at e
      obtain ⟨rfl, rfl⟩ := e
      obtain ⟨h1, h2, h3, h4⟩ := HT.out a hl
      generalize ts.getD a 0 = t at *
      have k1 : ¬ t < 0 := by omega
      have k2 : ¬ (nn : Int) - 1 < t := by omega
      have n1 : IntKind.i64.wrap ((nn : Int) - 1) = (nn : Int) - 1 := IntWalk.i64_in _ ⟨by omega, by omega⟩
      by_cases hcc : 1 < copies
      · have k3 : ¬ copies ≤ 1 := by omega
        have n2 : IntKind.i64.wrap (copies - 1) = copies - 1 := IntWalk.i64_in _ ⟨by omega, by omega⟩
        have k4 : ¬ copies - 1 < t := by have := h4 hcc; omega
        clear h3 h4 h1 h2
        go_wp2_with fail
        go_roundg (ts.length - (a + 1))
        case measure => omega
        case rel => exact ⟨a + 1, by omega, rfl, by go_num, rfl⟩
      · have k3 : copies ≤ 1 := by omega
        obtain rfl : t = 0 := h3 (by omega)
        clear h3 h4 h1 h2
        go_wp2_with fail
        go_roundg (ts.length - (a + 1))
        case measure => omega
        case rel => exact ⟨a + 1, by omega, rfl, by go_num, rfl⟩
    · have j2 : ¬ (a : Int) < (ts.length : Int) := by omega
      go_wp2_with fail
      go_loopg [19] az.length (fun gk i w2 => ∃ a : Nat, a ≤ az.length ∧ gk = az.length - a ∧ i = .int .i64 a ∧ w2 = wr)
      case atStart => exact ⟨0, Nat.zero_le _, rfl, rfl, rfl⟩
      case round =>
        obtain ⟨k, hkl, rfl, rfl, rfl⟩ := hrel
        by_cases hl2 : k < az.length
        · have i1 : (0 : Int) ≤ (k : Int) := by omega
          have i2 : (k : Int) < (az.length : Int) := by omega
          obtain ⟨g, cap, e, _, _, hc⟩ := Ha.out.at hl2
          simp only [Value.slice.injEq, true_and] at e
          obtain ⟨rfl, rfl⟩ := e
          obtain ⟨h1, h2, h3⟩ := HA.out k hl2
          generalize az.getD k 0 = t at *
          have k1 : ¬ t < self := by omega
          have k2 : ¬ tot < t := by omega
          by_cases hcc : copies < 1
          · obtain rfl : t = 0 := h3 hcc
            clear h3 h1 h2
            go_wp2_with fail
            go_roundg (az.length - (k + 1))
            case measure => omega
            case rel => exact ⟨k + 1, by omega, rfl, by go_num, rfl⟩
          · clear h3 h1 h2
            go_wp2_with fail
            go_roundg (az.length - (k + 1))
            case measure => omega
            case rel => exact ⟨k + 1, by omega, rfl, by go_num, rfl⟩
        · have i2 : ¬ (k : Int) < (az.length : Int) := by omega
          go_wp2_with fail
          go_ret
          exact ⟨rfl, rfl⟩

/-! ### Bounds -/
def pairW (qT pT : List Int) (an : Int) (i j : Nat) : Int := qT.getD i 0 * pT.getD j 0 * an
def pairSelf (copies : Int) (qS pS qT pT : List Int) (an : Int) (i j : Nat) : Int := if 1 ≤ copies ∧ qS.getD i 0 = pS.getD j 0 then pairW qT pT an i j else 0
def totalB (qS pS qT pT : List Int) (an : Int) : Int := sumN (fun i => sumN (fun j => pairW qT pT an i j) pS.length) qS.length
def selfB (copies : Int) (qS pS qT pT : List Int) (an : Int) : Int := sumN (fun i => sumN (fun j => pairSelf copies qS pS qT pT an i j) pS.length) qS.length
theorem sumN_bound {f : Nat → Int} {M : Int} {n : Nat} (h : ∀ i, i < n → 0 ≤ f i ∧ f i ≤ M) : 0 ≤ sumN f n ∧ sumN f n ≤ n * M := by
  refine ⟨sumN_nonneg fun i hi => (h i hi).1, ?_⟩
  rw [← sumN_const]
  exact sumN_le fun i hi => (h i hi).2
theorem sumN_part {f : Nat → Int} {M : Int} {n a N : Nat} (h : ∀ i, i < n → 0 ≤ f i ∧ f i ≤ M) (ha : a ≤ n) (hn : n ≤ N) (hM : 0 ≤ M) : 0 ≤ sumN f a ∧ sumN f a ≤ N * M := by
  have h1 := sumN_bound (n := a) (M := M) (fun i hi => h i (by omega))
  refine ⟨h1.1, Int.le_trans h1.2 (Int.mul_le_mul_of_nonneg_right (by omega) hM)⟩

set_option maxRecDepth 100000 in
set_option maxHeartbeats 1000000 in
theorem bounds_any (copies an : Int) (qv pv qtv ptv : Value) (qS pS qT pT : List Int) (w : World) (hq : RowAt w w.heap.size .i32 qv qS) (hp : RowAt w w.heap.size .i32 pv pS) (hqt : RowAt w w.heap.size .i64 qtv qT) (hpt : RowAt w w.heap.size .i64 ptv pT)
    (hnq : qS.length ≤ 4096) (hnp : pS.length ≤ 4096) (hlq : qT.length = qS.length) (hlp : pT.length = pS.length)
    (hw : ∀ i j, i < qS.length → j < pS.length → (0 ≤ qT.getD i 0 * pT.getD j 0 ∧ qT.getD i 0 * pT.getD j 0 ≤ 1048576) ∧ 0 ≤ pairW qT pT an i j ∧ pairW qT pT an i j ≤ 68719476736) :
    Calls Try.prog 13 #[.int .i64 copies, qv, pv, qtv, ptv, .int .i64 an] w fun r w' => r = .returned (.tuple #[.int .i64 (selfB copies qS pS qT pT an), .int .i64 (totalB qS pS qT pT an)]) ∧ Below w.heap.size w w' := by
  have Hq := Lib.hid hq
  have Hp := Lib.hid hp
  have Hqt := Lib.hid hqt
  have Hpt := Lib.hid hpt
  have Hw := Lib.hid hw
  obtain ⟨p1, c1, rfl, _⟩ := hq
  obtain ⟨p2, c2, rfl, _⟩ := hp
  obtain ⟨p3, c3, rfl, _⟩ := hqt
  obtain ⟨p4, c4, rfl, _⟩ := hpt
  rw [hlq, hlp]
  clear hw
  have Hs : Hid (∀ i j, i < qS.length → j < pS.length → 0 ≤ pairSelf copies qS pS qT pT an i j ∧ pairSelf copies qS pS qT pT an i j ≤ 68719476736) := fun i j hi hj => by
    have := (Hw.out i j hi hj).2
    unfold pairSelf
    split <;> omega
  obtain ⟨FT, hFT⟩ : ∃ FT : Nat → Nat → Int, FT = fun i a => sumN (fun j => pairW qT pT an i j) a := ⟨_, rfl⟩
  obtain ⟨FS, hFS⟩ : ∃ FS : Nat → Nat → Int, FS = fun i a => sumN (fun j => pairSelf copies qS pS qT pT an i j) a := ⟨_, rfl⟩
  obtain ⟨GT, hGT⟩ : ∃ GT : Nat → Int, GT = fun a => sumN (fun i => FT i pS.length) a := ⟨_, rfl⟩
  obtain ⟨GS, hGS⟩ : ∃ GS : Nat → Int, GS = fun a => sumN (fun i => FS i pS.length) a := ⟨_, rfl⟩
  have hTb : totalB qS pS qT pT an = GT qS.length := by rw [hGT, hFT]; rfl
  have hSb : selfB copies qS pS qT pT an = GS qS.length := by rw [hGS, hFS]; rfl
  have HFT : Hid (∀ i a, i < qS.length → a ≤ pS.length → 0 ≤ FT i a ∧ FT i a ≤ 281474976710656) := fun i a hi ha => by
    rw [hFT]; exact sumN_part (N := 4096) (M := 68719476736) (fun j hj => (Hw.out i j hi hj).2) ha hnp (by omega)
  have HFS : Hid (∀ i a, i < qS.length → a ≤ pS.length → 0 ≤ FS i a ∧ FS i a ≤ 281474976710656) := fun i a hi ha => by
    rw [hFS]; exact sumN_part (N := 4096) (M := 68719476736) (fun j hj => Hs.out i j hi hj) ha hnp (by omega)
  have HGT : Hid (∀ a, a ≤ qS.length → 0 ≤ GT a ∧ GT a ≤ 1152921504606846976) := fun a ha => by
    rw [hGT]; exact sumN_part (N := 4096) (M := 281474976710656) (fun i hi => HFT.out i _ hi (Nat.le_refl _)) ha hnq (by omega)
  have HGS : Hid (∀ a, a ≤ qS.length → 0 ≤ GS a ∧ GS a ≤ 1152921504606846976) := fun a ha => by
    rw [hGS]; exact sumN_part (N := 4096) (M := 281474976710656) (fun i hi => HFS.out i _ hi (Nat.le_refl _)) ha hnq (by omega)
  have HF0 : Hid (∀ i, FT i 0 = 0 ∧ FS i 0 = 0) := fun i => by rw [hFT, hFS]; exact ⟨rfl, rfl⟩
  have HFn : Hid (∀ i a, FT i (a + 1) = FT i a + pairW qT pT an i a ∧ FS i (a + 1) = FS i a + pairSelf copies qS pS qT pT an i a) := fun i a => by rw [hFT, hFS]; exact ⟨rfl, rfl⟩
  have HG0 : Hid (GT 0 = 0 ∧ GS 0 = 0) := by rw [hGT, hGS]; exact ⟨rfl, rfl⟩
  have HGn : Hid (∀ a, GT (a + 1) = GT a + FT a pS.length ∧ GS (a + 1) = GS a + FS a pS.length) := fun a => by rw [hGT, hGS]; exact ⟨rfl, rfl⟩
  rw [hTb, hSb]
  clear hFT hFS hGT hGS hTb hSb
  go_enter Try.func13, Try.ntmps13
  go_wp2_with fail
  go_loopg [14, 15, 16] qS.length (fun gk s t i wr => ∃ a : Nat, a ≤ qS.length ∧ gk = qS.length - a ∧ i = .int .i64 a ∧ s = .int .i64 (GS a) ∧ t = .int .i64 (GT a) ∧ Hid (Below w.heap.size w wr))
  case atStart => exact ⟨0, Nat.zero_le _, rfl, rfl, by rw [HG0.out.2], by rw [HG0.out.1], Below.refl _ _⟩
  case round =>
    obtain ⟨i, hil, rfl, rfl, rfl, rfl, Hi⟩ := hrel
    by_cases hl : i < qS.length
    · have i1 : (0 : Int) ≤ (i : Int) := by omega
      have i2 : (i : Int) < (qS.length : Int) := by omega
      go_wp2_with fail
      go_loopg [14, 15, 17] pS.length (fun gk s t j wx => ∃ b : Nat, b ≤ pS.length ∧ gk = pS.length - b ∧ j = .int .i64 b ∧ s = .int .i64 (GS i + FS i b) ∧ t = .int .i64 (GT i + FT i b) ∧ Hid (Below w.heap.size w wx))
      case atStart => exact ⟨0, Nat.zero_le _, rfl, rfl, by rw [(HF0.out i).2, Int.add_zero], by rw [(HF0.out i).1, Int.add_zero], Hi.out⟩
      case round =>
        clear Hi
        obtain ⟨b, hbl, rfl, rfl, rfl, rfl, Hb⟩ := hrel
        by_cases hlb : b < pS.length
        · have k1 : (0 : Int) ≤ (b : Int) := by omega
          have k2 : (b : Int) < (pS.length : Int) := by omega
          obtain ⟨g1, cap1, e1, h11, h12, hc1⟩ := Hq.out.at hl
          simp only [Value.slice.injEq, true_and] at e1
          obtain ⟨rfl, rfl⟩ := e1
          obtain ⟨g2, cap2, e2, h21, h22, hc2⟩ := Hp.out.at hlb
          simp only [Value.slice.injEq, true_and] at e2
          obtain ⟨rfl, rfl⟩ := e2
          obtain ⟨g3, cap3, e3, h31, h32, hc3⟩ := Hqt.out.at (i := i) (by omega)
          simp only [Value.slice.injEq, true_and] at e3
          obtain ⟨rfl, rfl⟩ := e3
          obtain ⟨g4, cap4, e4, h41, h42, hc4⟩ := Hpt.out.at (i := b) (by omega)
          simp only [Value.slice.injEq, true_and] at e4
          obtain ⟨rfl, rfl⟩ := e4
          have d1 := (Hb.out.cell (p := ⟨g1, i, none⟩) h12).trans hc1
          have d2 := (Hb.out.cell (p := ⟨g2, b, none⟩) h22).trans hc2
          have d3 := (Hb.out.cell (p := ⟨g3, i, none⟩) h32).trans hc3
          have d4 := (Hb.out.cell (p := ⟨g4, b, none⟩) h42).trans hc4
          obtain ⟨⟨w1, w2⟩, w3, w4⟩ := Hw.out i b hl hlb
          obtain ⟨s1, s2⟩ := Hs.out i b hl hlb
          obtain ⟨t1, t2⟩ := HGT.out i (by omega)
          obtain ⟨t3, t4⟩ := HGS.out i (by omega)
          obtain ⟨t5, t6⟩ := HFT.out i b hl hbl
          obtain ⟨t7, t8⟩ := HFS.out i b hl hbl
          have Hnx := Lib.hid (HFn.out i b)
          have hpw : pairW qT pT an i b = qT.getD i 0 * pT.getD b 0 * an := rfl
          have hps : pairSelf copies qS pS qT pT an i b = if 1 ≤ copies ∧ qS.getD i 0 = pS.getD b 0 then pairW qT pT an i b else 0 := rfl
          generalize pairW qT pT an i b = pw at *
          generalize pairSelf copies qS pS qT pT an i b = psf at *
          generalize qT.getD i 0 = wq at *
          generalize pT.getD b 0 = wp at *
          generalize qS.getD i 0 = xq at *
          generalize pS.getD b 0 = xp at *
          generalize GT i = gt at *
          generalize GS i = gs at *
          generalize FT i b = ft at *
          generalize FS i b = fs at *
          have n1 : IntKind.i64.wrap (wq * wp) = wq * wp := IntWalk.i64_in _ ⟨by omega, by omega⟩
          have n2 : IntKind.i64.wrap (wq * wp * an) = pw := by rw [← hpw]; exact IntWalk.i64_in _ ⟨by omega, by omega⟩
          have n3 : IntKind.i64.wrap (gt + ft + pw) = gt + (ft + pw) := by rw [← Int.add_assoc]; exact IntWalk.i64_in _ ⟨by omega, by omega⟩
          have n4 : IntKind.i64.wrap (gs + fs + pw) = gs + (fs + pw) := by rw [← Int.add_assoc]; exact IntWalk.i64_in _ ⟨by omega, by omega⟩
          have hbr : Below wr.heap.size wr wr := Below.refl _ _
          clear hc1 hc2 hc3 hc4 w1 w2 w3 w4 t1 t2 t3 t4 t5 t6 t7 t8 s1 s2 hpw hbr
          by_cases hcp : 1 ≤ copies
          · by_cases heq : xq = xp
            · rw [if_pos ⟨hcp, heq⟩] at hps
              subst hps heq
              go_wp2_with fail
              go_region_held3 (fun z => z.cell? ⟨g1, i, none⟩ = some (.int .i32 xq) ∧ z.cell? ⟨g2, b, none⟩ = some (.int .i32 xq) ∧ z.cell? ⟨g3, i, none⟩ = some (.int .i64 wq) ∧ z.cell? ⟨g4, b, none⟩ = some (.int .i64 wp)) (exact ⟨d1, d2, d3, d4⟩) (fail)
              go_wp2_with fail
              go_region_held3 (fun z => z.cell? ⟨g1, i, none⟩ = some (.int .i32 xq) ∧ z.cell? ⟨g2, b, none⟩ = some (.int .i32 xq) ∧ z.cell? ⟨g3, i, none⟩ = some (.int .i64 wq) ∧ z.cell? ⟨g4, b, none⟩ = some (.int .i64 wp)) (exact ⟨d1, d2, d3, d4⟩) (fail)
              go_wp2_with fail
              go_roundg (pS.length - (b + 1))
              case measure => omega
              case rel => exact ⟨b + 1, by omega, rfl, by go_num, by rw [Hnx.out.2], by rw [Hnx.out.1], Hb.out.trans ⟨rfl, rfl, rfl, Nat.le_refl _, fun _ _ => rfl⟩⟩
            · rw [if_neg (fun h => heq h.2)] at hps
              subst hps
              go_wp2_with fail
              go_region_held3 (fun z => z.cell? ⟨g1, i, none⟩ = some (.int .i32 xq) ∧ z.cell? ⟨g2, b, none⟩ = some (.int .i32 xp) ∧ z.cell? ⟨g3, i, none⟩ = some (.int .i64 wq) ∧ z.cell? ⟨g4, b, none⟩ = some (.int .i64 wp)) (exact ⟨d1, d2, d3, d4⟩) (fail)
              go_wp2_with fail
              go_region_held3 (fun z => z.cell? ⟨g1, i, none⟩ = some (.int .i32 xq) ∧ z.cell? ⟨g2, b, none⟩ = some (.int .i32 xp) ∧ z.cell? ⟨g3, i, none⟩ = some (.int .i64 wq) ∧ z.cell? ⟨g4, b, none⟩ = some (.int .i64 wp)) (exact ⟨d1, d2, d3, d4⟩) (fail)
              go_wp2_with fail
              go_roundg (pS.length - (b + 1))
              case measure => omega
              case rel => exact ⟨b + 1, by omega, rfl, by go_num, by rw [Hnx.out.2, Int.add_zero], by rw [Hnx.out.1], Hb.out.trans ⟨rfl, rfl, rfl, Nat.le_refl _, fun _ _ => rfl⟩⟩
          · rw [if_neg (fun h => hcp h.1)] at hps
            subst hps
            have hcp' : decide ((1 : Int) ≤ copies) = false := decide_eq_false hcp
            clear hcp
            go_wp2_with fail
            go_region_held3 (fun z => z.cell? ⟨g1, i, none⟩ = some (.int .i32 xq) ∧ z.cell? ⟨g2, b, none⟩ = some (.int .i32 xp) ∧ z.cell? ⟨g3, i, none⟩ = some (.int .i64 wq) ∧ z.cell? ⟨g4, b, none⟩ = some (.int .i64 wp)) (exact ⟨d1, d2, d3, d4⟩) (fail)
            go_wp2_with fail
            go_quiet (fail)
            go_wp2_with fail
            go_roundg (pS.length - (b + 1))
            case measure => omega
            case rel => exact ⟨b + 1, by omega, rfl, by go_num, by rw [Hnx.out.2, Int.add_zero], by rw [Hnx.out.1], Hb.out.trans ⟨rfl, rfl, rfl, Nat.le_refl _, fun _ _ => rfl⟩⟩
        · have k2 : ¬ (b : Int) < (pS.length : Int) := by omega
          obtain rfl : b = pS.length := by omega
          have hg := HGn.out i
          go_wp2_with fail
          go_roundg (qS.length - (i + 1))
          case measure => omega
          case rel => exact ⟨i + 1, by omega, rfl, by go_num, by rw [(HGn.out i).2], by rw [(HGn.out i).1], Hb.out⟩
    · have i2 : ¬ (i : Int) < (qS.length : Int) := by omega
      obtain rfl : i = qS.length := by omega
      go_wp2_with fail
      go_ret2
      exact ⟨rfl, Hi.out⟩
end Go.Proofs.Qxb6612920a.spray
