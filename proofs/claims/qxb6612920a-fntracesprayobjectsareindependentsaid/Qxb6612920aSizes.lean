import Derived.Test.Qxb6612920aClones
namespace Go.Proofs.Qxb6612920a.spray
open Go.RowKit Go.PlainAid

theorem InAt.at {w : World} {q : IntKind} {v : Value} {zs : List Int} (h : InAt w q v zs) {i : Nat} (hi : i < zs.length) : ∃ g o cap, v = .slice (some ⟨g, o, none⟩) zs.length cap ∧ g < w.heap.size ∧ w.cell? ⟨g, o + i, none⟩ = some (.int q (zs.getD i 0)) := by
  obtain ⟨p, cap, rfl, _, h⟩ := h
  rcases h with h | ⟨g, o, rfl, h1, h2⟩
  · rw [h] at hi; simp at hi
  · exact ⟨g, o, cap, rfl, h1, h2 i hi⟩
theorem InChg.at {w : World} {v : Value} {cs : List (List (Int × Int))} (h : InChg w v cs) {i : Nat} (hi : i < cs.length) : ∃ g o cap rv, v = .slice (some ⟨g, o, none⟩) cs.length cap ∧ g < w.heap.size ∧ w.cell? ⟨g, o + i, none⟩ = some rv ∧ InPairs w rv (cs.getD i []) := by
  obtain ⟨p, cap, rfl, _, h⟩ := h
  rcases h with h | ⟨g, o, rfl, h1, h2⟩
  · rw [h] at hi; simp at hi
  · obtain ⟨rv, h3, h4⟩ := h2 i hi
    exact ⟨g, o, cap, rv, rfl, h1, h3, h4⟩
theorem InPairs.at {w : World} {v : Value} {ps : List (Int × Int)} (h : InPairs w v ps) {i : Nat} (hi : i < ps.length) : ∃ g o cap, v = .slice (some ⟨g, o, none⟩) ps.length cap ∧ g < w.heap.size ∧ w.cell? ⟨g, o + i * 2, none⟩ = some (.int .i32 (ps.getD i (0, 0)).1) ∧ w.cell? ⟨g, o + i * 2 + 1, none⟩ = some (.int .i32 (ps.getD i (0, 0)).2) := by
  obtain ⟨p, cap, rfl, _, h⟩ := h
  rcases h with h | ⟨g, o, rfl, h1, h2⟩
  · rw [h] at hi; simp at hi
  · exact ⟨g, o, cap, rfl, h1, (h2 i hi).1, (h2 i hi).2⟩

/-- some bool is answered; old memory is as it was; where the answer is true F holds -/
def Said (w : World) (F : Prop) (r : Ending) (w' : World) : Prop := ∃ b : Bool, r = .returned (.bool b) ∧ Below w.heap.size w w' ∧ (b = true → F)
theorem said_no {w w' : World} {F : Prop} {r : Ending} (h : Below w.heap.size w w') (hr : r = .returned (.bool false)) : Said w F r w' := ⟨false, hr, h, fun e => by cases e⟩
theorem said_yes {w w' : World} {F : Prop} {r : Ending} (h : Below w.heap.size w w') (hF : F) (hr : r = .returned (.bool true)) : Said w F r w' := ⟨true, hr, h, fun _ => hF⟩

set_option maxRecDepth 100000 in
set_option maxHeartbeats 4000000 in
theorem bytes_any (copies f e n : Int) (p1 p2 p4 p5 p6 p7 p8 : Option Addr) (l1 l2 l4 l5 l6 l7 l8 c1 c2 c4 c5 c6 c7 c8 : Nat) (cv : Value) (cs : List (List (Int × Int))) (w : World) (hcs : InChg w cv cs) (hl : cs.length ≤ 9223372036854775807) :
    Calls Try.prog 4 #[.int .i64 copies, .slice p1 l1 c1, .slice p2 l2 c2, cv, .slice p4 l4 c4, .slice p5 l5 c5, .slice p6 l6 c6, .slice p7 l7 c7, .int .i64 f, .int .i64 e, .int .i64 n, .slice p8 l8 c8] w (Said w True) := by
  have Hcs := Lib.hid hcs
  obtain ⟨pc, cc, rfl, _⟩ := hcs
  go_enter Try.func4, Try.ntmps4
  go_wp2_with fail
  all_goals try (go_ret; first | exact said_no (Below.refl _ _) rfl | exact said_yes (Below.refl _ _) trivial rfl)
  go_loopg [25, 26] cs.length (fun gk z i wr => ∃ (a : Nat) (y : Int), a ≤ cs.length ∧ gk = cs.length - a ∧ i = .int .i64 a ∧ z = .int .i64 y ∧ 0 ≤ y ∧ y ≤ 1048576 ∧ wr = w)
  case atStart => exact ⟨0, _, Nat.zero_le _, rfl, rfl, rfl, by omega, by omega, rfl⟩
  case round =>
    obtain ⟨a, y, hal, rfl, rfl, rfl, hy0, hy1, rfl⟩ := hrel
    by_cases hlt : a < cs.length
    · have j1 : (0 : Int) ≤ (a : Int) := by omega
      have j2 : (a : Int) < (cs.length : Int) := by omega
      obtain ⟨g, o, cap, rv, e1, hg, hc, hpr⟩ := Hcs.out.at hlt
      simp only [Value.slice.injEq, true_and] at e1
      obtain ⟨rfl, rfl⟩ := e1
      obtain ⟨p, cap, rfl, _⟩ := hpr
      generalize (cs.getD a []).length = ln at *
      go_wp2_with fail
      all_goals try (go_ret; first | exact said_no (Below.refl _ _) rfl | exact said_yes (Below.refl _ _) trivial rfl)
      go_roundg (cs.length - (a + 1))
      case measure => omega
      case rel => exact ⟨a + 1, _, by omega, rfl, by go_num, rfl, by omega, by omega, rfl⟩
    · have j2 : ¬ (a : Int) < (cs.length : Int) := by omega
      go_wp2_with fail
      all_goals try (go_ret; first | exact said_no (Below.refl _ _) rfl | exact said_yes (Below.refl _ _) trivial rfl)

def sumLen (cs : List (List (Int × Int))) : Nat → Nat
  | 0 => 0
  | s + 1 => sumLen cs s + (cs.getD s []).length
set_option maxRecDepth 100000 in
set_option maxHeartbeats 4000000 in
theorem size_any (p1 p2 p4 p5 p6 p7 p8 : Option Addr) (l1 l2 l4 l5 l6 l7 l8 c1 c2 c4 c5 c6 c7 c8 : Nat) (cv : Value) (cs : List (List (Int × Int))) (w : World) (hcs : InChg w cv cs) :
    Calls Try.prog 5 #[.slice p1 l1 c1, .slice p2 l2 c2, cv, .slice p4 l4 c4, .slice p5 l5 c5, .slice p6 l6 c6, .slice p7 l7 c7, .slice p8 l8 c8] w (Said w (l1 ≤ 131072 ∧ l2 ≤ 131072 ∧ l4 ≤ 262144 ∧ l5 ≤ 262144 ∧ l6 ≤ 131072 ∧ l7 ≤ 131072 ∧ l8 ≤ 131072 ∧ cs.length ≤ 43690 ∧ (∀ s, s < cs.length → (cs.getD s []).length ≤ 131072) ∧ sumLen cs cs.length ≤ 131072)) := by
  have Hcs := Lib.hid hcs
  obtain ⟨pc, cc, rfl, _⟩ := hcs
  go_enter Try.func5, Try.ntmps5
  go_wp2_with fail
  all_goals try (go_ret; exact said_no (Below.refl _ _) rfl)
  have Hlens : Hid (l1 ≤ 131072 ∧ l2 ≤ 131072 ∧ l4 ≤ 262144 ∧ l5 ≤ 262144 ∧ l6 ≤ 131072 ∧ l7 ≤ 131072 ∧ l8 ≤ 131072 ∧ cs.length ≤ 43690) := by
    refine ⟨?_, ?_, ?_, ?_, ?_, ?_, ?_, ?_⟩ <;> omega
  go_loopg [17, 18] cs.length (fun gk z i wr => ∃ (a : Nat) (y : Int), a ≤ cs.length ∧ gk = cs.length - a ∧ i = .int .i64 a ∧ z = .int .i64 y ∧ 0 ≤ y ∧ y ≤ 1048576 ∧ wr = w ∧ Hid (8 * (sumLen cs a : Int) ≤ y ∧ ∀ s, s < a → (cs.getD s []).length ≤ 131072))
  case atStart => exact ⟨0, _, Nat.zero_le _, rfl, rfl, rfl, by omega, by omega, rfl, by show 8 * ((0 : Nat) : Int) ≤ _; omega, fun s hs => by omega⟩
  case round =>
    obtain ⟨a, y, hal, rfl, rfl, rfl, hy0, hy1, rfl, Hy⟩ := hrel
    by_cases hlt : a < cs.length
    · have j1 : (0 : Int) ≤ (a : Int) := by omega
      have j2 : (a : Int) < (cs.length : Int) := by omega
      obtain ⟨g, o, cap, rv, e1, hg, hc, hpr⟩ := Hcs.out.at hlt
      simp only [Value.slice.injEq, true_and] at e1
      obtain ⟨rfl, rfl⟩ := e1
      obtain ⟨p, cap, rfl, _⟩ := hpr
      have Hs : Hid (sumLen cs (a + 1) = sumLen cs a + (cs.getD a []).length) := rfl
      have Hs2 : Hid ((cs.getD a []).length = (cs.getD a []).length) := rfl
      obtain ⟨ln, hln⟩ : ∃ ln, (cs.getD a []).length = ln := ⟨_, rfl⟩
      rw [hln] at hc Hs
      have Hln := Lib.hid hln
      clear hln Hs2
      go_wp2_with fail
      all_goals try (go_ret; exact said_no (Below.refl _ _) rfl)
      go_roundg (cs.length - (a + 1))
      case measure => omega
      case rel =>
        refine ⟨a + 1, _, by omega, rfl, by go_num, rfl, by omega, by omega, rfl, ?_, fun s hs => ?_⟩
        · have := Hy.out.1
          rw [Hs.out]; omega
        · by_cases e : s = a
          · subst e; rw [Hln.out]; omega
          · exact Hy.out.2 s (by omega)
    · have j2 : ¬ (a : Int) < (cs.length : Int) := by omega
      obtain rfl : a = cs.length := by omega
      go_wp2_with fail
      go_ret
      obtain ⟨b1, b2, b3, b4, b5, b6, b7, b8⟩ := Hlens.out
      exact said_yes (Below.refl _ _) ⟨b1, b2, b3, b4, b5, b6, b7, b8, Hy.out.2, by have := Hy.out.1; omega⟩ rfl
end Go.Proofs.Qxb6612920a.spray
