import Derived.Test.Qxb6612920aDomain
import Derived.Deep.Slices
import Derived.ChangeReads
namespace Go.Proofs.Qxb6612920a.spray
open Go.RowKit Go.PlainAid Go.Deep

section
variable {H : Type} {enc : TypeId × Value → H} {W : World} {base : Nat} {held : Bool}

theorem wf32 {x : Int} (h : (Lit.int .i32 x).wf = true) : -2147483648 ≤ x ∧ x ≤ 2147483647 := by
  have e1 : IntKind.i32.min = -2147483648 := by decide
  have e2 : IntKind.i32.max = 2147483647 := by decide
  simp [Lit.wf] at h
  omega
theorem trod_int32 {n : Nat} {cs : List Value} {y : DataW H × List MemPlace} (h : DataW.trod enc Try.prog W base (fun _ => true) held n 21 cs = some y) : ∃ x : Int, cs = [.int .i32 x] ∧ -2147483648 ≤ x ∧ x ≤ 2147483647 := by
  cases n with
  | zero => simp [DataW.trod] at h
  | succ n =>
    rw [DataW.trod_step] at h
    unfold DataW.trodStep at h
    rw [Try.underlying21] at h
    match cs, h with
    | [.int k' x], h =>
      simp only at h
      split at h
      · rename_i hc
        obtain ⟨rfl, hw⟩ := hc
        exact ⟨x, rfl, wf32 hw⟩
      · simp at h
theorem cells44 : Try.prog.cellsOf 44 = 2 := by kernel_rfl
theorem cells43 : Try.prog.cellsOf 43 = 1 := by kernel_rfl
theorem cells21 : Try.prog.cellsOf 21 = 1 := by kernel_rfl
theorem trod_pair {n : Nat} {cs : List Value} {y : DataW H × List MemPlace} (h : DataW.trod enc Try.prog W base (fun _ => true) held n 44 cs = some y) : ∃ x z : Int, cs = [.int .i32 x, .int .i32 z] ∧ -2147483648 ≤ z ∧ z ≤ 2147483647 := by
  cases n with
  | zero => simp [DataW.trod] at h
  | succ n =>
    rw [DataW.trod_step] at h
    unfold DataW.trodStep at h
    rw [Try.underlying44] at h
    simp only at h
    split at h
    · rename_i hl
      rw [cells44] at hl
      obtain ⟨u, v, rfl⟩ : ∃ u v, cs = [u, v] := by
        match cs, hl with
        | [u, v], _ => exact ⟨u, v, rfl⟩
      rw [cells21] at h
      simp only [Option.map_eq_some_iff] at h
      obtain ⟨ys, hy, _⟩ := h
      have h0 := mapM_some_get hy 0 0 (by simp)
      have h1 := mapM_some_get hy 1 1 (by simp)
      have hlen := mapM_some_length hy
      simp at hlen
      obtain ⟨y0, hy0⟩ : ∃ y0, ys[0]? = some y0 := ⟨ys[0], by simp [hlen]⟩
      obtain ⟨y1, hy1⟩ : ∃ y1, ys[1]? = some y1 := ⟨ys[1], by simp [hlen]⟩
      rw [hy0] at h0
      rw [hy1] at h1
      obtain ⟨x, hx, _⟩ := trod_int32 h0
      obtain ⟨z, hz, hr⟩ := trod_int32 h1
      simp at hx hz
      subst hx hz
      exact ⟨x, z, rfl, hr⟩
    · simp at h

theorem open_pairs {n : Nat} {v : Value} {y : DataW H × List MemPlace} (h : DataW.trod enc Try.prog W base (fun _ => true) held n 43 [v] = some y) : ∃ ps, InPairs W v ps ∧ ∀ k, -2147483648 ≤ (ps.getD k (0, 0)).2 ∧ (ps.getD k (0, 0)).2 ≤ 2147483647 := by
  rcases open_slice Try.underlying43 h with ⟨hcs, _⟩ | ⟨a, len, cap, m, n', D, Pl, hcs, _, hl, hm, hmm, _, hel⟩
  · simp at hcs
    subst hcs
    exact ⟨[], ⟨none, 0, rfl, fun _ => ⟨rfl, rfl⟩, Or.inl rfl⟩, fun k => by simp⟩
  · simp at hcs hmm
    subst hcs hmm
    rw [cells44] at hel
    have key : ∀ i, ∃ xz : Int × Int, i < len → W.cell? ((a.add (i * 2)).add 0) = some (.int .i32 xz.1) ∧ W.cell? ((a.add (i * 2)).add 1) = some (.int .i32 xz.2) ∧ -2147483648 ≤ xz.2 ∧ xz.2 ≤ 2147483647 := by
      intro i
      by_cases hi : i < len
      · obtain ⟨cs', h1, h2⟩ := hel i (by omega)
        obtain ⟨_, hlen, hc⟩ := World.cells?_some h1
        obtain ⟨x, z, rfl, hr⟩ := trod_pair h2
        exact ⟨(x, z), fun _ => ⟨hc 0 (by omega), hc 1 (by omega), hr⟩⟩
      · exact ⟨(0, 0), fun h => absurd h hi⟩
    obtain ⟨F, hF⟩ : ∃ F : Nat → Int × Int, ∀ i, i < len → W.cell? ((a.add (i * 2)).add 0) = some (.int .i32 (F i).1) ∧ W.cell? ((a.add (i * 2)).add 1) = some (.int .i32 (F i).2) ∧ -2147483648 ≤ (F i).2 ∧ (F i).2 ≤ 2147483647 := ⟨fun i => (key i).choose, fun i => (key i).choose_spec⟩
    have hget : ∀ i, i < len → ((List.range len).map F).getD i (0, 0) = F i := fun i hi => by simp [List.getD, hi]
    refine ⟨(List.range len).map F, ⟨some a, m, by simp, (fun e => by cases e), ?_⟩, fun k => ?_⟩
    · by_cases h0 : len = 0
      · left; subst h0; rfl
      · right
        have hsp : a.spot = none := by
          have h1 := World.cell?_spot (hF 0 (by omega)).1
          simpa [Addr.add] using h1
        obtain ⟨b, o, sp⟩ := a
        simp only at hsp
        subst hsp
        refine ⟨b, o, rfl, ?_, fun i hi => ?_⟩
        · have h1 := World.block_lt_of_cell? _ _ (hF 0 (by omega)).1
          simpa [Addr.add] using h1
        · have hi' : i < len := by simpa using hi
          have h1 := hF i hi'
          rw [add_off, add_off, add_off] at h1
          rw [hget i hi']
          exact ⟨h1.1, h1.2.1⟩
    · by_cases hk : k < len
      · rw [hget k hk]; exact (hF k hk).2.2
      · rw [List.getD_eq_getElem?_getD, List.getElem?_eq_none (by simp; omega)]; simp

theorem open_chg {v : Value} {d : DataW H} {p : List MemPlace} (h : DataW.Trod enc Try.prog W base (fun _ => true) held 23 v d p) {a : Option Addr} {len cap : Nat} (hv : v = .slice a len cap) : ∃ cs, InChg W v cs ∧ (∀ s k, -2147483648 ≤ ((cs.getD s []).getD k (0, 0)).2 ∧ ((cs.getD s []).getD k (0, 0)).2 ≤ 2147483647) ∧ cs.length ≤ 9223372036854775807 := by
  obtain ⟨fuel, hf⟩ := h
  subst hv
  rcases open_slice1 Try.underlying23 cells43 hf with ⟨hcs, _⟩ | ⟨a, len, cap, m, n', V, D, Pl, hcs, _, hl, hm, hmm, _, hel⟩
  · simp [Value.cells] at hcs
    obtain ⟨rfl, rfl, rfl⟩ := hcs
    exact ⟨[], ⟨none, 0, rfl, fun _ => ⟨rfl, rfl⟩, Or.inl rfl⟩, fun s k => by simp, by simp⟩
  · simp [Value.cells] at hcs
    simp at hmm
    obtain ⟨rfl, rfl, rfl⟩ := hcs
    subst hmm
    have key : ∀ i, ∃ ps : List (Int × Int), (i < len → InPairs W (V i) ps) ∧ ∀ k, -2147483648 ≤ (ps.getD k (0, 0)).2 ∧ (ps.getD k (0, 0)).2 ≤ 2147483647 := by
      intro i
      by_cases hi : i < len
      · obtain ⟨ps, h1, h2⟩ := open_pairs (hel i (by omega)).2
        exact ⟨ps, fun _ => h1, h2⟩
      · exact ⟨[], fun h => absurd h hi, fun k => by simp⟩
    obtain ⟨F, hF⟩ : ∃ F : Nat → List (Int × Int), ∀ i, (i < len → InPairs W (V i) (F i)) ∧ ∀ k, -2147483648 ≤ ((F i).getD k (0, 0)).2 ∧ ((F i).getD k (0, 0)).2 ≤ 2147483647 := ⟨fun i => (key i).choose, fun i => (key i).choose_spec⟩
    have hget : ∀ i, i < len → ((List.range len).map F).getD i [] = F i := fun i hi => by simp [List.getD, hi]
    refine ⟨(List.range len).map F, ⟨some a, m, by simp, (fun e => by cases e), ?_⟩, fun s k => ?_, ?_⟩
    · by_cases h0 : len = 0
      · left; subst h0; rfl
      · right
        have c0 := (hel 0 (by omega)).1
        have hsp : a.spot = none := by
          have h1 := World.cell?_spot c0
          simpa [Addr.add] using h1
        obtain ⟨b, o, sp⟩ := a
        simp only at hsp
        subst hsp
        refine ⟨b, o, rfl, ?_, fun i hi => ?_⟩
        · have h1 := World.block_lt_of_cell? _ _ c0
          simpa [Addr.add] using h1
        · have hi' : i < len := by simpa using hi
          have h1 := (hel i (by omega)).1
          rw [add_off] at h1
          rw [hget i hi']
          exact ⟨V i, h1, (hF i).1 hi'⟩
    · by_cases hs : s < len
      · rw [hget s hs]; exact (hF s).2 k
      · have e : ((List.range len).map F).getD s [] = [] := by rw [List.getD_eq_getElem?_getD, List.getElem?_eq_none (by simp; omega)]; rfl
        rw [e]; simp
    · have : len ≤ maxLen := Nat.le_trans hl hm
      unfold maxLen at this
      simpa using (by omega : len ≤ 9223372036854775807)
/-- a row of numbers that came in -/
theorem in_nil (q : IntKind) : InAt W q (.slice none 0 0) [] := ⟨none, 0, rfl, fun _ => ⟨rfl, rfl⟩, Or.inl rfl⟩
theorem in_row {q : IntKind} {a : Addr} {len cap : Nat} {zs : List Int} (hl : len ≤ zs.length) (hc : ∀ i, i < zs.length → W.cell? (a.add i) = some (.int q (zs.getD i 0))) : InAt W q (.slice (some a) len cap) (zs.take len) := by
  have hlen : (zs.take len).length = len := by simp; omega
  refine ⟨some a, cap, by rw [hlen], (fun e => by cases e), ?_⟩
  by_cases h0 : len = 0
  · left; subst h0; simp
  · right
    have c0 := hc 0 (by omega)
    have hsp : a.spot = none := by
      have h1 := World.cell?_spot c0
      simpa [Addr.add] using h1
    obtain ⟨b, o, sp⟩ := a
    simp only at hsp
    subst hsp
    refine ⟨b, o, rfl, ?_, fun i hi => ?_⟩
    · have h1 := World.block_lt_of_cell? _ _ c0
      simpa [Addr.add] using h1
    · have h1 := hc i (by omega)
      rw [add_off] at h1
      rw [h1]
      have hi' : i < len := by omega
      simp [List.getD, hi']
theorem r32_take {zs : List Int} {len : Nat} (h : ∀ n ∈ zs, (Lit.int .i32 n).wf = true) : R32 (zs.take len) := by
  intro i
  by_cases hi : i < (zs.take len).length
  · have e : (zs.take len).getD i 0 = (zs.take len)[i] := by rw [List.getD_eq_getElem?_getD, List.getElem?_eq_getElem hi]; rfl
    rw [e]
    exact wf32 (h _ (List.mem_of_mem_take (List.getElem_mem hi)))
  · rw [List.getD_eq_getElem?_getD, List.getElem?_eq_none (by omega)]; simp
end
end Go.Proofs.Qxb6612920a.spray
