import Derived.Test.Qxb6612920aObjs
namespace Go.Proofs.Qxb6612920a.spray
open Go.RowKit Go.PlainAid

/-! ### Plain: the numbers of a progression -/
def ceilF (a b : Int) : Int := if a % b = 0 then a / b else a / b + 1
def belowF (f e n k : Int) : Int := if k ≤ f then 0 else min n (ceilF (k - f) e)
def withinF (f e n lo hi : Int) : Int := if hi ≤ lo then 0 else belowF f e n hi - belowF f e n lo

theorem ceil_nonneg {a b : Int} (ha : 0 ≤ a) (hb : 1 ≤ b) : 0 ≤ ceilF a b ∧ ceilF a b ≤ a := by
  have h1 : 0 ≤ a / b := Int.ediv_nonneg ha (by omega)
  have h3 := Int.mul_ediv_add_emod a b
  have h4 := Int.emod_nonneg a (show b ≠ 0 by omega)
  have h5 : a / b ≤ b * (a / b) := by
    have := Int.mul_le_mul_of_nonneg_right hb h1
    omega
  unfold ceilF
  split
  · omega
  · omega
theorem ceil_mono {a a' b : Int} (hb : 1 ≤ b) (h : a ≤ a') : ceilF a b ≤ ceilF a' b := by
  have h1 : a / b ≤ a' / b := Int.ediv_le_ediv (by omega) h
  unfold ceilF
  split
  · split <;> omega
  · split
    · rename_i n1 n2
      by_cases e : a / b = a' / b
      · have h3 := Int.mul_ediv_add_emod a b
        have h4 := Int.mul_ediv_add_emod a' b
        have h5 := Int.emod_nonneg a (show b ≠ 0 by omega)
        rw [e] at h3
        omega
      · omega
    · omega
theorem below_bounds {f e n k : Int} (he : 1 ≤ e) (hn : 0 ≤ n) : 0 ≤ belowF f e n k ∧ belowF f e n k ≤ n := by
  unfold belowF
  split
  · omega
  · have := (ceil_nonneg (a := k - f) (by omega) he).1
    omega
theorem below_mono {f e n k k' : Int} (he : 1 ≤ e) (hn : 0 ≤ n) (h : k ≤ k') : belowF f e n k ≤ belowF f e n k' := by
  have h0 := (below_bounds (f := f) (k := k') he hn).1
  unfold belowF at *
  split
  · exact h0
  · rw [if_neg (by omega)]
    have := ceil_mono (a := k - f) (a' := k' - f) he (by omega)
    omega
theorem within_bounds {f e n lo hi from' : Int} (he : 1 ≤ e) (hn : 0 ≤ n) (h : from' ≤ lo) (h2 : from' ≤ hi) : 0 ≤ withinF f e n lo hi ∧ withinF f e n lo hi ≤ belowF f e n hi - belowF f e n from' := by
  unfold withinF
  split
  · have := below_mono (f := f) he hn h2
    omega
  · have h3 := below_mono (f := f) he hn h
    have h4 := below_mono (f := f) (k := lo) (k' := hi) he hn (by omega)
    omega

/-! ### The walks -/
theorem ceilDiv_any (a b : Int) (w : World) (ha : 0 ≤ a) (ha' : a ≤ 9223372036854775807) (hb : 1 ≤ b) (hb' : b ≤ 9223372036854775807) :
    Calls Try.prog 32 #[.int .i64 a, .int .i64 b] w fun e w' => e = .returned (.int .i64 (ceilF a b)) ∧ w' = w := by
  have hb1 := ceil_nonneg ha hb
  have hd0 : 0 ≤ a / b := Int.ediv_nonneg ha (by omega)
  by_cases hm : a % b = 0
  · have e : ceilF a b = a / b := if_pos hm
    have hm' : (a % b != 0) = false := by simp [hm]
    go_enter Try.func32, Try.ntmps32
    go_wp2_with fail
    go_ret
    exact ⟨by rw [e]; rfl, rfl⟩
  · have e : ceilF a b = a / b + 1 := if_neg hm
    have hm' : (a % b != 0) = true := by simp [hm]
    rw [e] at hb1
    have n1 : IntKind.i64.wrap (a / b + 1) = a / b + 1 := IntWalk.i64_in _ ⟨by omega, by omega⟩
    go_enter Try.func32, Try.ntmps32
    go_wp2_with fail
    go_ret
    exact ⟨by rw [e]; rfl, rfl⟩

set_option maxRecDepth 100000 in
set_option maxHeartbeats 4000000 in
theorem below_any (f e n k : Int) (w : World) (hf : 0 ≤ f ∧ f ≤ 1099511627776) (he : 1 ≤ e ∧ e ≤ 1099511627776) (hk : 0 ≤ k ∧ k ≤ 9223372036854775807) :
    Calls Try.prog 29 #[.agg #[.int .i64 f, .int .i64 e, .int .i64 n], .int .i64 k] w fun r w' => r = .returned (.int .i64 (belowF f e n k)) ∧ Below w.heap.size w w' := by
  by_cases hkf : k ≤ f
  · have e : belowF f e n k = 0 := if_pos hkf
    go_enter Try.func29, Try.ntmps29
    go_wp2_with fail
    go_ret
    exact ⟨by rw [e]; rfl, (Below.refl _ _).alloc (Nat.le_refl _) _⟩
  · have e0 : belowF f e n k = min n (ceilF (k - f) e) := if_neg hkf
    have n1 : IntKind.i64.wrap (k - f) = k - f := IntWalk.i64_in _ ⟨by omega, by omega⟩
    have hcl := ceil_nonneg (a := k - f) (b := e) (by omega) he.1
    rw [e0]
    clear e0
    have Hc := Lib.hid (fun w => ceilDiv_any (k - f) e w (by omega) (by omega) he.1 (by omega))
    generalize ceilF (k - f) e = c at *
    go_enter Try.func29, Try.ntmps29
    go_wp2_with fail
    go_region_held3 (fun x => x.cell? ⟨w.heap.size, 0, none⟩ = some (.int .i64 f) ∧ x.cell? ⟨w.heap.size, 1, none⟩ = some (.int .i64 e) ∧ x.cell? ⟨w.heap.size, 2, none⟩ = some (.int .i64 n)) (go_keep)
      ((go_at_call 32; refine (Hc.out _).mono ?_; rintro r w1 ⟨rfl, rfl⟩))
    go_wp2_with fail
    go_ret
    have hb0 := (Below.refl w.heap.size w).alloc (Nat.le_refl _) (.cells #[.int .i64 f, .int .i64 e, .int .i64 n] 36 (0, 0))
    exact ⟨rfl, ⟨hb0.os, hb0.tape, hb0.output, hb0.size, hb0.block⟩⟩

/-- the box of a progression -/
def BoxP (x : World) (pb : Nat) (f e n : Int) : Prop := x.heap[pb]? = some (.cells #[.int .i64 f, .int .i64 e, .int .i64 n] 36 (0, 0))
theorem BoxP.c0 {x : World} {pb : Nat} {f e n : Int} (h : BoxP x pb f e n) : x.cell? ⟨pb, 0, none⟩ = some (.int .i64 f) := by
  unfold BoxP at h; simp [World.cell?, h]
theorem BoxP.c1 {x : World} {pb : Nat} {f e n : Int} (h : BoxP x pb f e n) : x.cell? ⟨pb, 1, none⟩ = some (.int .i64 e) := by
  unfold BoxP at h; simp [World.cell?, h]
theorem BoxP.c2 {x : World} {pb : Nat} {f e n : Int} (h : BoxP x pb f e n) : x.cell? ⟨pb, 2, none⟩ = some (.int .i64 n) := by
  unfold BoxP at h; simp [World.cell?, h]

/-- behind a call that makes blocks alone -/
theorem keepP {w z z' : World} {f e n : Int} (h : z.cell? ⟨w.heap.size, 0, none⟩ = some (.int .i64 f) ∧ z.cell? ⟨w.heap.size, 1, none⟩ = some (.int .i64 e) ∧ z.cell? ⟨w.heap.size, 2, none⟩ = some (.int .i64 n) ∧ w.heap.size < z.heap.size ∧ Below w.heap.size w z) (hb : Below z.heap.size z z') :
    z'.cell? ⟨w.heap.size, 0, none⟩ = some (.int .i64 f) ∧ z'.cell? ⟨w.heap.size, 1, none⟩ = some (.int .i64 e) ∧ z'.cell? ⟨w.heap.size, 2, none⟩ = some (.int .i64 n) ∧ w.heap.size < z'.heap.size ∧ Below w.heap.size w z' := by
  obtain ⟨h0, h1, h2, hs, hbl⟩ := h
  have c : ∀ o, z'.cell? ⟨w.heap.size, o, none⟩ = z.cell? ⟨w.heap.size, o, none⟩ := fun o => World.cell?_of_block (a := ⟨w.heap.size, o, none⟩) (hb.block _ hs)
  exact ⟨(c 0).trans h0, (c 1).trans h1, (c 2).trans h2, Nat.lt_of_lt_of_le hs hb.size, hbl.trans ⟨hb.os, hb.tape, hb.output, hb.size, fun k hk => hb.block k (Nat.lt_trans hk hs)⟩⟩

theorem lastP {w z : World} {f e n : Int} (h : z.cell? ⟨w.heap.size, 0, none⟩ = some (.int .i64 f) ∧ z.cell? ⟨w.heap.size, 1, none⟩ = some (.int .i64 e) ∧ z.cell? ⟨w.heap.size, 2, none⟩ = some (.int .i64 n) ∧ w.heap.size < z.heap.size ∧ Below w.heap.size w z) : Below w.heap.size w z := h.2.2.2.2

set_option maxRecDepth 100000 in
set_option maxHeartbeats 4000000 in
theorem within_any (f e n lo hi : Int) (w : World) (hf : 0 ≤ f ∧ f ≤ 1099511627776) (he : 1 ≤ e ∧ e ≤ 1099511627776) (hn : 0 ≤ n ∧ n ≤ 1099511627776) (hlo : 0 ≤ lo ∧ lo ≤ 9223372036854775807) (hhi : 0 ≤ hi ∧ hi ≤ 9223372036854775807) :
    Calls Try.prog 23 #[.agg #[.int .i64 f, .int .i64 e, .int .i64 n], .int .i64 lo, .int .i64 hi] w fun r w' => r = .returned (.int .i64 (withinF f e n lo hi)) ∧ Below w.heap.size w w' := by
  by_cases hle : hi ≤ lo
  · have e : withinF f e n lo hi = 0 := if_pos hle
    go_enter Try.func23, Try.ntmps23
    go_wp2_with fail
    go_ret
    exact ⟨by rw [e]; rfl, (Below.refl _ _).alloc (Nat.le_refl _) _⟩
  · have e0 : withinF f e n lo hi = belowF f e n hi - belowF f e n lo := if_neg hle
    rw [e0]
    clear e0
    have b1 := below_bounds (f := f) (k := hi) he.1 hn.1
    have b2 := below_bounds (f := f) (k := lo) he.1 hn.1
    have Hc := Lib.hid (fun k (w : World) (hk : 0 ≤ k ∧ k ≤ 9223372036854775807) => below_any f e n k w hf he hk)
    have n1 : IntKind.i64.wrap (belowF f e n hi - belowF f e n lo) = belowF f e n hi - belowF f e n lo := IntWalk.i64_in _ ⟨by omega, by omega⟩
    obtain ⟨W0, hW0⟩ : ∃ W0, W0 = w.alloc (.cells #[.int .i64 f, .int .i64 e, .int .i64 n] 36 (0, 0)) := ⟨_, rfl⟩
    have box0 : BoxP W0 w.heap.size f e n := by subst hW0; exact heap_alloc_new w _
    have bl0 : Below w.heap.size w W0 := hW0 ▸ (Below.refl _ _).alloc (Nat.le_refl _) _
    have s0 : w.heap.size < W0.heap.size := (Array.getElem?_eq_some_iff.1 box0).1
    have H0 := Lib.hid (And.intro box0.c0 (And.intro box0.c1 (And.intro box0.c2 (And.intro s0 bl0))))
    clear box0 bl0 s0
    go_enter Try.func23, Try.ntmps23
    go_wp2_with fail
    rw [← hW0]
    clear hW0
    go_region_held3 (fun z => z.cell? ⟨w.heap.size, 0, none⟩ = some (.int .i64 f) ∧ z.cell? ⟨w.heap.size, 1, none⟩ = some (.int .i64 e) ∧ z.cell? ⟨w.heap.size, 2, none⟩ = some (.int .i64 n) ∧ w.heap.size < z.heap.size ∧ Below w.heap.size w z)
      (first | exact ⟨H0.out.1, H0.out.2.1, H0.out.2.2.1, H0.out.2.2.2.1, ⟨H0.out.2.2.2.2.os, H0.out.2.2.2.2.tape, H0.out.2.2.2.2.output, H0.out.2.2.2.2.size, H0.out.2.2.2.2.block⟩⟩ | assumption | exact keepP (by assumption) (by assumption))
      ((go_at_call 29; refine (Hc.out _ _ (by first | exact hhi | exact hlo)).mono ?_; rintro r wx ⟨rfl, hbx⟩))
    all_goals
      go_wp2_with fail
      go_ret
      exact ⟨rfl, lastP (by assumption)⟩
end Go.Proofs.Qxb6612920a.spray
