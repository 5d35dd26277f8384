import Derived.Test.Qxb6605998aDoorWalks
namespace Go.Proofs.Qxb6605998aDoor.names
open Go.RowKit Go.PlainAid

/-- the bytes of the name -/
theorem nameOf_bytes (org holder : ByteArray) (n : Int) : (nameOf org holder n).data.toList = org.data.toList ++ 47 :: (holder.data.toList ++ 35 :: Lib.itoa n) := by
  unfold nameOf
  simp [ByteArray.data_append]

theorem len_data (s : ByteArray) : s.data.toList.length = s.size := rfl

theorem bt_list (s : ByteArray) (k : Nat) (c : UInt8) (h : s.data.toList[k]? = some c) : bt s k = c.toNat := by
  obtain ⟨hk, he⟩ := List.getElem?_eq_some_iff.1 h
  rw [bt_get s k hk, he]

theorem ext_eq {s t : ByteArray} (h : s.data.toList = t.data.toList) : s = t := by
  cases s; cases t
  simp at h
  simp [h]

theorem extract_list (s : ByteArray) (x y z : List UInt8) (h : s.data.toList = x ++ y ++ z) (i j : Nat) (hi : i = x.length) (hj : j = x.length + y.length) : (s.extract i j).data.toList = y := by
  subst hi; subst hj
  have e : (s.extract x.length (x.length + y.length)).data.toList = (s.data.toList.drop x.length).take y.length := by
    rw [ByteArray.data_extract, Array.toList_extract, List.extract_eq_take_drop, Nat.add_sub_cancel_left]
  rw [e, h, List.append_assoc, List.drop_left, List.take_left]

/-- what the law's own text looks at in the name -/
structure Looks (nm org holder : ByteArray) (n : Int) (d : Nat) (tl : ByteArray) : Prop where
  size : nm.size = org.size + 1 + holder.size + 1 + d
  pos : 1 ≤ d
  le : d ≤ 21
  mark : bt nm (org.size + 1 + holder.size) = 35
  after : ∀ p, org.size + 1 + holder.size < p → p < nm.size → bt nm p ≠ 35
  opens : nm.extract 0 org.size = org
  slash : bt nm org.size = 47
  mid : nm.extract (org.size + 1) (org.size + 1 + holder.size) = holder
  tail : nm.extract (org.size + 1 + holder.size + 1) nm.size = tl
  numeral : tl.data.toList = Lib.itoa n

theorem itoa_pos (n : Int) : 1 ≤ (Lib.itoa n).length := by
  unfold Lib.itoa
  split
  · simp
  · exact decDigits_pos _

theorem looks_of (org holder : ByteArray) (n : Int) (h0 : -9223372036854775808 ≤ n) (h1 : n ≤ 9223372036854775807) : ∃ d tl, Looks (nameOf org holder n) org holder n d tl := by
  have hb := nameOf_bytes org holder n
  generalize nameOf org holder n = nm at hb
  have hsz : nm.size = org.size + 1 + holder.size + 1 + (Lib.itoa n).length := by
    rw [← len_data nm, hb]
    simp
    omega
  refine ⟨(Lib.itoa n).length, nm.extract (org.size + 1 + holder.size + 1) nm.size, hsz, itoa_pos n, Lib.itoa_length_le n h0 h1, ?_, ?_, ?_, ?_, ?_, rfl, ?_⟩
  · exact bt_list nm _ 35 (by
      rw [hb, List.getElem?_append_right (by rw [len_data]; omega), len_data, show org.size + 1 + holder.size - org.size = holder.size + 1 from by omega, List.getElem?_cons_succ, List.getElem?_append_right (by rw [len_data]; omega), len_data]
      simp)
  · intro p hp1 hp2 he
    have hx : nm.data.toList[p]? = (Lib.itoa n)[p - (org.size + 1 + holder.size + 1)]? := by
      rw [hb, List.getElem?_append_right (by rw [len_data]; omega), len_data, show p - org.size = p - org.size - 1 + 1 from by omega, List.getElem?_cons_succ, List.getElem?_append_right (by rw [len_data]; omega), len_data,
        show p - org.size - 1 - holder.size = p - (org.size + 1 + holder.size + 1) + 1 from by omega, List.getElem?_cons_succ]
    have hy : (Lib.itoa n)[p - (org.size + 1 + holder.size + 1)]? = some ((Lib.itoa n)[p - (org.size + 1 + holder.size + 1)]'(by omega)) := List.getElem?_eq_getElem (by omega)
    have hc := bt_list nm p _ (hx.trans hy)
    have hm := itoa_byte n _ (List.getElem_mem (l := Lib.itoa n) (n := p - (org.size + 1 + holder.size + 1)) (by omega))
    omega
  · apply ext_eq
    simp [ByteArray.data_extract, Array.toList_extract, hb]
  · exact bt_list nm _ 47 (by rw [hb, List.getElem?_append_right (by rw [len_data]; omega), len_data]; simp)
  · apply ext_eq
    rw [extract_list nm (org.data.toList ++ [47]) holder.data.toList (35 :: Lib.itoa n) (by rw [hb]; simp) _ _ (by simp) (by simp)]
  · rw [extract_list nm (org.data.toList ++ 47 :: (holder.data.toList ++ [35])) (Lib.itoa n) [] (by rw [hb]; simp) _ _ (by simp; omega) (by rw [hsz]; simp; omega)]

theorem tab_below {w w' : World} (h : Lib.TabIs Tryd.prog w tabName .u64 Lib.pow10Tab) (hb : Below w.heap.size w w') (g : Nat) (hg : Tryd.prog.globalNamed tabName = some g) (hgB : g < w.heap.size) : Lib.TabIs Tryd.prog w' tabName .u64 Lib.pow10Tab :=
  var?_below hb hg hgB h

set_option maxRecDepth 100000 in
set_option maxHeartbeats 2000000 in
theorem readsBack_any (org holder : ByteArray) (n : Int) (h0 : -9223372036854775808 ≤ n) (h1 : n ≤ 9223372036854775807) (w : World) (htab : Lib.TabIs Tryd.prog w tabName .u64 Lib.pow10Tab) :
    Calls Tryd.prog 3 #[.string org, .string holder, .int .i64 n] w fun e w' => e = .returned (.bool true) ∧ Below w.heap.size w w' := by
  obtain ⟨d, tl, hL⟩ := looks_of org holder n h0 h1
  go_enter Tryd.func3, Tryd.ntmps3
  go_wp2_with fail
  refine (bytes3_any org holder n _).mono ?_
  rintro e w1 ⟨⟨r, rfl⟩, rfl⟩
  cases r
  · go_wp2_with fail
    go_ret
    exact ⟨rfl, Below.refl _ _⟩
  by_cases ho : org.size ≤ 524288
  · by_cases hh : holder.size ≤ 524288
    · go_wp2_with fail
      refine (name_any org holder n h0 h1 ho hh _ htab).mono ?_
      rintro e w2 ⟨rfl, hb2⟩
      generalize nameOf org holder n = nm at hL ⊢
      obtain ⟨hsz, hd1, hd2, hmark, hafter, hopen, hslash, hmid, htail, hnum⟩ := hL
      have Haf : Hid (∀ p, org.size + 1 + holder.size < p → p < nm.size → bt nm p ≠ 35) := hafter
      have Hnum : Hid (tl.data.toList = Lib.itoa n) := hnum
      clear hafter hnum
      have hbt := get_bt nm
      go_wp2_with fail
      go_loop [9] (fun p => ∃ q : Nat, org.size + 1 + holder.size ≤ q ∧ q < org.size + 1 + holder.size + 1 + d ∧ p = .int .i64 q) (fun p => (intOf p).toNat)
      case atStart => exact ⟨org.size + 1 + holder.size + d, by omega, by omega, by go_num⟩
      case round =>
        obtain ⟨q, hq1, hq2, rfl⟩ := hrel
        by_cases hq : q = org.size + 1 + holder.size
        · subst hq
          go_wp2_with fail
          refine (isDecimal_any _ n h0 h1 (by rw [← hsz, htail]; exact Hnum.out) _).mono ?_
          rintro e w3 ⟨rfl, rfl⟩
          go_wp2_with fail
          go_ret
          exact ⟨rfl, hb2⟩
        · have hne : (bt nm q == 35) = false := by
            have := Haf.out q (by omega) (by omega)
            simpa using this
          go_wp2_with fail
          go_round
          case rel => exact ⟨q - 1, by omega, by omega, by go_num⟩
          case measure => simp [intOf]; omega
    · go_wp2_with fail
      go_ret
      exact ⟨rfl, Below.refl _ _⟩
  · go_wp2_with fail
    go_ret
    exact ⟨rfl, Below.refl _ _⟩

theorem slash_mem (s : ByteArray) (h : slashB s = false) : (47 : UInt8) ∉ s.data.toList := by
  intro hm
  unfold slashB at h
  rw [Bool.eq_false_iff] at h
  exact h (List.contains_iff_mem.2 hm)

theorem toList_iff (a b : ByteArray) : (a.toList == b.toList) = (a.data.toList == b.data.toList) := by
  rw [ByteArray.toList_eq, ByteArray.toList_eq]

/-- the law's last line -/
theorem apart_end (o1 h1 : ByteArray) (n1 : Int) (o2 h2 : ByteArray) (n2 : Int) (e1 : slashB o1 = false) (e2 : slashB o2 = false) :
    ((nameOf o1 h1 n1).toList == (nameOf o2 h2 n2).toList) = ((o1.toList == o2.toList) && (h1.toList == h2.toList) && (n1 == n2)) := by
  rw [Bool.eq_iff_iff]
  simp only [toList_iff, Bool.and_eq_true, beq_iff_eq, nameOf_bytes]
  constructor
  · intro h
    obtain ⟨a, b, c⟩ := name_inj (slash_mem _ e1) (slash_mem _ e2) h
    exact ⟨⟨a, b⟩, c⟩
  · rintro ⟨⟨a, b⟩, c⟩
    rw [a, b, c]


theorem globalTab : Tryd.prog.globalNamed tabName = some 1 := by kernel_rfl
theorem tab_lt {w : World} (h : Lib.TabIs Tryd.prog w tabName .u64 Lib.pow10Tab) : 1 < w.heap.size := by
  unfold Lib.TabIs World.var? at h
  rw [globalTab] at h
  by_cases hlt : 1 < w.heap.size
  · exact hlt
  · rw [Option.bind_some, Array.getElem?_eq_none (by omega)] at h
    simp at h

set_option maxRecDepth 100000 in
set_option maxHeartbeats 2000000 in
theorem tellsApart_any (o1 h1 : ByteArray) (n1 : Int) (o2 h2 : ByteArray) (n2 : Int) (a0 : -9223372036854775808 ≤ n1) (a1 : n1 ≤ 9223372036854775807) (b0 : -9223372036854775808 ≤ n2) (b1 : n2 ≤ 9223372036854775807) (w : World) (htab : Lib.TabIs Tryd.prog w tabName .u64 Lib.pow10Tab) :
    Calls Tryd.prog 4 #[.string o1, .string h1, .int .i64 n1, .string o2, .string h2, .int .i64 n2] w fun e w' => e = .returned (.bool true) ∧ Below w.heap.size w w' := by
  go_enter Tryd.func4, Tryd.ntmps4
  go_wp2_with fail
  refine (bytes6_any o1 h1 n1 o2 h2 n2 _).mono ?_
  rintro e w1 ⟨⟨r, rfl⟩, rfl⟩
  cases r
  · go_wp2_with fail
    go_ret
    exact ⟨rfl, Below.refl _ _⟩
  by_cases ho1 : o1.size ≤ 262144
  · by_cases hh1 : h1.size ≤ 262144
    · by_cases ho2 : o2.size ≤ 262144
      · by_cases hh2 : h2.size ≤ 262144
        · go_wp2_with fail
          refine (hasSlash_any o1 (by omega) _).mono ?_
          rintro e w2 ⟨rfl, rfl⟩
          cases e1 : slashB o1
          · go_wp2_with fail
            refine (hasSlash_any o2 (by omega) _).mono ?_
            rintro e w3 ⟨rfl, rfl⟩
            cases e2 : slashB o2
            · have hE := apart_end o1 h1 n1 o2 h2 n2 e1 e2
              go_wp2_with fail
              refine (name_any o1 h1 n1 a0 a1 (by omega) (by omega) _ htab).mono ?_
              rintro e w4 ⟨rfl, hb4⟩
              have htab4 := tab_below htab hb4 1 globalTab (tab_lt htab)
              go_wp2_with fail
              refine (name_any o2 h2 n2 b0 b1 (by omega) (by omega) _ htab4).mono ?_
              rintro e w5 ⟨rfl, hb5⟩
              have hb6 := hb4.trans (hb5.mono hb4.size)
              clear hb4 hb5 htab htab4
              generalize nameOf o1 h1 n1 = nm1 at hE ⊢
              generalize nameOf o2 h2 n2 = nm2 at hE ⊢
              cases hA : (o1.toList == o2.toList) <;> cases hB : (h1.toList == h2.toList) <;> cases hC : (n1 == n2)
              all_goals
                rw [hA, hB, hC] at hE
                simp only [Bool.and_true, Bool.and_false] at hE
                go_wp2_with fail
                go_ret
                exact ⟨rfl, hb6⟩
            · go_wp2_with fail
              go_ret
              exact ⟨rfl, Below.refl _ _⟩
          · go_wp2_with fail
            go_ret
            exact ⟨rfl, Below.refl _ _⟩
        · go_wp2_with fail
          go_ret
          exact ⟨rfl, Below.refl _ _⟩
      · go_wp2_with fail
        go_ret
        exact ⟨rfl, Below.refl _ _⟩
    · go_wp2_with fail
      go_ret
      exact ⟨rfl, Below.refl _ _⟩
  · go_wp2_with fail
    go_ret
    exact ⟨rfl, Below.refl _ _⟩

end Go.Proofs.Qxb6605998aDoor.names
