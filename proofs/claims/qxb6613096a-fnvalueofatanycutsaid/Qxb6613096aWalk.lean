import Derived.Test.Qxb6613096aCon
import Derived.Test.Qxb6613096aCopy
import Derived.Deep.DeepCutAuto
import Derived.WalkSpells
namespace Go.Proofs.Qxb6613096a.Va
open Go.ChangeShapes Go.WideShapes Go.ChangeAt Go.RowKit
set_option linter.unusedVariables false

theorem info9 : (Try.prog.info? 9).map (fun i => (i.zero, i.size, i.bytes)) = some (some (.string ByteArray.empty), 1, 16) := by kernel_rfl
theorem info5 : (Try.prog.info? 5).map (fun i => (i.zero, i.size, i.bytes)) = some (some (.int .u8 0), 1, 1) := by kernel_rfl
theorem size9 : (Try.prog.info? 9).map (·.size) = some 1 := by kernel_rfl
theorem size5 : (Try.prog.info? 5).map (·.size) = some 1 := by kernel_rfl

theorem make22 (n : Nat) (h : n ≤ 1048576) (W : World) : (Instr.makeSlice 22 (.int .i64 (n : Int)) (.int .i64 (n : Int))).run Try.prog W = .ok (.slice (some ⟨W.heap.size, 0, none⟩) n n) (W.alloc (.cells (madeCells #[.string ByteArray.empty] n) 9)) :=
  run_make_row' 22 9 _ 16 Try.underlying22 info9 rfl .i64 .i64 n (by omega) (by omega) W
theorem make28 (n : Nat) (h : n ≤ 1048576) (W : World) : (Instr.makeSlice 28 (.int .i64 (n : Int)) (.int .i64 (n : Int))).run Try.prog W = .ok (.slice (some ⟨W.heap.size, 0, none⟩) n n) (W.alloc (.cells (madeCells #[.int .u8 0] n) 5)) :=
  run_make_row' 28 5 _ 1 Try.underlying28 info5 rfl .i64 .i64 n (by omega) (by omega) W

theorem copyS (w : World) (a : Option Addr) (n c : Nat) (xs : List ByteArray) (hl : xs.length = n) (hc : Came w a xs) :
    ∃ W1, (∀ ty, (Builtin.copy_ #[22, 22] ty #[.slice (some ⟨w.heap.size, 0, none⟩) n n, .slice a n c]).run Try.prog (w.alloc (.cells (madeCells #[.string ByteArray.empty] n) 9)) = .ok (.int .i64 n) W1) ∧
      StrsAt W1 (some ⟨w.heap.size, 0, none⟩) xs ∧ Below w.heap.size w W1 ∧ W1.heap.size = w.heap.size + 1 := by
  obtain ⟨W1, h1, h2, _, h4, h5⟩ := copy_new (P := Try.prog) 22 9 Try.underlying22 size9 (.string ByteArray.empty) w a n c (xs.map Value.string) (by simpa using hl) (by intro v hv; obtain ⟨s, _, rfl⟩ := List.mem_map.1 hv; rfl) (by
    intro j v hj
    rw [List.getElem?_map, Option.map_eq_some_iff] at hj
    obtain ⟨s, hs, rfl⟩ := hj
    have hjl : j < xs.length := by
      rcases Nat.lt_or_ge j xs.length with h | h
      · exact h
      · rw [List.getElem?_eq_none h] at hs; cases hs
    have := hc j hjl
    simpa [List.getD, hs] using this)
  refine ⟨W1, h1, Or.inr ⟨_, _, rfl, fun j hj => ?_⟩, h4, h5⟩
  rw [Nat.zero_add]
  exact h2 j _ (by simp [List.getD, List.getElem?_eq_getElem hj])

theorem copyB (w : World) (a : Option Addr) (n c : Nat) (ys : List Int) (hl : ys.length = n) (hc : CameB w a ys) :
    ∃ W1, (∀ ty, (Builtin.copy_ #[28, 28] ty #[.slice (some ⟨w.heap.size, 0, none⟩) n n, .slice a n c]).run Try.prog (w.alloc (.cells (madeCells #[.int .u8 0] n) 5)) = .ok (.int .i64 n) W1) ∧
      BytesAt W1 (some ⟨w.heap.size, 0, none⟩) ys ∧ Below w.heap.size w W1 ∧ W1.heap.size = w.heap.size + 1 := by
  obtain ⟨W1, h1, h2, _, h4, h5⟩ := copy_new (P := Try.prog) 28 5 Try.underlying28 size5 (.int .u8 0) w a n c (ys.map (Value.int .u8)) (by simpa using hl) (by intro v hv; obtain ⟨s, _, rfl⟩ := List.mem_map.1 hv; rfl) (by
    intro j v hj
    rw [List.getElem?_map, Option.map_eq_some_iff] at hj
    obtain ⟨s, hs, rfl⟩ := hj
    have hjl : j < ys.length := by
      rcases Nat.lt_or_ge j ys.length with h | h
      · exact h
      · rw [List.getElem?_eq_none h] at hs; cases hs
    have := hc j hjl
    simpa [List.getD, hs] using this)
  refine ⟨W1, h1, Or.inr ⟨_, _, rfl, fun j hj => ?_⟩, h4, h5⟩
  rw [Nat.zero_add]
  exact h2 j _ (by simp [List.getD, List.getElem?_eq_getElem hj])

theorem StrsAt.below {w w' : World} {B : Nat} {a : Option Addr} {xs : List ByteArray} (h : StrsAt w a xs) (hb : Below B w w') (ha : ∀ x, a = some x → x.block < B) : StrsAt w' a xs := by
  rcases h with h | ⟨b, off, rfl, hc⟩
  · exact Or.inl h
  · refine Or.inr ⟨b, off, rfl, fun j hj => ?_⟩
    rw [hb.cell (p := ⟨b, off + j, none⟩) (ha ⟨b, off, none⟩ rfl)]
    exact hc j hj

theorem cameB_below {w w' : World} {a : Option Addr} {ys : List Int} (h : CameB w a ys) (hb : Below w.heap.size w w') : CameB w' a ys := fun j hj => by
  obtain ⟨b, off, e, hc, hlt⟩ := h j hj
  exact ⟨b, off, e, by rw [hb.cell (p := ⟨b, off + j, none⟩) hlt]; exact hc, Nat.lt_of_lt_of_le hlt hb.size⟩

theorem strs_take {w : World} {a : Option Addr} {xs : List ByteArray} (h : StrsAt w a xs) (k : Nat) : StrsAt w a (xs.take k) := by
  rcases h with ⟨h, rfl⟩ | ⟨b, off, rfl, hc⟩
  · exact Or.inl ⟨h, by simp⟩
  · refine Or.inr ⟨b, off, rfl, fun j hj => ?_⟩
    simp at hj
    rw [Lib.getD_takeS _ _ _ (by omega)]
    exact hc j (by omega)

theorem strs_drop {w : World} {A A2 : Option Addr} {xs : List ByteArray} {k c : Nat} {len0 : Nat} (h : StrsAt w A xs) (hlc : len0 ≤ c) (hA2 : (if c = k then A else Option.map (fun x => x.add k) A) = A2) (hl : xs.length = len0) : StrsAt w A2 (xs.drop k) := by
  rcases h with ⟨rfl, rfl⟩ | ⟨b, off, rfl, hc⟩
  · refine Or.inl ⟨?_, by simp⟩
    rw [← hA2]
    split <;> rfl
  · by_cases e : c = k
    · rw [if_pos e] at hA2
      refine Or.inr ⟨b, off, hA2.symm, fun j hj => ?_⟩
      simp at hj
      omega
    · rw [if_neg e] at hA2
      refine Or.inr ⟨b, off + k, ?_, fun j hj => ?_⟩
      · rw [← hA2, Option.map_some, add_plain]
      · simp at hj
        rw [getD_drop, Nat.add_assoc]
        exact hc _ (by omega)

set_option maxRecDepth 20000 in
set_option maxHeartbeats 1000000 in
theorem walk (a0 a1 : Option Addr) (len0 cap0 len1 cap1 k : Nat) (w : World) (xs : List ByteArray) (ys : List Int)
    (hl0 : xs.length = len0) (hc0 : Came w a0 xs) (hlc0 : len0 ≤ cap0) (hn0 : a0 = none → len0 = 0 ∧ cap0 = 0) (h0 : (len0 : Int) ≤ 1048576)
    (hl1 : ys.length = len1) (hc1 : CameB w a1 ys) (hlc1 : len1 ≤ cap1) (hn1 : a1 = none → len1 = 0 ∧ cap1 = 0) (h1 : (len1 : Int) ≤ 1048576)
    (hk1 : (k : Int) ≤ len0) :
    Calls Try.prog 4 #[.slice a0 len0 cap0, .slice a1 len1 cap1, .int .i64 k] w fun e w' => e = .returned (.bool true) ∧ Below w.heap.size w w' := by
  have H : Hid (xs.length = len0 ∧ Came w a0 xs ∧ (a0 = none → len0 = 0 ∧ cap0 = 0) ∧ ys.length = len1 ∧ CameB w a1 ys ∧ (a1 = none → len1 = 0 ∧ cap1 = 0)) := ⟨hl0, hc0, hn0, hl1, hc1, hn1⟩
  clear hl0 hc0 hn0 hl1 hc1 hn1
  go_enter Try.func4, Try.ntmps4
  go_wp2_with fail
  refine (zb_any a0 a1 len0 cap0 len1 cap1 k w xs H.out.1 H.out.2.1 hlc0 h0).mono ?_
  rintro e w' ⟨⟨b, rfl⟩, hw⟩; replace hw := hw.symm; subst hw
  cases b
  · go_wp2
    go_ret
    exact ⟨rfl, Below.refl _ _⟩
  go_wp2_with fail
  refine (tw_any a0 len0 cap0 _ w xs H.out.1 H.out.2.1 hlc0 h0).mono ?_
  rintro e w' ⟨⟨b, rfl⟩, hw⟩; replace hw := hw.symm; subst hw
  cases b
  · go_wp2
    go_ret
    exact ⟨rfl, Below.refl _ _⟩
  have hq22 := fun W a l c => run_neq_slice_nil_any (P := Try.prog) W 22 9 a l c 0 0 Try.underlying22
  have hq28 := fun W a l c => run_neq_slice_nil_any (P := Try.prog) W 28 5 a l c 0 0 Try.underlying28
  go_upto_if 41 with fail
  go_cut [0] (fun s0 wx => ∃ (A : Option Addr) (c : Nat), s0 = .slice A len0 c ∧ Hid (len0 ≤ c ∧ StrsAt wx A xs ∧ (∀ x, A = some x → x.block < wx.heap.size) ∧ Below w.heap.size w wx))
  case first =>
    cases a0 with
    | none =>
      have hx : Hid (xs = []) := List.eq_nil_of_length_eq_zero (by rw [H.out.1]; exact (H.out.2.2.1 rfl).1)
      go_wp2
      go_meet
      exact ⟨none, cap0, rfl, hlc0, Or.inl ⟨rfl, hx.out⟩, (fun x h => by cases h), Below.refl _ _⟩
    | some x =>
      obtain ⟨W1, hcp, hS, hB, hZ⟩ := copyS w (some x) len0 cap0 xs H.out.1 H.out.2.1
      have hS' : Hid (StrsAt W1 (some ⟨w.heap.size, 0, none⟩) xs ∧ Below w.heap.size w W1 ∧ W1.heap.size = w.heap.size + 1) := ⟨hS, hB, hZ⟩
      clear hS hB hZ
      have hmk := make22 len0 (by omega)
      go_wp2
      go_meet
      exact ⟨_, _, rfl, Nat.le_refl _, hS'.out.1, (fun x h => by cases h; rw [hS'.out.2.2]; exact Nat.lt_succ_self _), hS'.out.2.1⟩
  case rest =>
    obtain ⟨A, c, rfl, HA⟩ := hcut
    go_upto_if 50 with fail
    go_cut [1] (fun s1 wx => ∃ (A1 : Option Addr) (c1 : Nat), s1 = .slice A1 len1 c1 ∧ Hid (BytesAt wx A1 ys ∧ StrsAt wx A xs ∧ Below w.heap.size w wx))
    case first =>
      cases a1 with
      | none =>
        have hx : Hid (ys = []) := List.eq_nil_of_length_eq_zero (by rw [H.out.2.2.2.1]; exact (H.out.2.2.2.2.2 rfl).1)
        go_wp2
        go_meet
        exact ⟨none, cap1, rfl, Or.inl ⟨rfl, hx.out⟩, HA.out.2.1, HA.out.2.2.2⟩
      | some x =>
        obtain ⟨W1, hcp, hS, hB, hZ⟩ := copyB wc (some x) len1 cap1 ys H.out.2.2.2.1 (cameB_below H.out.2.2.2.2.1 HA.out.2.2.2)
        have hS' : Hid (BytesAt W1 (some ⟨wc.heap.size, 0, none⟩) ys ∧ Below wc.heap.size wc W1 ∧ W1.heap.size = wc.heap.size + 1) := ⟨hS, hB, hZ⟩
        clear hS hB hZ
        have hmk := make28 len1 (by omega)
        go_wp2
        go_meet
        exact ⟨_, _, rfl, hS'.out.1, HA.out.2.1.below hS'.out.2.1 HA.out.2.2.1, HA.out.2.2.2.trans (hS'.out.2.1.mono HA.out.2.2.2.size)⟩
    case rest =>
      obtain ⟨A1, c1, rfl, HB⟩ := hcut
      have hcv := conv_any wc A1 len1 c1 ys H.out.2.2.2.1 HB.out.1
      have hkc : (k : Int) ≤ c := by have := HA.out.1; omega
      obtain ⟨A2, hA2⟩ : ∃ A2, (if c = k then A else Option.map (fun x => x.add k) A) = A2 := ⟨_, rfl⟩
      have HA2 : Hid (StrsAt wc A2 (xs.drop k)) := strs_drop HB.out.2.1 HA.out.1 hA2 (by have := H.out.1; omega)
      have HV : Hid ((Calls Try.prog 9 #[.slice A k c, .slice A1 len1 c1] wc fun e w' => e = .returned (.tuple #[.int .i64 (Lib.idxOfS (xs.take k) (strOfNums ys)), .bool (decide (0 < Lib.idxOfS (xs.take k) (strOfNums ys)))]) ∧ w' = wc) ∧
          (Calls Try.prog 9 #[.slice A2 (len0 - k) (c - k), .slice A1 len1 c1] wc fun e w' => e = .returned (.tuple #[.int .i64 (Lib.idxOfS (xs.drop k) (strOfNums ys)), .bool (decide (0 < Lib.idxOfS (xs.drop k) (strOfNums ys)))]) ∧ w' = wc) ∧
          (Calls Try.prog 9 #[.slice A len0 c, .slice A1 len1 c1] wc fun e w' => e = .returned (.tuple #[.int .i64 (Lib.idxOfS xs (strOfNums ys)), .bool (decide (0 < Lib.idxOfS xs (strOfNums ys)))]) ∧ w' = wc)) := by
        have e0 := H.out.1
        have e1 := H.out.2.2.2.1
        exact ⟨val_any wc A A1 k c len1 c1 (xs.take k) ys (by simp; omega) (by omega) (strs_take HB.out.2.1 k) e1 HB.out.1,
          val_any wc A2 A1 (len0 - k) (c - k) len1 c1 (xs.drop k) ys (by simp; omega) (by omega) HA2.out e1 HB.out.1,
          val_any wc A A1 len0 c len1 c1 xs ys e0 (by omega) HB.out.2.1 e1 HB.out.1⟩
      have HT := idx_three xs (strOfNums ys) k (by have := H.out.1; omega)
      clear hq22 hq28
      generalize strOfNums ys = S at hcv HV HT ⊢
      generalize Lib.idxOfS (xs.take k) S = va at HV HT
      generalize Lib.idxOfS (xs.drop k) S = vb at HV HT
      generalize Lib.idxOfS xs S = v at HV HT
      have HT' : Hid _ := HT
      clear HT
      go_wp2_with fail
      refine HV.out.1.mono ?_
      rintro e w' ⟨rfl, hw⟩; replace hw := hw.symm; subst hw
      go_wp2_with fail
      refine HV.out.2.1.mono ?_
      rintro e w' ⟨rfl, hw⟩; replace hw := hw.symm; subst hw
      go_wp2_with fail
      refine HV.out.2.2.mono ?_
      rintro e w' ⟨rfl, hw⟩; replace hw := hw.symm; subst hw
      clear HV hA2 HA2 hcv hkc
      have HBel : Hid (Below w.heap.size w wc) := HB.out.2.2
      have HL : Hid (xs.length = len0) := H.out.1
      have HS := HB.out.2.1
      clear H HB HA
      rcases HT'.out with ⟨rfl, rfl, rfl, hne⟩ | ⟨m, hmk, rfl, rfl, hS⟩ | ⟨m, hkm, hml, rfl, rfl, rfl, hS⟩
      · clear HT'
        have HN : Hid (∀ j, j < xs.length → xs.getD j ByteArray.empty ≠ S) := hne
        have HS' : Hid (StrsAt wc A xs) := HS
        clear hne HS
        go_wp2_with fail
        go_loopg [17] len0 (fun g i wr => ∃ q : Nat, Hid (g + q = len0) ∧ i = .int .i64 q ∧ wr = wc)
        case atStart => exact ⟨0, rfl, rfl, rfl⟩
        case round =>
          obtain ⟨q, hg, rfl, rfl⟩ := hrel
          by_cases hlt : (q : Int) < len0
          · have hql : q < xs.length := by have := HL.out; omega
            rcases HS'.out with ⟨_, hx⟩ | ⟨b, off, rfl, hcells⟩
            · rw [hx] at hql; simp at hql
            · have hcell := hcells q hql
              have hne := (Lib.bytes_beq_false_iff _ _).2 (HN.out q hql)
              clear hcells hql HS' HN
              generalize xs.getD q ByteArray.empty = s at hcell hne
              go_wp2
              go_roundg (gk - 1)
              case measure => have := hg.out; omega
              case rel => exact ⟨q + 1, by have := hg.out; show _ = _; omega, by go_num, rfl⟩
          · go_wp2
            go_ret
            exact ⟨rfl, HBel.out⟩
      · clear HT'
        have hml : (m : Int) < len0 := by omega
        have hq : m < xs.length := by have := HL.out; omega
        rcases HS with ⟨_, hx⟩ | ⟨b, off, rfl, hcells⟩
        · rw [hx] at hq; simp at hq
        · have hcell := hcells m hq
          rw [hS] at hcell
          clear hcells hq hS hmk
          go_wp2
          all_goals (go_ret; exact ⟨rfl, HBel.out⟩)
      · clear HT'
        have hml' : (m : Int) < len0 := by have := HL.out; omega
        have hkm' : (k : Int) ≤ m := by omega
        rcases HS with ⟨_, hx⟩ | ⟨b, off, rfl, hcells⟩
        · rw [hx] at hml; simp at hml
        · have hcell := hcells m hml
          rw [hS] at hcell
          have hvb : 0 ≤ (m : Int) - k := by omega
          clear hcells hS hml hkm
          go_wp2
          all_goals (go_ret; exact ⟨rfl, HBel.out⟩)

theorem walk_long0 (a0 a1 : Option Addr) (len0 cap0 len1 cap1 : Nat) (k : Int) (w : World) (h0 : 1048576 < (len0 : Int)) :
    Calls Try.prog 4 #[.slice a0 len0 cap0, .slice a1 len1 cap1, .int .i64 k] w fun e w' => e = .returned (.bool true) ∧ Below w.heap.size w w' := by
  go_enter Try.func4, Try.ntmps4
  go_wp2_with fail
  refine (zb_long a0 a1 len0 cap0 len1 cap1 k w h0).mono ?_
  rintro e w' ⟨rfl, hw⟩; replace hw := hw.symm; subst hw
  go_wp2
  go_ret
  exact ⟨rfl, Below.refl _ _⟩

theorem walk_long1 (a0 a1 : Option Addr) (len0 cap0 len1 cap1 : Nat) (k : Int) (w : World) (xs : List ByteArray)
    (hl0 : xs.length = len0) (hc0 : Came w a0 xs) (hlc0 : len0 ≤ cap0) (h0 : (len0 : Int) ≤ 1048576) (h1 : 1048576 < (len1 : Int)) :
    Calls Try.prog 4 #[.slice a0 len0 cap0, .slice a1 len1 cap1, .int .i64 k] w fun e w' => e = .returned (.bool true) ∧ Below w.heap.size w w' := by
  have H : Hid (xs.length = len0 ∧ Came w a0 xs) := ⟨hl0, hc0⟩
  clear hl0 hc0
  go_enter Try.func4, Try.ntmps4
  go_wp2_with fail
  refine (zb_any a0 a1 len0 cap0 len1 cap1 k w xs H.out.1 H.out.2 hlc0 h0).mono ?_
  rintro e w' ⟨⟨b, rfl⟩, hw⟩; replace hw := hw.symm; subst hw
  cases b
  all_goals
    go_wp2
    go_ret
    exact ⟨rfl, Below.refl _ _⟩

theorem walk_k (a0 a1 : Option Addr) (len0 cap0 len1 cap1 : Nat) (k : Int) (w : World) (xs : List ByteArray)
    (hl0 : xs.length = len0) (hc0 : Came w a0 xs) (hlc0 : len0 ≤ cap0) (h0 : (len0 : Int) ≤ 1048576) (h1 : (len1 : Int) ≤ 1048576) (hk : k < 0 ∨ (len0 : Int) < k) :
    Calls Try.prog 4 #[.slice a0 len0 cap0, .slice a1 len1 cap1, .int .i64 k] w fun e w' => e = .returned (.bool true) ∧ Below w.heap.size w w' := by
  have H : Hid (xs.length = len0 ∧ Came w a0 xs) := ⟨hl0, hc0⟩
  clear hl0 hc0
  rcases hk with hk | hk
  · go_enter Try.func4, Try.ntmps4
    go_wp2_with fail
    refine (zb_any a0 a1 len0 cap0 len1 cap1 k w xs H.out.1 H.out.2 hlc0 h0).mono ?_
    rintro e w' ⟨⟨b, rfl⟩, hw⟩; replace hw := hw.symm; subst hw
    cases b
    · go_wp2
      go_ret
      exact ⟨rfl, Below.refl _ _⟩
    go_wp2_with fail
    refine (tw_any a0 len0 cap0 _ w xs H.out.1 H.out.2 hlc0 h0).mono ?_
    rintro e w' ⟨⟨b, rfl⟩, hw⟩; replace hw := hw.symm; subst hw
    cases b
    all_goals
      go_wp2
      go_ret
      exact ⟨rfl, Below.refl _ _⟩
  · have hk0 : 0 ≤ k := by omega
    go_enter Try.func4, Try.ntmps4
    go_wp2_with fail
    refine (zb_any a0 a1 len0 cap0 len1 cap1 k w xs H.out.1 H.out.2 hlc0 h0).mono ?_
    rintro e w' ⟨⟨b, rfl⟩, hw⟩; replace hw := hw.symm; subst hw
    cases b
    · go_wp2
      go_ret
      exact ⟨rfl, Below.refl _ _⟩
    go_wp2_with fail
    refine (tw_any a0 len0 cap0 _ w xs H.out.1 H.out.2 hlc0 h0).mono ?_
    rintro e w' ⟨⟨b, rfl⟩, hw⟩; replace hw := hw.symm; subst hw
    cases b
    all_goals
      go_wp2
      go_ret
      exact ⟨rfl, Below.refl _ _⟩

theorem walk_all (a0 a1 : Option Addr) (len0 cap0 len1 cap1 : Nat) (k : Int) (w : World) (xs : List ByteArray) (ys : List Int)
    (hl0 : xs.length = len0) (hc0 : Came w a0 xs) (hlc0 : len0 ≤ cap0) (hn0 : a0 = none → len0 = 0 ∧ cap0 = 0)
    (hl1 : ys.length = len1) (hc1 : CameB w a1 ys) (hlc1 : len1 ≤ cap1) (hn1 : a1 = none → len1 = 0 ∧ cap1 = 0) :
    Calls Try.prog 4 #[.slice a0 len0 cap0, .slice a1 len1 cap1, .int .i64 k] w fun e w' => e = .returned (.bool true) ∧ Below w.heap.size w w' := by
  by_cases h0 : 1048576 < (len0 : Int)
  · exact walk_long0 a0 a1 len0 cap0 len1 cap1 k w h0
  by_cases h1 : 1048576 < (len1 : Int)
  · exact walk_long1 a0 a1 len0 cap0 len1 cap1 k w xs hl0 hc0 hlc0 (by omega) h1
  by_cases hk : k < 0 ∨ (len0 : Int) < k
  · exact walk_k a0 a1 len0 cap0 len1 cap1 k w xs hl0 hc0 hlc0 (by omega) (by omega) hk
  obtain ⟨kn, rfl⟩ : ∃ kn : Nat, k = kn := ⟨k.toNat, by omega⟩
  exact walk a0 a1 len0 cap0 len1 cap1 kn w xs ys hl0 hc0 hlc0 hn0 (by omega) hl1 hc1 hlc1 hn1 (by omega) (by omega)
end Go.Proofs.Qxb6613096a.Va
