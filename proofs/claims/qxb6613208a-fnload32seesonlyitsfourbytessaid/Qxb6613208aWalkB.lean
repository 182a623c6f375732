import Derived.Test.Qxb6613208aCon
namespace Go.Proofs.Qxb6613208a.Ld
open Go.ChangeShapes Go.WideShapes Go.ChangeAt Go.RowKit
set_option linter.unusedVariables false

/-- A new row of n bytes at block N, q of them laid. -/
structure Laid (N n q : Nat) (B : Nat → UInt8) (w wr : World) : Prop where
  below : Below N w wr
  size : wr.heap.size = N + 1
  fro : ∀ j, j < n → wr.frozen? ⟨N, j, none⟩ = false
  has : ∀ j, j < n → ∃ u, wr.cell? ⟨N, j, none⟩ = some (.int .u8 u)
  cell : ∀ j, j < q → wr.cell? ⟨N, j, none⟩ = some (.int .u8 ((B j).toNat : Int))

theorem Laid.start (w : World) (n : Nat) (B : Nat → UInt8) : Laid w.heap.size n 0 B w (w.alloc (.cells (madeCells #[.int .u8 0] n) 5)) where
  below := (Below.refl _ _).alloc (Nat.le_refl _) _
  size := by simp
  fro := fun j _ => World.frozen?_alloc_at _ _ _ _ rfl
  has := fun j hj => ⟨0, (World.rowIs_made w (.int .u8 0) n 5).cell (i := j) hj⟩
  cell := fun j hj => by omega

theorem Laid.put {N n q : Nat} {B : Nat → UInt8} {w wr : World} (h : Laid N n q B w wr) (hq : q < n) : Laid N n (q + 1) B w (wr.setCell ⟨N, q, none⟩ (.int .u8 ((B q).toNat : Int))) where
  below := h.below.setCell (Nat.le_refl _) _
  size := by rw [World.size_setCell]; exact h.size
  fro := fun j hj => by rw [World.frozen?_setCell]; exact h.fro j hj
  has := fun j hj => by
    by_cases e : j = q
    · subst e
      obtain ⟨s, hs⟩ := h.has j hj
      exact ⟨_, World.cell?_setCell_same _ _ _ hs⟩
    · rw [World.cell?_setCell_other _ _ _ _ (by intro e2; exact e (congrArg Addr.off e2).symm)]
      exact h.has j hj
  cell := fun j hj => by
    by_cases e : j = q
    · subst e
      obtain ⟨s, hs⟩ := h.has j hq
      exact World.cell?_setCell_same _ _ _ hs
    · rw [World.cell?_setCell_other _ _ _ _ (by intro e2; exact e (congrArg Addr.off e2).symm)]
      exact h.cell j (by omega)

theorem clone_any (w : World) (b off n c : Nat) (B : Nat → UInt8) (hr : Row w b off n B) (hp : 0 < n) (hn : (n : Int) ≤ 1048576) (hnc : (n : Int) ≤ c) :
    Calls Try.prog 11 #[.slice (some ⟨b, off, none⟩) n c] w fun e w' => e = .returned (.slice (some ⟨w.heap.size, 0, none⟩) n n) ∧ Laid w.heap.size n n B w w' := by
  have hbl : b < w.heap.size := World.block_lt_of_cell? _ _ (hr 0 hp)
  have hmk := make27 n (by omega)
  have hq27 := fun W a l c => Lib.run_eql_slice_nil (P := Try.prog) W 27 5 a l c 0 0 Try.underlying27
  have HR : Hid (Row w b off n B) := hr
  clear hr hp
  go_enter Try.func11, Try.ntmps11
  go_wp2
  clear hmk hq27
  go_loopg [4] n (fun g i wr => ∃ q : Nat, Hid (g + q = n) ∧ i = .int .i64 q ∧ Laid w.heap.size n q B w wr)
  case atStart => exact ⟨0, rfl, rfl, Laid.start w n B⟩
  case round =>
    obtain ⟨q, hg, rfl, hl⟩ := hrel
    by_cases hlt : (q : Int) < n
    · have hcell : wr.cell? ⟨b, off + q, none⟩ = some (.int .u8 ((B q).toNat : Int)) := by rw [hl.below.cell (p := ⟨b, off + q, none⟩) hbl]; exact HR.out q (by omega)
      obtain ⟨u, hu⟩ := hl.has q (by omega)
      have hf := hl.fro q (by omega)
      have HL : Hid (Laid w.heap.size n (q + 1) B w (wr.setCell ⟨w.heap.size, q, none⟩ (.int .u8 ((B q).toNat : Int)))) := hl.put (by omega)
      clear hl
      go_wp2
      go_roundg (gk - 1)
      case measure => have := hg.out; omega
      case rel => exact ⟨q + 1, by have := hg.out; show _ = _; omega, by go_num, HL.out⟩
    · have hqn : q = n := by have := hg.out; omega
      subst hqn
      have HL : Hid (Laid w.heap.size q q B w wr) := hl
      clear hl
      go_wp2
      go_ret
      exact ⟨rfl, HL.out⟩

theorem ret_bool {a b : Bool} (h : a = b) : Ending.returned (.bool a) = .returned (.bool b) := by rw [h]

theorem walkB_long (a0 : Option Addr) (len cap : Nat) (i j v : Int) (w : World) (h : 1048576 < (len : Int)) :
    Calls Try.prog 5 #[.slice a0 len cap, .int .i64 i, .int .i64 j, .int .u8 v] w fun e w' => e = .returned (.bool true) ∧ Below w.heap.size w w' := by
  go_enter Try.func5, Try.ntmps5
  go_wp2_with fail
  refine (zb5_no _ _ _ _ _ _ _ h).mono ?_
  rintro e w' ⟨rfl, hw⟩; replace hw := hw.symm; subst hw
  go_wp2
  go_ret
  exact ⟨rfl, Below.refl _ _⟩

theorem walkB_outI (a0 : Option Addr) (len cap : Nat) (i j v : Int) (w : World) (h : (len : Int) ≤ 1048576) (hi : i < 0 ∨ (len : Int) - 4 < i) :
    Calls Try.prog 5 #[.slice a0 len cap, .int .i64 i, .int .i64 j, .int .u8 v] w fun e w' => e = .returned (.bool true) ∧ Below w.heap.size w w' := by
  by_cases h0 : i < 0
  · clear hi
    go_enter Try.func5, Try.ntmps5
    go_wp2_with fail
    refine (zb5_yes _ _ _ _ _ _ _ h).mono ?_
    rintro e w' ⟨rfl, hw⟩; replace hw := hw.symm; subst hw
    go_wp2
    go_ret
    exact ⟨rfl, Below.refl _ _⟩
  · have h1 : (len : Int) - 4 < i := by omega
    have h2 : 0 ≤ i := by omega
    clear hi h0
    go_enter Try.func5, Try.ntmps5
    go_wp2_with fail
    refine (zb5_yes _ _ _ _ _ _ _ h).mono ?_
    rintro e w' ⟨rfl, hw⟩; replace hw := hw.symm; subst hw
    go_wp2
    go_ret
    exact ⟨rfl, Below.refl _ _⟩

theorem walkB_outJ (a0 : Option Addr) (len cap : Nat) (i j v : Int) (w : World) (h : (len : Int) ≤ 1048576) (hi0 : 0 ≤ i) (hi1 : i ≤ (len : Int) - 4) (hj : j < 0 ∨ (len : Int) ≤ j) :
    Calls Try.prog 5 #[.slice a0 len cap, .int .i64 i, .int .i64 j, .int .u8 v] w fun e w' => e = .returned (.bool true) ∧ Below w.heap.size w w' := by
  by_cases h0 : j < 0
  · clear hj
    go_enter Try.func5, Try.ntmps5
    go_wp2_with fail
    refine (zb5_yes _ _ _ _ _ _ _ h).mono ?_
    rintro e w' ⟨rfl, hw⟩; replace hw := hw.symm; subst hw
    go_wp2
    go_ret
    exact ⟨rfl, Below.refl _ _⟩
  · have h1 : (len : Int) ≤ j := by omega
    have h2 : 0 ≤ j := by omega
    clear hj h0
    go_enter Try.func5, Try.ntmps5
    go_wp2_with fail
    refine (zb5_yes _ _ _ _ _ _ _ h).mono ?_
    rintro e w' ⟨rfl, hw⟩; replace hw := hw.symm; subst hw
    go_wp2
    go_ret
    exact ⟨rfl, Below.refl _ _⟩

theorem walkB_in (b off len cap i j : Nat) (B : Nat → UInt8) (V : UInt8) (w : World) (hr : Row w b off len B) (h : (len : Int) ≤ 1048576) (hi : (i : Int) ≤ (len : Int) - 4) (hj : (j : Int) < len) (hlc : (len : Int) ≤ cap) :
    Calls Try.prog 5 #[.slice (some ⟨b, off, none⟩) len cap, .int .i64 (i : Int), .int .i64 (j : Int), .int .u8 (V.toNat : Int)] w fun e w' => e = .returned (.bool true) ∧ Below w.heap.size w w' := by
  obtain ⟨W1, hcp, hR, hB, hZ⟩ := copyB w b off len cap B hr
  have H : Hid (Row W1 w.heap.size 0 len B ∧ Below w.heap.size w W1 ∧ W1.heap.size = w.heap.size + 1) := ⟨hR, hB, hZ⟩
  clear hR hB hZ hr
  have hmk := make27 len (by omega)
  have hq27 := fun W a l c => run_neq_slice_nil_any (P := Try.prog) W 27 5 a l c 0 0 Try.underlying27
  go_enter Try.func5, Try.ntmps5
  go_wp2_with fail
  refine (zb5_yes _ _ _ _ _ _ _ h).mono ?_
  rintro e w' ⟨rfl, hw⟩; replace hw := hw.symm; subst hw
  go_wp2_with fail
  clear hmk hcp hq27
  refine (clone_any W1 w.heap.size 0 len len B H.out.1 (by omega) h (by omega)).mono ?_
  rintro e W2 ⟨rfl, hl⟩
  obtain ⟨u, hu⟩ := hl.has j (by omega)
  have hf := hl.fro j (by omega)
  have hz1 := H.out.2.2
  have hz2 := hl.size
  have hlt : w.heap.size < W1.heap.size := by omega
  have H3 : Hid (Row (W2.setCell ⟨W1.heap.size, j, none⟩ (.int .u8 (V.toNat : Int))) w.heap.size 0 len B ∧ Row (W2.setCell ⟨W1.heap.size, j, none⟩ (.int .u8 (V.toNat : Int))) W1.heap.size 0 len (upd B j V) ∧
      Below w.heap.size w (W2.setCell ⟨W1.heap.size, j, none⟩ (.int .u8 (V.toNat : Int))) ∧ W1.heap.size < (W2.setCell ⟨W1.heap.size, j, none⟩ (.int .u8 (V.toNat : Int))).heap.size) := by
    refine ⟨fun t ht => ?_, fun t ht => ?_, ?_, ?_⟩
    · rw [World.cell?_setCell_other _ _ _ _ (by intro e; have := congrArg Addr.block e; simp only [] at this; omega)]
      rw [hl.below.cell (p := ⟨w.heap.size, 0 + t, none⟩) hlt]
      exact H.out.1 t ht
    · rw [Nat.zero_add]
      by_cases e : t = j
      · subst e
        rw [upd_at]
        exact World.cell?_setCell_same _ _ _ hu
      · rw [World.cell?_setCell_other _ _ _ _ (by intro e2; exact e (congrArg Addr.off e2).symm), upd_other _ _ _ _ e]
        exact hl.cell t ht
    · exact (H.out.2.1.trans (hl.below.mono (by omega))).setCell (by simp only []; omega) _
    · rw [World.size_setCell]; omega
  clear hl H hz1 hz2 hlt
  go_wp2_with fail
  clear hu hf
  generalize W2.setCell ⟨W1.heap.size, j, none⟩ (.int .u8 (V.toNat : Int)) = W3 at H3 ⊢
  generalize W1.heap.size = M at H3 ⊢
  refine (load_any W3 w.heap.size 0 len len i B H3.out.1 (by omega) (by omega)).mono ?_
  rintro e W4 ⟨rfl, hb4⟩
  have hM : w.heap.size < W3.heap.size := World.block_lt_of_cell? _ _ (H3.out.1 0 (by omega))
  have H4 : Hid (Row W4 w.heap.size 0 len B ∧ Row W4 M 0 len (upd B j V) ∧ Below w.heap.size w W4 ∧ W3.heap.size ≤ W4.heap.size) :=
    ⟨H3.out.1.below hb4 hM, H3.out.2.1.below hb4 H3.out.2.2.2, H3.out.2.2.1.trans (hb4.mono (by omega)), hb4.size⟩
  clear H3 hb4
  go_wp2_with fail
  refine (load_any W4 M 0 len len i (upd B j V) H4.out.2.1 (by omega) (by omega)).mono ?_
  rintro e W5 ⟨rfl, hb5⟩
  have H5 : Hid (Below w.heap.size w W5) := H4.out.2.2.1.trans (hb5.mono (by have := H4.out.2.2.2; omega))
  have hcj : W5.cell? ⟨w.heap.size, j, none⟩ = some (.int .u8 ((B j).toNat : Int)) := by
    have := (H4.out.1.below hb5 (by have := H4.out.2.2.2; omega)) j (by omega)
    rwa [Nat.zero_add] at this
  clear H4 hb5 hM
  by_cases h1 : (j : Int) < i
  · have hm := le4_miss B i j V (by omega)
    rw [hm]
    clear hm
    generalize le4 B i = X
    go_wp2
    go_ret
    exact ⟨ret_bool (by simp), H5.out⟩
  by_cases h2 : (4 : Int) ≤ (j : Int) - i
  · have hm := le4_miss B i j V (by omega)
    rw [hm]
    clear hm
    generalize le4 B i = X
    have h1' : (i : Int) ≤ j := by omega
    clear h1
    go_wp2
    go_ret
    exact ⟨ret_bool (by simp), H5.out⟩
  · have h1' : (i : Int) ≤ j := by omega
    obtain ⟨Z, hZ, hZe, hZx⟩ := xor8 (B j) V
    obtain ⟨d, hjd⟩ : ∃ d, j = i + d := ⟨j - i, by omega⟩
    have hx : bits BinOp.xor IntKind.u32 ((le4 B i : Nat) : Int) ((le4 (upd B j V) i : Nat) : Int) = ((2 ^ (8 * d) * Z : Nat) : Int) := by
      have := xor_words B i d Z V (by omega) (by rw [← hjd]; exact hZe)
      rwa [← hjd] at this
    have hZ' : (Z : Int) < 256 := by omega
    have hdi : (j : Int) - i = d := by omega
    have hdc : d = 0 ∨ d = 1 ∨ d = 2 ∨ d = 3 := by omega
    clear hZe hZ h1 h2 hjd
    generalize le4 (upd B j V) i = Y at hx ⊢
    generalize le4 B i = X at hx ⊢
    rcases hdc with rfl | rfl | rfl | rfl
    · go_wp2
      go_ret
      exact ⟨rfl, H5.out⟩
    all_goals
      go_wp2
      go_ret
      exact ⟨ret_bool (beq_iff_eq.2 (Int.mul_comm _ _)), H5.out⟩

theorem walkB (a0 : Option Addr) (len cap : Nat) (i j v : Int) (B : Nat → UInt8) (w : World) (hv0 : 0 ≤ v) (hv1 : v ≤ 255) (hrow : 0 < len → ∃ b off, a0 = some ⟨b, off, none⟩ ∧ Row w b off len B) (hlc : len ≤ cap) :
    Calls Try.prog 5 #[.slice a0 len cap, .int .i64 i, .int .i64 j, .int .u8 v] w fun e w' => e = .returned (.bool true) ∧ Below w.heap.size w w' := by
  by_cases h : 1048576 < (len : Int)
  · exact walkB_long a0 len cap i j v w h
  by_cases hi : i < 0 ∨ (len : Int) - 4 < i
  · exact walkB_outI a0 len cap i j v w (by omega) hi
  by_cases hj : j < 0 ∨ (len : Int) ≤ j
  · exact walkB_outJ a0 len cap i j v w (by omega) (by omega) (by omega) hj
  obtain ⟨n, rfl⟩ : ∃ n : Nat, i = n := ⟨i.toNat, by omega⟩
  obtain ⟨m, rfl⟩ : ∃ m : Nat, j = m := ⟨j.toNat, by omega⟩
  obtain ⟨V, rfl⟩ : ∃ V : UInt8, v = (V.toNat : Int) := ⟨UInt8.ofNat v.toNat, by rw [UInt8.toNat_ofNat', Nat.mod_eq_of_lt (by omega)]; omega⟩
  obtain ⟨b, off, rfl, hr⟩ := hrow (by omega)
  exact walkB_in b off len cap n m B V w hr (by omega) (by omega) (by omega) (by omega)
end Go.Proofs.Qxb6613208a.Ld
