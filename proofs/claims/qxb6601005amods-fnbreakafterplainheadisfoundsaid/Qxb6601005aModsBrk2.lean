import Derived.Test.Qxb6601005aModsBrk1
namespace Go.Proofs.Qxb6601005aMods
open Go.RowKit

/-- the six breaks, as lineBreak lists them -/
def brks : Nat → List Int
  | 0 => [13, 10] | 1 => [10] | 2 => [13] | 3 => [194, 133] | 4 => [226, 128, 168] | _ => [226, 128, 169]

theorem ret_slice {a : Option Addr} {l l' c : Nat} (h : l = l') : Ending.returned (.slice a l c) = .returned (.slice a l' c) := by rw [h]

/-- the six strings lie in block g -/
def Six (w : World) (g : Nat) : Prop :=
  w.cell? ⟨g, 0, none⟩ = some (.string ⟨#[13, 10]⟩) ∧ w.cell? ⟨g, 1, none⟩ = some (.string ⟨#[10]⟩) ∧ w.cell? ⟨g, 2, none⟩ = some (.string ⟨#[13]⟩) ∧
  w.cell? ⟨g, 3, none⟩ = some (.string ⟨#[194, 133]⟩) ∧ w.cell? ⟨g, 4, none⟩ = some (.string ⟨#[226, 128, 168]⟩) ∧ w.cell? ⟨g, 5, none⟩ = some (.string ⟨#[226, 128, 169]⟩)
theorem Six.below {w w' : World} {g : Nat} (h : Six w g) {B : Nat} (hb : Below B w w') (hg : g < B) : Six w' g := by
  obtain ⟨h0, h1, h2, h3, h4, h5⟩ := h
  exact ⟨(hb.cell (by exact hg)).trans h0, (hb.cell (by exact hg)).trans h1, (hb.cell (by exact hg)).trans h2, (hb.cell (by exact hg)).trans h3, (hb.cell (by exact hg)).trans h4, (hb.cell (by exact hg)).trans h5⟩

theorem six_start (w : World) : Six (w.alloc (.cells #[.string ⟨#[13, 10]⟩, .string ⟨#[10]⟩, .string ⟨#[13]⟩, .string ⟨#[194, 133]⟩, .string ⟨#[226, 128, 168]⟩, .string ⟨#[226, 128, 169]⟩] 9)) w.heap.size := by
  have h := heap_alloc_new w (.cells #[.string ⟨#[13, 10]⟩, .string ⟨#[10]⟩, .string ⟨#[13]⟩, .string ⟨#[194, 133]⟩, .string ⟨#[226, 128, 168]⟩, .string ⟨#[226, 128, 169]⟩] 9)
  exact ⟨cell_of_row _ _ _ _ _ _ h, cell_of_row _ _ _ _ _ _ h, cell_of_row _ _ _ _ _ _ h, cell_of_row _ _ _ _ _ _ h, cell_of_row _ _ _ _ _ _ h, cell_of_row _ _ _ _ _ _ h⟩

/-- what '[]byte(s)' lays, read -/
theorem row_cells (w : World) (s : ByteArray) (cap : Nat) (mk : Nat × Nat) (ts : List Int) (h : ts = s.data.toList.map (fun b => (b.toNat : Int))) :
    ∀ i, i < ts.length → (w.alloc (.cells (bytesRow s cap) 5 mk)).drew.cell? ⟨w.heap.size, 0 + i, none⟩ = some (.int .u8 (ts.getD i 0)) := by
  intro i hi
  rw [World.cell?_drew, Nat.zero_add, cell_of_row _ _ _ _ _ _ (heap_alloc_new w _)]
  subst h
  simp only [List.length_map, Array.length_toList] at hi
  unfold bytesRow
  rw [Array.getElem?_append_left (by simpa using hi)]
  simp [List.getD_eq_getElem?_getD, Array.getElem?_eq_getElem hi]

theorem below_both {B : Nat} {w wr : World} (hb : Below B w wr) (hB : B ≤ wr.heap.size) (o : Obj) : Below B w (wr.alloc o).drew ∧ Below wr.heap.size wr (wr.alloc o).drew ∧ wr.heap.size < (wr.alloc o).drew.heap.size :=
  ⟨(hb.alloc hB o).drew, ((Below.refl _ wr).alloc (Nat.le_refl _) o).drew, by show wr.heap.size < (wr.alloc o).heap.size; simp⟩

set_option maxRecDepth 100000 in
set_option maxHeartbeats 2000000 in
theorem break_at (b n c m : Nat) (f : Nat → Int) (w : World) (hm : n ≤ 2097152) (hnc : n ≤ c) (hb0 : b < w.heap.size) (hf : ∀ i, i < n → 0 ≤ f i ∧ f i ≤ 255) (hc : BytesAt w b 0 n f) (h6 : m < 6) (hy : Sfx f n (brks m)) (hn : ∀ j, j < m → ¬ Sfx f n (brks j)) :
    Calls Trym.prog 19 #[.slice (some ⟨b, 0, none⟩) n c] w fun e w' => e = .returned (.slice (some ⟨b, n - (brks m).length, none⟩) (brks m).length (c - (n - (brks m).length))) ∧ Below w.heap.size w w' := by
  have kc := fun (w : World) (s : ByteArray) => run_bytes_of_string (P := Trym.prog) w 9 22 5 s Trym.underlying9 Trym.underlying22 Trym.underlying5
  have HF : Hid (∀ i, i < n → 0 ≤ f i ∧ f i ≤ 255) := hf
  have HY : Hid (Sfx f n (brks m)) := hy
  have HN : Hid (∀ j, j < m → ¬ Sfx f n (brks j)) := hn
  clear hf hy hn
  go_enter Trym.func19, Trym.ntmps19
  go_wp2
  go_loopw [7] (fun si wr => ∃ k : Nat, k ≤ m ∧ si = .int .i64 k ∧ Six wr w.heap.size ∧ w.heap.size < wr.heap.size ∧ Below w.heap.size w wr) (fun si _ => 6 - (intOf si).toNat)
  case atStart => exact ⟨0, Nat.zero_le _, rfl, six_start w, by simp, (Below.refl _ _).alloc (Nat.le_refl _) _⟩
  case round =>
    obtain ⟨k, hk, rfl, hsix, hz, hb⟩ := hrel
    have hcr : BytesAt wr b 0 n f := hc.below hb hb0
    have hbr : b < wr.heap.size := Nat.lt_of_lt_of_le hb0 hb.size
    have HX : Hid (Six wr w.heap.size) := hsix
    obtain ⟨s0, s1, s2, s3, s4, s5⟩ := hsix
    clear hc
    rcases (show k = 0 ∨ k = 1 ∨ k = 2 ∨ k = 3 ∨ k = 4 ∨ k = 5 by omega) with rfl | rfl | rfl | rfl | rfl | rfl
    · by_cases hkm : m = 0
      · subst hkm
        have hl : 2 ≤ n := HY.out.1
        go_wp2_with fail
        refine (suffix_yes b n c wr.heap.size 2 _ f (brks 0) _ rfl (by omega) hm hnc HF.out (by intro x hx; simp [brks] at hx; omega) (hcr.below (below_both hb (by omega) _).2.1 hbr) (row_cells wr ⟨#[13, 10]⟩ _ _ (brks 0) rfl) hl HY.out.2).mono ?_
        rintro e w' ⟨rfl, rfl⟩
        go_wp2
        go_ret
        exact ⟨ret_slice (show n - (n - 2) = 2 by omega), (below_both hb (by omega) _).1⟩
      · have hno : ¬ Sfx f n (brks 0) := HN.out 0 (by omega)
        go_wp2_with fail
        refine (suffix_no b n c wr.heap.size 2 _ f (brks 0) _ rfl (by omega) hm hnc HF.out (by intro x hx; simp [brks] at hx; omega) (hcr.below (below_both hb (by omega) _).2.1 hbr) (row_cells wr ⟨#[13, 10]⟩ _ _ (brks 0) rfl) hno).mono ?_
        rintro e w' ⟨rfl, rfl⟩
        go_wp2
        go_roundw
        case rel => exact ⟨1, by omega, by go_num, HX.out.below (below_both hb (by omega) _).2.1 hz, Nat.lt_trans hz (below_both hb (by omega) _).2.2, (below_both hb (by omega) _).1⟩
        case measure => simp [intOf]
    · by_cases hkm : m = 1
      · subst hkm
        have hl : 1 ≤ n := HY.out.1
        go_wp2_with fail
        refine (suffix_yes b n c wr.heap.size 1 _ f (brks 1) _ rfl (by omega) hm hnc HF.out (by intro x hx; simp [brks] at hx; omega) (hcr.below (below_both hb (by omega) _).2.1 hbr) (row_cells wr ⟨#[10]⟩ _ _ (brks 1) rfl) hl HY.out.2).mono ?_
        rintro e w' ⟨rfl, rfl⟩
        go_wp2
        go_ret
        exact ⟨ret_slice (show n - (n - 1) = 1 by omega), (below_both hb (by omega) _).1⟩
      · have hno : ¬ Sfx f n (brks 1) := HN.out 1 (by omega)
        go_wp2_with fail
        refine (suffix_no b n c wr.heap.size 1 _ f (brks 1) _ rfl (by omega) hm hnc HF.out (by intro x hx; simp [brks] at hx; omega) (hcr.below (below_both hb (by omega) _).2.1 hbr) (row_cells wr ⟨#[10]⟩ _ _ (brks 1) rfl) hno).mono ?_
        rintro e w' ⟨rfl, rfl⟩
        go_wp2
        go_roundw
        case rel => exact ⟨2, by omega, by go_num, HX.out.below (below_both hb (by omega) _).2.1 hz, Nat.lt_trans hz (below_both hb (by omega) _).2.2, (below_both hb (by omega) _).1⟩
        case measure => simp [intOf]
    · by_cases hkm : m = 2
      · subst hkm
        have hl : 1 ≤ n := HY.out.1
        go_wp2_with fail
        refine (suffix_yes b n c wr.heap.size 1 _ f (brks 2) _ rfl (by omega) hm hnc HF.out (by intro x hx; simp [brks] at hx; omega) (hcr.below (below_both hb (by omega) _).2.1 hbr) (row_cells wr ⟨#[13]⟩ _ _ (brks 2) rfl) hl HY.out.2).mono ?_
        rintro e w' ⟨rfl, rfl⟩
        go_wp2
        go_ret
        exact ⟨ret_slice (show n - (n - 1) = 1 by omega), (below_both hb (by omega) _).1⟩
      · have hno : ¬ Sfx f n (brks 2) := HN.out 2 (by omega)
        go_wp2_with fail
        refine (suffix_no b n c wr.heap.size 1 _ f (brks 2) _ rfl (by omega) hm hnc HF.out (by intro x hx; simp [brks] at hx; omega) (hcr.below (below_both hb (by omega) _).2.1 hbr) (row_cells wr ⟨#[13]⟩ _ _ (brks 2) rfl) hno).mono ?_
        rintro e w' ⟨rfl, rfl⟩
        go_wp2
        go_roundw
        case rel => exact ⟨3, by omega, by go_num, HX.out.below (below_both hb (by omega) _).2.1 hz, Nat.lt_trans hz (below_both hb (by omega) _).2.2, (below_both hb (by omega) _).1⟩
        case measure => simp [intOf]
    · by_cases hkm : m = 3
      · subst hkm
        have hl : 2 ≤ n := HY.out.1
        go_wp2_with fail
        refine (suffix_yes b n c wr.heap.size 2 _ f (brks 3) _ rfl (by omega) hm hnc HF.out (by intro x hx; simp [brks] at hx; omega) (hcr.below (below_both hb (by omega) _).2.1 hbr) (row_cells wr ⟨#[194, 133]⟩ _ _ (brks 3) rfl) hl HY.out.2).mono ?_
        rintro e w' ⟨rfl, rfl⟩
        go_wp2
        go_ret
        exact ⟨ret_slice (show n - (n - 2) = 2 by omega), (below_both hb (by omega) _).1⟩
      · have hno : ¬ Sfx f n (brks 3) := HN.out 3 (by omega)
        go_wp2_with fail
        refine (suffix_no b n c wr.heap.size 2 _ f (brks 3) _ rfl (by omega) hm hnc HF.out (by intro x hx; simp [brks] at hx; omega) (hcr.below (below_both hb (by omega) _).2.1 hbr) (row_cells wr ⟨#[194, 133]⟩ _ _ (brks 3) rfl) hno).mono ?_
        rintro e w' ⟨rfl, rfl⟩
        go_wp2
        go_roundw
        case rel => exact ⟨4, by omega, by go_num, HX.out.below (below_both hb (by omega) _).2.1 hz, Nat.lt_trans hz (below_both hb (by omega) _).2.2, (below_both hb (by omega) _).1⟩
        case measure => simp [intOf]
    · by_cases hkm : m = 4
      · subst hkm
        have hl : 3 ≤ n := HY.out.1
        go_wp2_with fail
        refine (suffix_yes b n c wr.heap.size 3 _ f (brks 4) _ rfl (by omega) hm hnc HF.out (by intro x hx; simp [brks] at hx; omega) (hcr.below (below_both hb (by omega) _).2.1 hbr) (row_cells wr ⟨#[226, 128, 168]⟩ _ _ (brks 4) rfl) hl HY.out.2).mono ?_
        rintro e w' ⟨rfl, rfl⟩
        go_wp2
        go_ret
        exact ⟨ret_slice (show n - (n - 3) = 3 by omega), (below_both hb (by omega) _).1⟩
      · have hno : ¬ Sfx f n (brks 4) := HN.out 4 (by omega)
        go_wp2_with fail
        refine (suffix_no b n c wr.heap.size 3 _ f (brks 4) _ rfl (by omega) hm hnc HF.out (by intro x hx; simp [brks] at hx; omega) (hcr.below (below_both hb (by omega) _).2.1 hbr) (row_cells wr ⟨#[226, 128, 168]⟩ _ _ (brks 4) rfl) hno).mono ?_
        rintro e w' ⟨rfl, rfl⟩
        go_wp2
        go_roundw
        case rel => exact ⟨5, by omega, by go_num, HX.out.below (below_both hb (by omega) _).2.1 hz, Nat.lt_trans hz (below_both hb (by omega) _).2.2, (below_both hb (by omega) _).1⟩
        case measure => simp [intOf]
    · by_cases hkm : m = 5
      · subst hkm
        have hl : 3 ≤ n := HY.out.1
        go_wp2_with fail
        refine (suffix_yes b n c wr.heap.size 3 _ f (brks 5) _ rfl (by omega) hm hnc HF.out (by intro x hx; simp [brks] at hx; omega) (hcr.below (below_both hb (by omega) _).2.1 hbr) (row_cells wr ⟨#[226, 128, 169]⟩ _ _ (brks 5) rfl) hl HY.out.2).mono ?_
        rintro e w' ⟨rfl, rfl⟩
        go_wp2
        go_ret
        exact ⟨ret_slice (show n - (n - 3) = 3 by omega), (below_both hb (by omega) _).1⟩
      · omega
end Go.Proofs.Qxb6601005aMods
