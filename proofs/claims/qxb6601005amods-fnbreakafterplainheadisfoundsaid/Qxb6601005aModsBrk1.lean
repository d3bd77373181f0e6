import Derived.Test.Qxb6601005aModsLin6
import Derived.Laws.BytesArg
import Derived.Lib.Strings
namespace Go.Proofs.Qxb6601005aMods
open Go.RowKit

/-- the numbers f p .. f (p + L - 1) -/
def cutAt (f : Nat → Int) (p L : Nat) : List Int := (List.range L).map fun j => f (p + j)
theorem cutAt_length (f : Nat → Int) (p L : Nat) : (cutAt f p L).length = L := by simp [cutAt]
theorem cutAt_getD (f : Nat → Int) (p L j : Nat) (h : j < L) : (cutAt f p L).getD j 0 = f (p + j) := by simp [cutAt, List.getD_eq_getElem?_getD, h]

def InU8 (xs : List Int) : Prop := ∀ x ∈ xs, 0 ≤ x ∧ x ≤ 255
theorem nums_inj : ∀ {xs ys : List Int}, InU8 xs → InU8 ys → (xs.map fun n => UInt8.ofNat n.toNat) = (ys.map fun n => UInt8.ofNat n.toNat) → xs = ys
  | [], [], _, _, _ => rfl
  | [], _ :: _, _, _, h => by simp at h
  | _ :: _, [], _, _, h => by simp at h
  | x :: xs, y :: ys, hx, hy, h => by
    simp only [List.map_cons, List.cons.injEq] at h
    have hx1 := hx x (by simp)
    have hy1 := hy y (by simp)
    have hxy : x = y := by
      have := congrArg UInt8.toNat h.1
      simp only [UInt8.toNat_ofNat'] at this
      omega
    rw [hxy, nums_inj (fun z hz => hx z (by simp [hz])) (fun z hz => hy z (by simp [hz])) h.2]
theorem beq_nums {xs ys : List Int} (hx : InU8 xs) (hy : InU8 ys) : ((strOfNums xs).toList == (strOfNums ys).toList) = decide (xs = ys) := by
  rw [Lib.toList_data, Lib.toList_data, strOfNums_data, strOfNums_data, Bool.eq_iff_iff]
  simp only [beq_iff_eq, decide_eq_true_eq]
  exact ⟨fun h => nums_inj hx hy h, fun h => by rw [h]⟩

set_option maxHeartbeats 400000 in
theorem equal_any (b1 o1 c1 b2 o2 c2 L : Nat) (xs ys : List Int) (w : World) (hx : xs.length = L) (hy : ys.length = L) (ux : InU8 xs) (uy : InU8 ys) (h1 : ∀ i, i < L → w.cell? ⟨b1, o1 + i, none⟩ = some (.int .u8 (xs.getD i 0)))
    (h2 : ∀ i, i < L → w.cell? ⟨b2, o2 + i, none⟩ = some (.int .u8 (ys.getD i 0))) :
    Calls Trym.prog 21 #[.slice (some ⟨b1, o1, none⟩) L c1, .slice (some ⟨b2, o2, none⟩) L c2] w fun e w' => e = .returned (.bool (decide (xs = ys))) ∧ w = w' := by
  have k1 := run_convert_bytes_arg (P := Trym.prog) w 22 5 Trym.underlying22 Trym.underlying5 b1 o1 L c1 xs hx h1 9 Trym.underlying9
  have k2 := run_convert_bytes_arg (P := Trym.prog) w 22 5 Trym.underlying22 Trym.underlying5 b2 o2 L c2 ys hy h2 9 Trym.underlying9
  have HB : Hid (((strOfNums xs).toList == (strOfNums ys).toList) = decide (xs = ys)) := beq_nums ux uy
  clear h1 h2
  generalize strOfNums xs = a at *
  generalize strOfNums ys = b at *
  go_enter Trym.func21, Trym.ntmps21
  go_wp2
  go_ret
  exact ⟨ret_bool HB.out, rfl⟩

/-- 'HasSuffix(line, suffix)': the line lies in block b, the suffix (ts, not empty) in block g. -/
def Sfx (f : Nat → Int) (n : Nat) (ts : List Int) : Prop := ts.length ≤ n ∧ cutAt f (n - ts.length) ts.length = ts

set_option maxHeartbeats 400000 in
theorem suffix_yes (b n c g L c2 : Nat) (f : Nat → Int) (ts : List Int) (w : World) (hL : ts.length = L) (hL1 : 1 ≤ L) (hm : n ≤ 2097152) (hnc : n ≤ c) (hf : ∀ i, i < n → 0 ≤ f i ∧ f i ≤ 255) (hts : InU8 ts)
    (hc : BytesAt w b 0 n f) (ht : ∀ i, i < L → w.cell? ⟨g, 0 + i, none⟩ = some (.int .u8 (ts.getD i 0))) (h1 : L ≤ n) (h2 : cutAt f (n - L) L = ts) :
    Calls Trym.prog 20 #[.slice (some ⟨b, 0, none⟩) n c, .slice (some ⟨g, 0, none⟩) L c2] w fun e w' => e = .returned (.bool true) ∧ w = w' := by
  have HE : Hid (Calls Trym.prog 21 #[.slice (some ⟨b, n - L, none⟩) (n - (n - L)) (c - (n - L)), .slice (some ⟨g, 0, none⟩) L c2] w fun e w' => e = .returned (.bool true) ∧ w = w') := by
    have := equal_any b (n - L) (c - (n - L)) g 0 c2 L (cutAt f (n - L) L) ts w (cutAt_length _ _ _) hL (fun x hx => by
      simp only [cutAt, List.mem_map, List.mem_range] at hx
      obtain ⟨j, hj, rfl⟩ := hx
      exact hf _ (by omega)) hts (fun i hi => by
        rw [cutAt_getD _ _ _ _ hi]
        have := hc (n - L + i) (by omega)
        rwa [Nat.zero_add] at this) ht
    rw [decide_eq_true h2] at this
    rw [show n - (n - L) = L by omega]
    exact this
  clear hc ht hf hts h2 hL
  go_enter Trym.func20, Trym.ntmps20
  go_wp2_with (go_at_call 21; refine HE.out.mono ?_; rintro e w' ⟨rfl, rfl⟩)
  go_ret
  exact ⟨rfl, rfl⟩

set_option maxHeartbeats 400000 in
theorem suffix_other (b n c g L c2 : Nat) (f : Nat → Int) (ts : List Int) (w : World) (hL : ts.length = L) (hL1 : 1 ≤ L) (hm : n ≤ 2097152) (hnc : n ≤ c) (hf : ∀ i, i < n → 0 ≤ f i ∧ f i ≤ 255) (hts : InU8 ts)
    (hc : BytesAt w b 0 n f) (ht : ∀ i, i < L → w.cell? ⟨g, 0 + i, none⟩ = some (.int .u8 (ts.getD i 0))) (h1 : L ≤ n) (h2 : ¬ cutAt f (n - L) L = ts) :
    Calls Trym.prog 20 #[.slice (some ⟨b, 0, none⟩) n c, .slice (some ⟨g, 0, none⟩) L c2] w fun e w' => e = .returned (.bool false) ∧ w = w' := by
  have HE : Hid (Calls Trym.prog 21 #[.slice (some ⟨b, n - L, none⟩) (n - (n - L)) (c - (n - L)), .slice (some ⟨g, 0, none⟩) L c2] w fun e w' => e = .returned (.bool false) ∧ w = w') := by
    have := equal_any b (n - L) (c - (n - L)) g 0 c2 L (cutAt f (n - L) L) ts w (cutAt_length _ _ _) hL (fun x hx => by
      simp only [cutAt, List.mem_map, List.mem_range] at hx
      obtain ⟨j, hj, rfl⟩ := hx
      exact hf _ (by omega)) hts (fun i hi => by
        rw [cutAt_getD _ _ _ _ hi]
        have := hc (n - L + i) (by omega)
        rwa [Nat.zero_add] at this) ht
    rw [decide_eq_false h2] at this
    rw [show n - (n - L) = L by omega]
    exact this
  clear hc ht hf hts h2 hL
  go_enter Trym.func20, Trym.ntmps20
  go_wp2_with (go_at_call 21; refine HE.out.mono ?_; rintro e w' ⟨rfl, rfl⟩)
  go_ret
  exact ⟨rfl, rfl⟩

set_option maxHeartbeats 400000 in
theorem suffix_short (a a2 : Option Addr) (n c L c2 : Nat) (w : World) (h1 : n < L) :
    Calls Trym.prog 20 #[.slice a n c, .slice a2 L c2] w fun e w' => e = .returned (.bool false) ∧ w = w' := by
  have t1 : decide ((L : Int) ≤ (n : Int)) = false := decide_eq_false (by omega)
  go_enter Trym.func20, Trym.ntmps20
  go_wp2
  go_ret
  exact ⟨rfl, rfl⟩

theorem suffix_no (b n c g L c2 : Nat) (f : Nat → Int) (ts : List Int) (w : World) (hL : ts.length = L) (hL1 : 1 ≤ L) (hm : n ≤ 2097152) (hnc : n ≤ c) (hf : ∀ i, i < n → 0 ≤ f i ∧ f i ≤ 255) (hts : InU8 ts)
    (hc : BytesAt w b 0 n f) (ht : ∀ i, i < L → w.cell? ⟨g, 0 + i, none⟩ = some (.int .u8 (ts.getD i 0))) (h : ¬ Sfx f n ts) :
    Calls Trym.prog 20 #[.slice (some ⟨b, 0, none⟩) n c, .slice (some ⟨g, 0, none⟩) L c2] w fun e w' => e = .returned (.bool false) ∧ w = w' := by
  by_cases h1 : L ≤ n
  · exact suffix_other b n c g L c2 f ts w hL hL1 hm hnc hf hts hc ht h1 (fun e => h ⟨by omega, by rw [hL]; exact e⟩)
  · exact suffix_short _ _ n c L c2 w (by omega)
end Go.Proofs.Qxb6601005aMods
