import Derived.Test.Qxb6626250aFmtEnc
namespace Go.Proofs.Qxb6626250aFmt
open Go.RowKit Go.PlainAid

theorem bt_str (xs : List Int) (i : Nat) (h : i < xs.length) (h0 : 0 ≤ xs.getD i 0) (h1 : xs.getD i 0 ≤ 255) : bt (strOfNums xs) i = xs.getD i 0 := by
  have hz : i < (strOfNums xs).data.size := by simp [strOfNums]; exact h
  rw [bt_data _ i hz]
  have e : (strOfNums xs).data[i] = UInt8.ofNat (xs.getD i 0).toNat := by simp [strOfNums, List.getD, h]
  rw [e]
  generalize xs.getD i 0 = x at *
  rw [UInt8.toNat_ofNat']
  omega

/-- The text with character p overwritten by c. -/
def edit (l : List Int) (p : Nat) (c : Int) (i : Nat) : Int := if i = p then c else hx l i
def eds (l : List Int) (p : Nat) (c : Int) : ByteArray := strOfNums ((List.range 40).map (edit l p c))

theorem hexs_size (l : List Int) : (hexs l).size = 40 := by simp [hexs, strOfNums_size]
theorem eds_size (l : List Int) (p : Nat) (c : Int) : (eds l p c).size = 40 := by simp [eds, strOfNums_size]

theorem hd_bd {n : Int} (h0 : 0 ≤ n) (h1 : n ≤ 15) : 0 ≤ hd n ∧ hd n ≤ 255 := by unfold hd; split <;> omega
theorem hx_bd {l : List Int} (hb : ∀ i, i < 20 → 0 ≤ l.getD i 0 ∧ l.getD i 0 ≤ 255) (i : Nat) (hi : i < 40) : 0 ≤ hx l i ∧ hx l i ≤ 255 ∧ hexB (hx l i) = true := by
  have h := hb (i / 2) (by omega)
  unfold hx
  split
  · have := hd_bd (n := l.getD (i / 2) 0 / 16) (by omega) (by omega)
    exact ⟨this.1, this.2, hexB_hd (by omega) (by omega)⟩
  · have := hd_bd (n := l.getD (i / 2) 0 % 16) (by omega) (by omega)
    exact ⟨this.1, this.2, hexB_hd (by omega) (by omega)⟩

theorem bt_hexs {l : List Int} (hb : ∀ i, i < 20 → 0 ≤ l.getD i 0 ∧ l.getD i 0 ≤ 255) (i : Nat) (hi : i < 40) : bt (hexs l) i = hx l i := by
  have h := hx_bd hb i hi
  have e : ((List.range 40).map (hx l)).getD i 0 = hx l i := getD_range _ hi
  unfold hexs
  rw [bt_str _ i (by simpa using hi) (by rw [e]; exact h.1) (by rw [e]; exact h.2.1), e]
theorem bt_eds {l : List Int} (hb : ∀ i, i < 20 → 0 ≤ l.getD i 0 ∧ l.getD i 0 ≤ 255) (p : Nat) (c : Int) (c0 : 0 ≤ c) (c1 : c ≤ 255) (i : Nat) (hi : i < 40) : bt (eds l p c) i = edit l p c i := by
  have h := hx_bd hb i hi
  have e : ((List.range 40).map (edit l p c)).getD i 0 = edit l p c i := getD_range _ hi
  have hbd : 0 ≤ edit l p c i ∧ edit l p c i ≤ 255 := by unfold edit; split <;> omega
  unfold eds
  rw [bt_str _ i (by simpa using hi) (by rw [e]; exact hbd.1) (by rw [e]; exact hbd.2), e]

theorem hx_even (l : List Int) (i : Nat) : hx l (2 * i) = hd (l.getD i 0 / 16) := by unfold hx; rw [if_pos (by omega), show 2 * i / 2 = i by omega]
theorem hx_odd (l : List Int) (i : Nat) : hx l (2 * i + 1) = hd (l.getD i 0 % 16) := by unfold hx; rw [if_neg (by omega), show (2 * i + 1) / 2 = i by omega]

theorem list20 {l : List Int} (hl : l.length = 20) {f : Nat → Int} (h : ∀ i, i < 20 → f i = l.getD i 0) : (List.range 20).map f = l := by
  apply List.ext_getElem
  · simp [hl]
  · intro i h1 h2
    have hi : i < 20 := by simpa using h1
    have := h i hi
    simp only [List.getElem_map, List.getElem_range]
    rw [this]
    simp [List.getD, List.getElem?_eq_getElem h2]

/-- The id's own text parses back. -/
theorem db_hexs {l : List Int} (hl : l.length = 20) (hb : ∀ i, i < 20 → 0 ≤ l.getD i 0 ∧ l.getD i 0 ≤ 255) : db (bt (hexs l)) = l := by
  refine list20 hl fun i hi => ?_
  have h := hb i hi
  unfold dbyte
  rw [bt_hexs hb (2 * i) (by omega), bt_hexs hb (2 * i + 1) (by omega), hx_even, hx_odd, nib_hd (by omega) (by omega), nib_hd (by omega) (by omega)]
  omega

/-- The byte with one nibble set. -/
def nby (x : Int) (p : Nat) (v : Int) : Int := if p % 2 = 0 then v * 16 + x % 16 else x / 16 * 16 + v

theorem db_eds {l : List Int} (hl : l.length = 20) (hb : ∀ i, i < 20 → 0 ≤ l.getD i 0 ∧ l.getD i 0 ≤ 255) (p : Nat) (_hp : p < 40) (c : Int) (c0 : 0 ≤ c) (c1 : c ≤ 255) :
    db (bt (eds l p c)) = l.set (p / 2) (nby (l.getD (p / 2) 0) p (nib c)) := by
  refine list20 (by simp [hl]) fun i hi => ?_
  have h := hb i hi
  unfold dbyte
  rw [bt_eds hb p c c0 c1 (2 * i) (by omega), bt_eds hb p c c0 c1 (2 * i + 1) (by omega)]
  by_cases e : p / 2 = i
  · have hg : (l.set (p / 2) (nby (l.getD (p / 2) 0) p (nib c))).getD i 0 = nby (l.getD i 0) p (nib c) := by
      subst e; simp [List.getD, show p / 2 < l.length by omega]
    rw [hg]
    unfold nby edit
    by_cases q : p % 2 = 0
    · rw [if_pos (by omega), if_neg (by omega), if_pos q, hx_odd, nib_hd (by omega) (by omega)]
    · rw [if_neg (by omega), if_pos (by omega), if_neg q, hx_even, nib_hd (by omega) (by omega)]
  · have hg : (l.set (p / 2) (nby (l.getD (p / 2) 0) p (nib c))).getD i 0 = l.getD i 0 := by
      simp [List.getD, e]
    rw [hg]
    unfold edit
    rw [if_neg (by omega), if_neg (by omega), hx_even, hx_odd, nib_hd (by omega) (by omega), nib_hd (by omega) (by omega)]
    omega

theorem and240 {v : Int} (h0 : 0 ≤ v) (h1 : v ≤ 255) : bits .and .u8 v 240 = v / 16 * 16 := by
  obtain ⟨m, rfl⟩ := Int.eq_ofNat_of_zero_le h0
  have h := bits_and_u8_nat m 240 (by omega) (by omega)
  have e : ∀ f : Fin 256, f.val &&& 240 = f.val / 16 * 16 := by decide +kernel
  have e' := e ⟨m, by omega⟩
  simp only at e'
  rw [e'] at h
  exact h.trans (by omega)
end Go.Proofs.Qxb6626250aFmt
