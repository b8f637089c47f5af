import Derived.Test.Qxb6626250aFmtParse
import Derived.Test.Qxb6626250aFmtDecode
namespace Go.Proofs.Qxb6626250aFmt
open Go.ChangeShapes Go.WideShapes Go.ChangeAt Go.RowKit
open Go.Extern.Stop Go.Stop Go.Extern Go.PlainAid

theorem bt_data (s : ByteArray) (i : Nat) (h : i < s.data.size) : bt s i = ((s.data[i]).toNat : Int) := by
  unfold bt
  rw [dif_pos (show i < s.size from h)]
  rfl

/-- '[]byte(s)': a new row with the string's bytes. -/
theorem conv_bytes (s : ByteArray) (u : World) : ∃ cap u1, (convert 9 31 (.string s)).run Tryf.prog u = .ok (.slice (some ⟨u.heap.size, 0, none⟩) s.size cap) u1 ∧ Below u.heap.size u u1 ∧ u1.heap.size = u.heap.size + 1 ∧
    (∀ i, i < s.size → u1.cell? ⟨u.heap.size, i, none⟩ = some (.int .u8 (bt s i))) ∧ (∀ i, i < s.size → u1.frozen? ⟨u.heap.size, i, none⟩ = false) := by
  refine ⟨_, _, run_bytes_of_string u 9 31 5 s Tryf.underlying9 Tryf.underlying31 Tryf.underlying5, ((Below.refl _ _).drew).alloc (Nat.le_refl _) _, by simp, fun i hi => ?_, fun i hi => ?_⟩
  · show (World.alloc u.drew _).cell? ⟨u.drew.heap.size, i, none⟩ = _
    rw [World.cell?_alloc_mark, bytesRow_at s _ i hi, bt_data s i hi]
  · show (World.alloc u.drew _).frozen? ⟨u.drew.heap.size, i, none⟩ = _
    rw [World.frozen?_alloc_mark]
    have : ¬ (bytesRow s (grownCap u s.size 0 5)).size ≤ i := by
      unfold bytesRow
      have : s.size = s.data.size := rfl
      simp
      omega
    simp [this]

theorem there_below {B : Nat} {w w' : World} {b o n : Nat} (h : w.there b o n) (hb : Below B w w') (hlt : b < B) : w'.there b o n := fun j hj => by
  rw [hb.cell (p := ⟨b, o + j, none⟩) hlt, hb.frozen (p := ⟨b, o + j, none⟩) hlt]
  exact h j hj

theorem dec_one (x : Nat → Int) (k : Nat) : ∀ v ∈ dec x k, v.oneCell' = true := fun v hv => by
  simp only [dec, List.mem_map] at hv
  obtain ⟨i, _, rfl⟩ := hv
  rfl

set_option maxHeartbeats 2000000 in
theorem parse_ok (s : ByteArray) (w : World) (hs : s.size = 40) (hgood : ∀ j, j < 40 → hexB (bt s j) = true) :
    Calls Tryf.prog 6 #[.string s] w fun e w' => e = .returned (.tuple #[.agg (dec (bt s) 20).toArray, .nilIface]) ∧ Below w.heap.size w w' := by
  have gb := get_bt s
  go_enter Tryf.func6, Tryf.ntmps6
  go_wp2
  change Code.wp _ _ _ _ ((w.alloc (.cells Z20 24)).alloc (.cells Z20 24))
  have h2 := two_new w
  generalize (w.alloc (.cells Z20 24)).alloc (.cells Z20 24) = u at *
  go_loop [5] (fun i => ∃ k : Nat, k ≤ 40 ∧ i = .int .i64 k) (fun i => 40 - (intOf i).toNat)
  case atStart => exact ⟨0, Nat.zero_le _, rfl⟩
  case round =>
    obtain ⟨k, hk, rfl⟩ := hrel
    by_cases hlt : k < 40
    · have hg := (hexB_iff _).1 (hgood k hlt)
      have HG : Hid (∀ j, j < 40 → hexB (bt s j) = true) := hgood
      clear hgood
      rcases hg with ⟨g1, g2⟩ | ⟨g1, g2⟩
      · go_wp2
        go_round
        case rel => exact ⟨k + 1, by omega, by go_num⟩
        case measure => simp [intOf]; omega
      · go_wp2
        go_round
        case rel => exact ⟨k + 1, by omega, by go_num⟩
        case measure => simp [intOf]; omega
    · have hk40 : k = 40 := by omega
      subst hk40
      have HG : Hid (∀ j, j < 40 → hexB (bt s j) = true) := hgood
      clear hgood
      have HS : Hid (s.size = 40) := hs
      obtain ⟨cap, u1, hconv, b1, z1, c1, _⟩ := conv_bytes s u
      rw [hs] at hconv c1
      have ft := there_below h2.there b1 (by have := h2.size; omega)
      have ft' := there_below h2.there' b1 (by have := h2.size; omega)
      have fb := h2.below.trans (b1.mono h2.below.size)
      have fz := h2.size
      clear h2 b1
      go_wp2_with fail
      refine (decode (w.heap.size + 1) u.heap.size cap (bt s) _ ft' (by omega) c1 HG.out).mono ?_
      rintro e u2 ⟨rfl, hu2⟩
      have gr : u2.rangeAt (w.heap.size + 1) 0 (dec (bt s) 20) := by
        rw [hu2]; exact World.rangeAt_setCells_same _ _ _ _ (by rw [dec_length]; exact ft')
      have gt : u2.there w.heap.size 0 20 := by rw [hu2]; exact World.there_setCells ft _ _ _
      have gB : Below w.heap.size w u2 := by rw [hu2]; exact below_setCells _ _ _ _ fb (by omega)
      have hi : (Tryf.prog.info? 24).map (·.size) = some (dec (bt s) 20).length := by rw [dec_length]; exact size24
      have hi' : (Tryf.prog.info? 24).map (·.size) = some (dec (bt s) 20).toArray.size := by simpa using hi
      have h1 := all_oneCell_toArray (dec_one (bt s) 20)
      have gt' : u2.there w.heap.size 0 (dec (bt s) 20).toArray.size := by simpa [dec_length] using gt
      have gl : (dec (bt s) 20).length = 20 := dec_length _ _
      clear hu2 ft ft' fb c1 hconv gb
      generalize hD : dec (bt s) 20 = D at *
      have HD : Hid (dec (bt s) 20 = D) := hD
      clear hD
      go_wp2_with (first | refine wpList_load_mid rfl 24 _ rfl (w.heap.size + 1) 0 rfl D _ gr Tryf.underlying24 rfl hi ?_ | refine wpList_store_mid rfl 24 _ _ rfl w.heap.size 0 D.toArray rfl rfl gt' hi' h1 ?_)
      have hld := run_loadVar_mid (P := Tryf.prog) _ w.heap.size 0 24 D _ (World.rangeAt_setCells_same _ w.heap.size 0 D (by simpa using gt')) Tryf.underlying24 rfl hi
      refine bodyPost_ret (v := .tuple #[.agg D.toArray, .nilIface]) (by simp [results, Tryf.results6, asAddr, hld]) rfl ⟨by rw [HD.out], ?_⟩
      exact below_setCells _ _ _ _ gB (Nat.le_refl _)
end Go.Proofs.Qxb6626250aFmt
