import Derived.Test.Qxb6626311aLaw2Nil
import Derived.Test.Qxb6626311aLaw2Some
namespace Go.Proofs.Qxb6626311a
open Go.ChangeShapes Go.WideShapes Go.ChangeAt Go.RowKit

/-- What the row hands over of a slice of bytes, as this law's walks are told of it. -/
theorem bytes_of2 {w : World} {a : Option Addr} {len cap : Nat} {zs : List Int} (h : (a = none ∧ len = 0 ∧ cap = 0 ∧ zs = []) ∨
    ∃ x, a = some x ∧ len ≤ cap ∧ cap ≤ maxLen ∧ zs.length = cap ∧ (∀ i, i < zs.length → w.cell? (x.add i) = some (.int .u8 (zs.getD i 0))) ∧ ∀ n ∈ zs, (Lit.int .u8 n).wf = true) :
    ∃ xs : List Int, xs.length = len ∧ Sl w a xs ∧ xs.length ≤ 2 ^ 63 - 1 ∧ (a = none → xs = [] ∧ cap = 0) := by
  rcases h with ⟨rfl, rfl, rfl, rfl⟩ | ⟨x, rfl, hl, hm, hz, hc, _⟩
  · exact ⟨[], rfl, .inl ⟨rfl, rfl⟩, Nat.zero_le _, fun _ => ⟨rfl, rfl⟩⟩
  · have hlen : (zs.take len).length = len := by rw [List.length_take]; omega
    have hmax : maxLen ≤ 2 ^ 63 - 1 := by decide
    refine ⟨zs.take len, hlen, .inr ⟨x, rfl, fun j u hu => ?_⟩, by omega, fun h => by cases h⟩
    have hj : j < (zs.take len).length := by
      rcases Nat.lt_or_ge j (zs.take len).length with h | h
      · exact h
      · rw [List.getElem?_eq_none (by rw [vals_length]; exact h)] at hu; cases hu
    rw [vals_at hj, Option.some.injEq] at hu
    subst hu
    rw [hc j (by omega)]
    congr 2
    rw [List.getD_eq_getElem?_getD, List.getD_eq_getElem?_getD, List.getElem?_take_of_lt (by omega)]

theorem law2 (cause : Int) (a : Option Addr) (c : Nat) (xs : List Int) (b : Option Addr) (d : Nat) (ys : List Int) (w : World) (hs : Sl w a xs) (hx : xs.length ≤ 2 ^ 63 - 1) (hnil : a = none → xs = [] ∧ c = 0)
    (hb : Sl w b ys) (hy : ys.length ≤ 2 ^ 63 - 1) :
    Calls Try.prog 4 #[.int .u8 cause, .slice a xs.length c, .slice b ys.length d] w fun e w' => e = .returned (.bool true) ∧ Below w.heap.size w w' := by
  by_cases hn : xs.length ≤ 1048576
  · by_cases hm : xs.length + ys.length ≤ 1048576
    · cases a with
      | none =>
        obtain ⟨rfl, rfl⟩ := hnil rfl
        exact law2_nil cause b d ys w hb (by simpa using hm)
      | some x => exact law2_some cause x c xs b d ys w hs hb hm
    · exact law2_long2 cause a xs.length c b ys.length d w hn hy (by omega)
  · exact law2_long cause a xs.length c b ys.length d w hx hy (by omega)
end Go.Proofs.Qxb6626311a
