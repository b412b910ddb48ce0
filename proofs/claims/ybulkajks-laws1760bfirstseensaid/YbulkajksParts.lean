import Derived.Test.YbulkajksRows
import Derived.Maps.OwnSet
import Derived.Maps.AppendAt
import Derived.WalkKit
namespace Go.Proofs.Ybulkajks
open Go.RowKit Go.Maps

/-- What a name reads as, as a key of the map. -/
def nkey (s : ByteArray) : Lit := .string s.data.toList

theorem nkey_inj {a b : ByteArray} (h : nkey a = nkey b) : a = b := WideShapes.bytes_inj (by simpa [nkey] using h)

theorem beq_self (a : ByteArray) : (a.toList == a.toList) = true := by simp
theorem beq_ne {a b : ByteArray} (h : a ≠ b) : (a.toList == b.toList) = false := by
  rw [ByteArray.toList_eq, ByteArray.toList_eq]
  simp only [beq_eq_false_iff_ne, ne_eq]
  exact fun e => h (WideShapes.bytes_inj e)

/-- The map's datum D tells just the names S, each at its place. -/
structure Desc (D : DataW Unit) (S : List ByteArray) : Prop where
  hin : ∀ s, s ∈ S → Maps.has D (nkey s) = true
  hout : ∀ s, s ∉ S → Maps.has D (nkey s) = false
  at_ : ∀ (i : Nat) (s : ByteArray), S[i]? = some s → D.atKey (nkey s) (.lit (.int .i64 0)) = .lit (.int .i64 i)
  size : Maps.size D = S.length
  tidy : Tidy D

theorem desc_nil : Desc (.map []) [] := ⟨fun s h => by simp at h, fun s _ => rfl, fun i s h => by simp at h, rfl, tidy_empty⟩

theorem desc_put {D : DataW Unit} {S : List ByteArray} (h : Desc D S) {x : ByteArray} (hx : x ∉ S) : Desc (D.put (nkey x) (.lit (.int .i64 (S.length : Int)))) (S ++ [x]) := by
  have hk : WideAt.IsKeyLit (nkey x) := trivial
  refine ⟨fun s hs => ?_, fun s hs => ?_, fun i s hs => ?_, ?_, h.tidy.put hk _⟩
  · by_cases e : s = x
    · subst e
      exact has_put_same h.tidy.isMap hk _
    · rw [has_put_other (fun q => e (nkey_inj q))]
      exact h.hin s (by simpa [e] using hs)
  · have e : s ≠ x := fun e => hs (by simp [e])
    rw [has_put_other (fun q => e (nkey_inj q))]
    exact h.hout s (fun m => hs (by simp [m]))
  · by_cases hi : i < S.length
    · rw [List.getElem?_append_left hi] at hs
      have hm : s ∈ S := List.mem_of_getElem? hs
      rw [atKey_put_other (fun q => hx (by rw [← nkey_inj q]; exact hm))]
      exact h.at_ i s hs
    · have hlt := (List.getElem?_eq_some_iff.1 hs).1
      simp at hlt
      obtain rfl : i = S.length := by omega
      simp at hs
      subst hs
      rw [atKey_put_same h.tidy.isMap hk]
  · rw [size_put h.tidy, h.hout x hx]
    simp [h.size]

end Go.Proofs.Ybulkajks
