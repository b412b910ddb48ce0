import Derived.Test.YbulkajnkFmtLawB
import Derived.Test.YbulkajnkFmtLawC
import Derived.Test.YbulkajnkFmtLawD
import Derived.Test.YbulkajnkFmtLawE
import Derived.Test.YbulkajnkFmtLawF
import Derived.Test.YbulkajnkFmtLawG
namespace Go.Proofs.YbulkajnkFmt
open Go.RowKit

/-- THE LAW, WALKED WHOLE: at every input, where the table reads as the text lays it. -/
theorem law_all (s : Int) (nul : Bool) (bits : Int) (str : ByteArray) (n : Int) (w : World) (G : Tab w) (s0 : 0 ≤ s) (s1 : s ≤ 255) (hb : 0 ≤ bits) :
    Calls Ybaf.prog 3 #[.int .u8 s, .bool nul, .int .u64 bits, .string str, .int .i64 n] w fun e w' => e = .returned (.bool true) ∧ Below w.heap.size w w' := by
  by_cases hn : n < 0 ∨ 1024 < n
  · exact law_out s nul bits str n w hn
  · obtain ⟨N, rfl⟩ := Int.eq_ofNat_of_zero_le (show 0 ≤ n by omega)
    have hN : N ≤ 1024 := by omega
    by_cases h0 : N = 0
    · subst h0
      rcases (show s % 8 = 0 ∨ s % 8 = 1 ∨ s % 8 = 2 ∨ s % 8 = 3 ∨ s % 8 = 4 ∨ s % 8 = 5 ∨ s % 8 = 6 ∨ s % 8 = 7 by omega) with e | e | e | e | e | e | e | e
      · cases nul
        · exact lawZ_1 s bits str w G s0 s1 (show (1 : Int) = 1 + s % 8 by omega)
        · exact lawZN_1 s bits str w s0 s1 (show (1 : Int) = 1 + s % 8 by omega)
      · cases nul
        · exact lawZ_2 s bits str w G s0 s1 (show (2 : Int) = 1 + s % 8 by omega)
        · exact lawZN_2 s bits str w s0 s1 (show (2 : Int) = 1 + s % 8 by omega)
      · cases nul
        · exact lawZ_3 s bits str w G s0 s1 (show (3 : Int) = 1 + s % 8 by omega)
        · exact lawZN_3 s bits str w s0 s1 (show (3 : Int) = 1 + s % 8 by omega)
      · cases nul
        · exact lawZ_4 s bits str w G s0 s1 (show (4 : Int) = 1 + s % 8 by omega)
        · exact lawZN_4 s bits str w s0 s1 (show (4 : Int) = 1 + s % 8 by omega)
      · cases nul
        · exact lawZ_5 s bits str w G s0 s1 (show (5 : Int) = 1 + s % 8 by omega)
        · exact lawZN_5 s bits str w s0 s1 (show (5 : Int) = 1 + s % 8 by omega)
      · cases nul
        · exact lawZ_6 s bits str w G s0 s1 (show (6 : Int) = 1 + s % 8 by omega)
        · exact lawZN_6 s bits str w s0 s1 (show (6 : Int) = 1 + s % 8 by omega)
      · cases nul
        · exact lawZ_7 s bits str w G s0 s1 (show (7 : Int) = 1 + s % 8 by omega)
        · exact lawZN_7 s bits str w s0 s1 (show (7 : Int) = 1 + s % 8 by omega)
      · cases nul
        · exact lawZ_8 s bits str w G s0 s1 (show (8 : Int) = 1 + s % 8 by omega)
        · exact lawZN_8 s bits str w s0 s1 (show (8 : Int) = 1 + s % 8 by omega)
    · have hp : 0 < N := by omega
      rcases (show s % 8 = 0 ∨ s % 8 = 1 ∨ s % 8 = 2 ∨ s % 8 = 3 ∨ s % 8 = 4 ∨ s % 8 = 5 ∨ s % 8 = 6 ∨ s % 8 = 7 by omega) with e | e | e | e | e | e | e | e
      · cases nul
        · exact law_1 s bits str N w G s0 s1 (show (1 : Int) = 1 + s % 8 by omega) hp hN
        · exact lawN_1 s bits str N w G s0 s1 (show (1 : Int) = 1 + s % 8 by omega) hp hN
      · cases nul
        · exact law_2 s bits str N w G s0 s1 (show (2 : Int) = 1 + s % 8 by omega) hp hN
        · exact lawN_2 s bits str N w G s0 s1 (show (2 : Int) = 1 + s % 8 by omega) hp hN
      · cases nul
        · exact law_3 s bits str N w G s0 s1 (show (3 : Int) = 1 + s % 8 by omega) hp hN
        · exact lawN_3 s bits str N w G s0 s1 (show (3 : Int) = 1 + s % 8 by omega) hp hN
      · cases nul
        · exact law_4 s bits str N w G s0 s1 (show (4 : Int) = 1 + s % 8 by omega) hp hN hb
        · exact lawN_4 s bits str N w G s0 s1 (show (4 : Int) = 1 + s % 8 by omega) hp hN
      · cases nul
        · exact law_5 s bits str N w G s0 s1 (show (5 : Int) = 1 + s % 8 by omega) hp hN
        · exact lawN_5 s bits str N w G s0 s1 (show (5 : Int) = 1 + s % 8 by omega) hp hN
      · cases nul
        · exact law_6 s bits str N w G s0 s1 (show (6 : Int) = 1 + s % 8 by omega) hp hN
        · exact lawN_6 s bits str N w G s0 s1 (show (6 : Int) = 1 + s % 8 by omega) hp hN
      · cases nul
        · exact law_7 s bits str N w G s0 s1 (show (7 : Int) = 1 + s % 8 by omega) hp hN
        · exact lawN_7 s bits str N w G s0 s1 (show (7 : Int) = 1 + s % 8 by omega) hp hN
      · cases nul
        · exact law_8 s bits str N w G s0 s1 (show (8 : Int) = 1 + s % 8 by omega) hp hN
        · exact lawN_8 s bits str N w G s0 s1 (show (8 : Int) = 1 + s % 8 by omega) hp hN

end Go.Proofs.YbulkajnkFmt
