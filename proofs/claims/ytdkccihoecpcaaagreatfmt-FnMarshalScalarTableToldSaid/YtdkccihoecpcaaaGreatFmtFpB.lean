/- Where the point of a float's text lies, between 1e-6 and 1e21. Conditions: none. -/
import Derived.Test.YtdkccihoecpcaaaGreatFmtTextP
import Derived.Test.YtdkccihoecpcaaaGreatFmtIntT
import Derived.Test.YtdkccihoecpcaaaGreatFmtAppInt
namespace Go.Proofs.YtdkccihoecpcaaaGreatFmt
open Go
theorem fP_bd (r : Nat) (h1 : 4517329193108106637 ≤ r) (h2 : r < 4921056587992461136) : -30 ≤ fP r ∧ fP r ≤ 30 := by
  have e52 : E52 = 4503599627370496 := rfl
  have hn := mg_normal (r := r) (by omega)
  have hb : bl (mg r) = 53 := by unfold bl; rw [if_neg (by omega), log2_top hn.1 hn.2]
  have hpl : pl r = -1074 + ((r / 4503599627370496 - 1 : Nat) : Int) := by unfold pl; rw [if_neg (by omega), e52]
  have he : -84 ≤ fE r ∧ fE r ≤ 7 := by unfold fE; rw [hb, hpl]; omega
  have hg := fM_good (r := r) (by omega) (by rw [d_inf]; omega)
  obtain ⟨d1, d2⟩ := shD_bd hg
  have hl := dd_len (shD (fM r) (fE r)) (by omega)
  have hl1 := dec_len_pos (shD (fM r) (fE r))
  have hs : -7 ≤ sP (fM r) (fE r) ∧ sP (fM r) (fE r) ≤ 24 := by
    unfold sP
    split
    · unfold skw
      omega
    · split
      · unfold l10
        omega
      · omega
  have hsh : -25 ≤ shP (fM r) (fE r) ∧ shP (fM r) (fE r) ≤ 8 := by
    unfold shP
    split <;> omega
  unfold fP
  omega
end Go.Proofs.YtdkccihoecpcaaaGreatFmt
