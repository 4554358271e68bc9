import Derived.Test.Qxb6600297aWid1
import Derived.Test.Qxb6600297aWid2
import Derived.Test.Qxb6600297aWid3
import Derived.Test.Qxb6600297aWid4
import Derived.Test.Qxb6600297aWid5
namespace Go.Proofs.Qxb6600297a
open Go.RowKit
theorem width (s : ByteArray) (p : Nat) (hp : p < s.size) (hs : s.size ≤ 1048576) (w : World) :
    Calls Try.prog 8 #[.string s, .int .i64 p] w fun e w' => e = .returned (.int .i64 (Utf8.decode s p).2) ∧ w' = w := by
  by_cases a1 : (s[p]'hp).toNat < 128
  · exact width_A s p hp hs a1 w
  by_cases a2 : (s[p]'hp).toNat < 194
  · exact width_B s p hp hs (by omega) a2 w
  by_cases hD : 194 ≤ (s[p]'hp).toNat ∧ (s[p]'hp).toNat ≤ 223
  · exact width_D s p hp hs hD.1 hD.2 w
  by_cases hE : 224 ≤ (s[p]'hp).toNat ∧ (s[p]'hp).toNat ≤ 224
  · exact width_E s p hp hs hE.1 hE.2 w
  by_cases hF : 225 ≤ (s[p]'hp).toNat ∧ (s[p]'hp).toNat ≤ 236
  · exact width_F s p hp hs hF.1 hF.2 w
  by_cases hI : 240 ≤ (s[p]'hp).toNat ∧ (s[p]'hp).toNat ≤ 240
  · exact width_I s p hp hs hI.1 hI.2 w
  by_cases hJ : 241 ≤ (s[p]'hp).toNat ∧ (s[p]'hp).toNat ≤ 243
  · exact width_J s p hp hs hJ.1 hJ.2 w
  by_cases hK : 244 ≤ (s[p]'hp).toNat ∧ (s[p]'hp).toNat ≤ 244
  · exact width_K s p hp hs hK.1 hK.2 w
  by_cases hG : 238 ≤ (s[p]'hp).toNat ∧ (s[p]'hp).toNat ≤ 238
  · exact width_G s p hp hs hG.1 hG.2 w
  by_cases hG2 : 239 ≤ (s[p]'hp).toNat ∧ (s[p]'hp).toNat ≤ 239
  · exact width_G2 s p hp hs hG2.1 hG2.2 w
  by_cases hH : 237 ≤ (s[p]'hp).toNat ∧ (s[p]'hp).toNat ≤ 237
  · exact width_H s p hp hs hH.1 hH.2 w
  exact width_C s p hp hs (by omega) w
end Go.Proofs.Qxb6600297a
