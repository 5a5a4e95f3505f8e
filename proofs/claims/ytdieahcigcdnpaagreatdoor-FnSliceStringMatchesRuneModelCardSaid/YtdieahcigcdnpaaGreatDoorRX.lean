/- zzRuneWidth gives the width of the decoder's step. -/
import Derived.Test.YtdieahcigcdnpaaGreatDoorRW
namespace Go.Proofs.YtdieahcigcdnpaaGreatDoor
open Go.RowKit
set_option linter.unusedVariables false

theorem rw_any (s : ByteArray) (i : Nat) (w : World) (h : i < s.size) (hs : s.size ≤ 1048576) :
    Calls Tryz.prog 27 #[.string s, .int .i64 i] w fun r w' => r = .returned (.int .i64 ((Utf8.decode s i).2 : Int)) ∧ w = w' := by
  have e0 := get_bang s i h
  have hb : (s.get! i).toNat < 256 := (s.get! i).toNat_lt
  have g0 : ((s[i]'h).toNat : Int) = ((s.get! i).toNat : Int) := by rw [e0]
  by_cases k0 : (s.get! i).toNat < 128
  · have := rw_ascii s i w h hs _ g0 (by omega)
    rw [dec_ascii s i h k0]
    exact this
  by_cases k1 : (s.get! i).toNat < 194
  · have := rw_low s i w h hs _ g0 (by omega)
    rw [dec_other s i h (by omega)]
    exact this
  by_cases k2 : 244 < (s.get! i).toNat
  · have := rw_high s i w h hs _ g0 (by omega)
    rw [dec_other s i h (by omega)]
    exact this
  by_cases j0 : (s.get! i).toNat ≤ 223
  · exact rw_two s i w h hs _ g0 (by omega) _ (dec_width s i 2 128 191 h (Or.inl ⟨by omega, by omega, rfl, rfl, rfl⟩))
  by_cases j1 : (s.get! i).toNat = 224
  · exact rw_e0 s i w h hs _ g0 (by omega) _ (dec_width s i 3 160 191 h (Or.inr (Or.inl ⟨by omega, rfl, rfl, rfl⟩)))
  by_cases j2 : (s.get! i).toNat ≤ 236
  · exact rw_e1 s i w h hs _ g0 (by omega) _ (dec_width s i 3 128 191 h (Or.inr (Or.inr (Or.inl ⟨by omega, by omega, rfl, rfl, rfl⟩))))
  by_cases j3 : (s.get! i).toNat = 237
  · exact rw_ed s i w h hs _ g0 (by omega) _ (dec_width s i 3 128 159 h (Or.inr (Or.inr (Or.inr (Or.inl ⟨by omega, rfl, rfl, rfl⟩)))))
  by_cases j4 : (s.get! i).toNat = 238
  · exact rw_ee s i w h hs _ g0 (by omega) _ (dec_width s i 3 128 191 h (Or.inr (Or.inr (Or.inr (Or.inr (Or.inl ⟨by omega, by omega, rfl, rfl, rfl⟩))))))
  by_cases j5 : (s.get! i).toNat = 239
  · exact rw_ef s i w h hs _ g0 (by omega) _ (dec_width s i 3 128 191 h (Or.inr (Or.inr (Or.inr (Or.inr (Or.inl ⟨by omega, by omega, rfl, rfl, rfl⟩))))))
  by_cases j6 : (s.get! i).toNat = 240
  · exact rw_f0 s i w h hs _ g0 (by omega) _ (dec_width s i 4 144 191 h (Or.inr (Or.inr (Or.inr (Or.inr (Or.inr (Or.inl ⟨by omega, rfl, rfl, rfl⟩)))))))
  by_cases j7 : (s.get! i).toNat ≤ 243
  · exact rw_f1 s i w h hs _ g0 (by omega) _ (dec_width s i 4 128 191 h (Or.inr (Or.inr (Or.inr (Or.inr (Or.inr (Or.inr (Or.inl ⟨by omega, by omega, rfl, rfl, rfl⟩))))))))
  by_cases j8 : (s.get! i).toNat = 244
  · exact rw_f4 s i w h hs _ g0 (by omega) _ (dec_width s i 4 128 143 h (Or.inr (Or.inr (Or.inr (Or.inr (Or.inr (Or.inr (Or.inr ⟨by omega, rfl, rfl, rfl⟩))))))))
  exfalso
  omega
end Go.Proofs.YtdieahcigcdnpaaGreatDoor
