/- The shape of a JSON number's text, and what the law's checks answer at it. -/
import Derived.Test.YtkincdcknmdboaaDoorJS
namespace Go.Proofs.YtkincdcknmdboaaDoor
open Go Go.RowKit
set_option linter.unusedVariables false
set_option linter.unusedSimpArgs false

def DS (l : List UInt8) : Prop := ∀ c ∈ l, 48 ≤ c.toNat ∧ c.toNat ≤ 57
def DH (l : List UInt8) : Prop := DS l ∧ ∃ c t, l = c :: t ∧ 49 ≤ c.toNat
def sgn (neg : Bool) : List UInt8 := if neg then [45] else []

inductive Shape : Bool → Bool → List UInt8 → Prop
  | z (neg : Bool) : Shape neg false (sgn neg ++ [48])
  | zf (neg : Bool) (R : List UInt8) : R ≠ [] → DS R → Shape neg false (sgn neg ++ 48 :: 46 :: R)
  | d (neg : Bool) (I : List UInt8) : DH I → Shape neg false (sgn neg ++ I)
  | df (neg : Bool) (I R : List UInt8) : DH I → R ≠ [] → DS R → Shape neg false (sgn neg ++ (I ++ 46 :: R))
  | de (neg : Bool) (I : List UInt8) (c : UInt8) (X : List UInt8) : DH I → (c = 43 ∨ c = 45) → DH X → Shape neg true (sgn neg ++ (I ++ 101 :: c :: X))
  | dfe (neg : Bool) (I R : List UInt8) (c : UInt8) (X : List UInt8) : DH I → R ≠ [] → DS R → (c = 43 ∨ c = 45) → DH X → Shape neg true (sgn neg ++ (I ++ 46 :: (R ++ 101 :: c :: X)))

theorem get_in {L : List UInt8} (P I Q : List UInt8) (h : L = P ++ (I ++ Q)) (i : Nat) (hi : i < L.length) (h1 : P.length ≤ i) (h2 : i < P.length + I.length) : L[i] ∈ I := by
  subst h
  rw [List.getElem_append_right h1, List.getElem_append_left (by omega)]
  exact List.getElem_mem _
theorem get_at {L : List UInt8} (P Q : List UInt8) (c : UInt8) (h : L = P ++ c :: Q) (i : Nat) (hi : i < L.length) (e : i = P.length) : L[i] = c := by
  subst h e
  rw [List.getElem_append_right (Nat.le_refl _)]
  simp
theorem ba_size (L : List UInt8) : (⟨L.toArray⟩ : ByteArray).size = L.length := rfl
theorem ba_get (L : List UInt8) (i : Nat) (h : i < (⟨L.toArray⟩ : ByteArray).size) : (⟨L.toArray⟩ : ByteArray)[i] = L[i]'h := rfl
theorem ds_at {L : List UInt8} (P I Q : List UInt8) (hI : DS I) (h : L = P ++ (I ++ Q)) (i : Nat) (hi : i < L.length) (h1 : P.length ≤ i) (h2 : i < P.length + I.length) : 48 ≤ (L[i]).toNat ∧ (L[i]).toNat ≤ 57 := hI _ (get_in P I Q h i hi h1 h2)

theorem DS.ne {l : List UInt8} (h : DS l) : ∀ c ∈ l, c.toNat ≠ 101 := fun c hc => by have := h c hc; omega
theorem sgn_ne (neg : Bool) : ∀ c ∈ sgn neg, c.toNat ≠ 101 := by cases neg <;> simp [sgn]

theorem no_e {neg : Bool} {L : List UInt8} (h : Shape neg false L) : ∀ c ∈ L, c.toNat ≠ 101 := by
  intro c hc
  have hs := sgn_ne neg c
  cases h with
  | z => simp only [List.mem_append, List.mem_singleton] at hc; rcases hc with hc | rfl; exact hs hc; decide
  | zf R _ hR =>
    simp only [List.mem_append, List.mem_cons] at hc
    rcases hc with hc | rfl | rfl | hc
    · exact hs hc
    · decide
    · decide
    · exact hR.ne c hc
  | d I hI =>
    simp only [List.mem_append] at hc
    rcases hc with hc | hc
    · exact hs hc
    · exact hI.1.ne c hc
  | df I R hI _ hR =>
    simp only [List.mem_append, List.mem_cons] at hc
    rcases hc with hc | hc | rfl | hc
    · exact hs hc
    · exact hI.1.ne c hc
    · decide
    · exact hR.ne c hc

theorem an_e {neg : Bool} {L : List UInt8} (h : Shape neg true L) : ∃ P Q, L = P ++ 101 :: Q ∧ ∀ c ∈ P, c.toNat ≠ 101 := by
  have hs := sgn_ne neg
  cases h with
  | de I c X hI _ _ =>
    refine ⟨sgn neg ++ I, c :: X, by simp, fun x hx => ?_⟩
    rcases List.mem_append.1 hx with hx | hx
    · exact hs x hx
    · exact hI.1.ne x hx
  | dfe I R c X hI _ hR _ _ =>
    refine ⟨sgn neg ++ (I ++ 46 :: R), c :: X, by simp, fun x hx => ?_⟩
    simp only [List.mem_append, List.mem_cons] at hx
    rcases hx with hx | hx | rfl | hx
    · exact hs x hx
    · exact hI.1.ne x hx
    · decide
    · exact hR.ne x hx

/-- hasByteB2 of the letter e -/
theorem has_shape {neg ex : Bool} {L : List UInt8} (h : Shape neg ex L) (h64 : L.length ≤ 64) (w : World) :
    Calls Tryd.prog 8 #[.string ⟨L.toArray⟩, .int .u8 101] w fun r w' => r = .returned (.bool ex) ∧ w = w' := by
  cases ex
  · refine has_no ⟨L.toArray⟩ (by rw [ba_size]; omega) (fun i q => ?_) w
    rw [ba_get]
    exact no_e h _ (List.getElem_mem _)
  · obtain ⟨P, Q, e, hP⟩ := an_e h
    have hl : P.length < L.length := by rw [e]; simp
    refine has_yes ⟨L.toArray⟩ P.length (by rw [ba_size]; omega) hl (fun i q hi => ?_) ?_ w
    · rw [ba_get]
      exact hP _ (get_in [] P (101 :: Q) e i q (Nat.zero_le _) (by simpa using hi))
    · rw [ba_get, get_at P Q 101 e P.length hl rfl]; rfl

theorem DH.pos {l : List UInt8} (h : DH l) : 0 < l.length := by obtain ⟨_, c, t, rfl, _⟩ := h; simp
theorem DH.head {l : List UInt8} (h : DH l) (hl : 0 < l.length) : 49 ≤ (l[0]'hl).toNat ∧ (l[0]'hl).toNat ≤ 57 := by
  obtain ⟨h1, c, t, rfl, h2⟩ := h
  exact ⟨h2, (h1 c (by simp)).2⟩

theorem first_of {neg ex : Bool} {L : List UInt8} (h : Shape neg ex L) : ∃ hl : 0 < L.length, ((L[0]'hl).toNat = 45 ↔ neg = true) := by
  have hd : ∀ (I Q : List UInt8) (hI : DH I), ∃ hl : 0 < (sgn neg ++ (I ++ Q)).length, (((sgn neg ++ (I ++ Q))[0]'hl).toNat = 45 ↔ neg = true) := by
    rintro I Q ⟨h1, c, t, rfl, h2⟩
    cases neg
    · refine ⟨by simp [sgn], ?_⟩
      have h3 := (h1 c (by simp)).2
      simp [sgn]
      omega
    · refine ⟨by simp [sgn], ?_⟩
      simp [sgn]
  cases h with
  | z => cases neg <;> exact ⟨by simp [sgn], by simp [sgn]⟩
  | zf R _ _ => cases neg <;> exact ⟨by simp [sgn], by simp [sgn]⟩
  | d I hI => have := hd I [] hI; simpa using this
  | df I R hI _ _ => exact hd I _ hI
  | de I c X hI _ _ => exact hd I _ hI
  | dfe I R c X hI _ _ _ _ => exact hd I _ hI
theorem json_z (neg : Bool) (L : List UInt8) (hL : L = sgn neg ++ [48]) (h64 : L.length ≤ 64) (w : World) :
    Calls Tryd.prog 7 #[.string ⟨L.toArray⟩] w fun r w' => r = .returned (.bool true) ∧ w = w' := by
  obtain ⟨z, hz⟩ : ∃ z, z = (sgn neg).length := ⟨_, rfl⟩
  have hl : L.length = z + 1 := by rw [hL]; simp [hz] <;> omega
  have m1 : ∀ q : z < L.length, L[z] = 48 := fun q => get_at (sgn neg) [] 48 (by rw [hL] <;> simp) z q hz
  have n0 : neg = true → ∀ q : 0 < L.length, L[0] = 45 := fun e q => by subst e; exact get_at [] ([48]) 45 (by rw [hL] <;> rfl) 0 q rfl
  clear hL
  cases neg
  · have hz0 : z = 0 := by rw [hz]; rfl
    subst hz0
    exact js_pz ⟨L.toArray⟩ (by rw [ba_size]; omega) (by rw [ba_size]; omega) (by rw [ba_get, m1 (by omega)]; decide) (by rw [ba_get, m1 (by omega)]; rfl) (by rw [ba_size]; omega) w
  · have hz0 : z = 1 := by rw [hz]; rfl
    subst hz0
    have n0 := n0 rfl
    exact js_nz ⟨L.toArray⟩ (by rw [ba_size]; omega) (by rw [ba_size]; omega) (by rw [ba_get, n0 (by omega)]; rfl) (by rw [ba_get, m1 (by omega)]; rfl) (by rw [ba_size]; omega) w

theorem json_zf (neg : Bool) (R : List UInt8) (hR0 : R ≠ []) (hR : DS R) (L : List UInt8) (hL : L = sgn neg ++ 48 :: 46 :: R) (h64 : L.length ≤ 64) (w : World) :
    Calls Tryd.prog 7 #[.string ⟨L.toArray⟩] w fun r w' => r = .returned (.bool true) ∧ w = w' := by
  obtain ⟨z, hz⟩ : ∃ z, z = (sgn neg).length := ⟨_, rfl⟩
  obtain ⟨b, hb⟩ : ∃ b, b = R.length := ⟨_, rfl⟩
  have hbp : 0 < R.length := List.length_pos_iff.2 hR0
  have hl : L.length = z + 1 + 1 + b := by rw [hL]; simp [hz, hb] <;> omega
  have m1 : ∀ q : z < L.length, L[z] = 48 := fun q => get_at (sgn neg) (46 :: R) 48 (by rw [hL] <;> simp) z q hz
  have m3 : ∀ q : z + 1 < L.length, L[z + 1] = 46 := fun q => get_at (sgn neg ++ [48]) R 46 (by rw [hL] <;> simp) (z + 1) q (by simp; omega)
  have mR : ∀ i (q : i < L.length), z + 1 + 1 ≤ i → i < z + 1 + 1 + b → 48 ≤ (L[i]).toNat ∧ (L[i]).toNat ≤ 57 := fun i q h1 h2 => ds_at ((sgn neg ++ [48]) ++ [46]) R [] hR (by rw [hL] <;> simp) i q (by simp; omega) (by simp; omega)
  have n0 : neg = true → ∀ q : 0 < L.length, L[0] = 45 := fun e q => by subst e; exact get_at [] (48 :: 46 :: R) 45 (by rw [hL] <;> rfl) 0 q rfl
  clear hL
  cases neg
  · have hz0 : z = 0 := by rw [hz]; rfl
    subst hz0
    exact js_pzf ⟨L.toArray⟩ (0 + 1 + 1 + b) (by rw [ba_size]; omega) (by rw [ba_size]; omega) (by rw [ba_get, m1 (by omega)]; decide) (by rw [ba_get, m1 (by omega)]; rfl) (by omega) (by rw [ba_size]; omega) (by rw [ba_get, m3 (by omega)]; rfl) (fun i q h1 h2 => by rw [ba_get]; exact mR i q (by omega) (by omega)) (by rw [ba_size]; omega) w
  · have hz0 : z = 1 := by rw [hz]; rfl
    subst hz0
    have n0 := n0 rfl
    exact js_nzf ⟨L.toArray⟩ (1 + 1 + 1 + b) (by rw [ba_size]; omega) (by rw [ba_size]; omega) (by rw [ba_get, n0 (by omega)]; rfl) (by rw [ba_get, m1 (by omega)]; rfl) (by omega) (by rw [ba_size]; omega) (by rw [ba_get, m3 (by omega)]; rfl) (fun i q h1 h2 => by rw [ba_get]; exact mR i q (by omega) (by omega)) (by rw [ba_size]; omega) w

theorem json_d (neg : Bool) (I : List UInt8) (hI : DH I) (L : List UInt8) (hL : L = sgn neg ++ I) (h64 : L.length ≤ 64) (w : World) :
    Calls Tryd.prog 7 #[.string ⟨L.toArray⟩] w fun r w' => r = .returned (.bool true) ∧ w = w' := by
  obtain ⟨z, hz⟩ : ∃ z, z = (sgn neg).length := ⟨_, rfl⟩
  obtain ⟨a, ha⟩ : ∃ a, a = I.length := ⟨_, rfl⟩
  have hap := hI.pos
  obtain ⟨hI1, c0, t0, hI2, hI3⟩ := hI
  have hl : L.length = z + a := by rw [hL]; simp [hz, ha] <;> omega
  have m1 : ∀ q : z < L.length, L[z] = c0 := fun q => get_at (sgn neg) t0 c0 (by rw [hL, hI2] <;> simp) z q hz
  have m2 := (hI1 c0 (by rw [hI2]; simp)).2
  have mI : ∀ i (q : i < L.length), z ≤ i → i < z + a → 48 ≤ (L[i]).toNat ∧ (L[i]).toNat ≤ 57 := fun i q h1 h2 => ds_at (sgn neg) I [] hI1 (by rw [hL] <;> simp) i q (by omega) (by omega)
  have n0 : neg = true → ∀ q : 0 < L.length, L[0] = 45 := fun e q => by subst e; exact get_at [] (I) 45 (by rw [hL] <;> rfl) 0 q rfl
  clear hL
  cases neg
  · have hz0 : z = 0 := by rw [hz]; rfl
    subst hz0
    exact js_pd ⟨L.toArray⟩ (0 + a) (by rw [ba_size]; omega) (by rw [ba_size]; omega) (by rw [ba_get, m1 (by omega)]; omega) (by rw [ba_get, m1 (by omega)]; exact hI3) (by rw [ba_get, m1 (by omega)]; exact m2) (by omega) (fun i q h1 h2 => by rw [ba_get]; exact mI i q (by omega) (by omega)) (by rw [ba_size]; omega) w
  · have hz0 : z = 1 := by rw [hz]; rfl
    subst hz0
    have n0 := n0 rfl
    exact js_nd ⟨L.toArray⟩ (1 + a) (by rw [ba_size]; omega) (by rw [ba_size]; omega) (by rw [ba_get, n0 (by omega)]; rfl) (by rw [ba_get, m1 (by omega)]; exact hI3) (by rw [ba_get, m1 (by omega)]; exact m2) (by omega) (fun i q h1 h2 => by rw [ba_get]; exact mI i q (by omega) (by omega)) (by rw [ba_size]; omega) w

theorem json_df (neg : Bool) (I : List UInt8) (R : List UInt8) (hI : DH I) (hR0 : R ≠ []) (hR : DS R) (L : List UInt8) (hL : L = sgn neg ++ (I ++ 46 :: R)) (h64 : L.length ≤ 64) (w : World) :
    Calls Tryd.prog 7 #[.string ⟨L.toArray⟩] w fun r w' => r = .returned (.bool true) ∧ w = w' := by
  obtain ⟨z, hz⟩ : ∃ z, z = (sgn neg).length := ⟨_, rfl⟩
  obtain ⟨a, ha⟩ : ∃ a, a = I.length := ⟨_, rfl⟩
  have hap := hI.pos
  obtain ⟨hI1, c0, t0, hI2, hI3⟩ := hI
  obtain ⟨b, hb⟩ : ∃ b, b = R.length := ⟨_, rfl⟩
  have hbp : 0 < R.length := List.length_pos_iff.2 hR0
  have hl : L.length = z + a + 1 + b := by rw [hL]; simp [hz, ha, hb] <;> omega
  have m1 : ∀ q : z < L.length, L[z] = c0 := fun q => get_at (sgn neg) (t0 ++ 46 :: R) c0 (by rw [hL, hI2] <;> simp) z q hz
  have m2 := (hI1 c0 (by rw [hI2]; simp)).2
  have mI : ∀ i (q : i < L.length), z ≤ i → i < z + a → 48 ≤ (L[i]).toNat ∧ (L[i]).toNat ≤ 57 := fun i q h1 h2 => ds_at (sgn neg) I (46 :: R) hI1 (by rw [hL] <;> simp) i q (by omega) (by omega)
  have m3 : ∀ q : z + a < L.length, L[z + a] = 46 := fun q => get_at (sgn neg ++ I) R 46 (by rw [hL] <;> simp) (z + a) q (by simp; omega)
  have mR : ∀ i (q : i < L.length), z + a + 1 ≤ i → i < z + a + 1 + b → 48 ≤ (L[i]).toNat ∧ (L[i]).toNat ≤ 57 := fun i q h1 h2 => ds_at ((sgn neg ++ I) ++ [46]) R [] hR (by rw [hL] <;> simp) i q (by simp; omega) (by simp; omega)
  have n0 : neg = true → ∀ q : 0 < L.length, L[0] = 45 := fun e q => by subst e; exact get_at [] ((I ++ 46 :: R)) 45 (by rw [hL] <;> rfl) 0 q rfl
  clear hL
  cases neg
  · have hz0 : z = 0 := by rw [hz]; rfl
    subst hz0
    exact js_pdf ⟨L.toArray⟩ (0 + a) (0 + a + 1) (0 + a + 1 + b) (by rw [ba_size]; omega) (by rw [ba_size]; omega) (by rw [ba_get, m1 (by omega)]; omega) (by rw [ba_get, m1 (by omega)]; exact hI3) (by rw [ba_get, m1 (by omega)]; exact m2) (by omega) (fun i q h1 h2 => by rw [ba_get]; exact mI i q (by omega) (by omega)) rfl (by omega) (by rw [ba_size]; omega) (by rw [ba_get, m3 (by omega)]; rfl) (fun i q h1 h2 => by rw [ba_get]; exact mR i q (by omega) (by omega)) (by rw [ba_size]; omega) w
  · have hz0 : z = 1 := by rw [hz]; rfl
    subst hz0
    have n0 := n0 rfl
    exact js_ndf ⟨L.toArray⟩ (1 + a) (1 + a + 1) (1 + a + 1 + b) (by rw [ba_size]; omega) (by rw [ba_size]; omega) (by rw [ba_get, n0 (by omega)]; rfl) (by rw [ba_get, m1 (by omega)]; exact hI3) (by rw [ba_get, m1 (by omega)]; exact m2) (by omega) (fun i q h1 h2 => by rw [ba_get]; exact mI i q (by omega) (by omega)) rfl (by omega) (by rw [ba_size]; omega) (by rw [ba_get, m3 (by omega)]; rfl) (fun i q h1 h2 => by rw [ba_get]; exact mR i q (by omega) (by omega)) (by rw [ba_size]; omega) w

theorem json_de (neg : Bool) (I : List UInt8) (c : UInt8) (X : List UInt8) (hI : DH I) (hc : c = 43 ∨ c = 45) (hX : DH X) (L : List UInt8) (hL : L = sgn neg ++ (I ++ 101 :: c :: X)) (h64 : L.length ≤ 64) (w : World) :
    Calls Tryd.prog 7 #[.string ⟨L.toArray⟩] w fun r w' => r = .returned (.bool true) ∧ w = w' := by
  obtain ⟨z, hz⟩ : ∃ z, z = (sgn neg).length := ⟨_, rfl⟩
  obtain ⟨a, ha⟩ : ∃ a, a = I.length := ⟨_, rfl⟩
  have hap := hI.pos
  obtain ⟨hI1, c0, t0, hI2, hI3⟩ := hI
  obtain ⟨x, hx⟩ : ∃ x, x = X.length := ⟨_, rfl⟩
  have hxp := hX.pos
  obtain ⟨hX1, x0, xt, hX2, hX3⟩ := hX
  have hl : L.length = z + a + 2 + x := by rw [hL]; simp [hz, ha, hx] <;> omega
  have m1 : ∀ q : z < L.length, L[z] = c0 := fun q => get_at (sgn neg) (t0 ++ 101 :: c :: X) c0 (by rw [hL, hI2] <;> simp) z q hz
  have m2 := (hI1 c0 (by rw [hI2]; simp)).2
  have mI : ∀ i (q : i < L.length), z ≤ i → i < z + a → 48 ≤ (L[i]).toNat ∧ (L[i]).toNat ≤ 57 := fun i q h1 h2 => ds_at (sgn neg) I (101 :: c :: X) hI1 (by rw [hL] <;> simp) i q (by omega) (by omega)
  have m4 : ∀ q : z + a < L.length, L[z + a] = 101 := fun q => get_at (sgn neg ++ I) (c :: X) 101 (by rw [hL] <;> simp) (z + a) q (by simp; omega)
  have m5 : ∀ q : z + a + 1 < L.length, L[z + a + 1] = c := fun q => get_at ((sgn neg ++ I) ++ [101]) X c (by rw [hL] <;> simp) (z + a + 1) q (by simp; omega)
  have m6 : ∀ q : z + a + 1 + 1 < L.length, L[z + a + 1 + 1] = x0 := fun q => get_at ((sgn neg ++ I) ++ [101, c]) xt x0 (by rw [hL, hX2] <;> simp) (z + a + 1 + 1) q (by simp; omega)
  have m7 := (hX1 x0 (by rw [hX2]; simp)).2
  have mX : ∀ i (q : i < L.length), z + a + 1 + 1 ≤ i → i < L.length → 48 ≤ (L[i]).toNat ∧ (L[i]).toNat ≤ 57 := fun i q h1 h2 => ds_at ((sgn neg ++ I) ++ [101, c]) X [] hX1 (by rw [hL] <;> simp) i q (by simp; omega) (by simp; omega)
  have hc2 : c.toNat = 43 ∨ c.toNat = 45 := by rcases hc with rfl | rfl <;> decide
  have n0 : neg = true → ∀ q : 0 < L.length, L[0] = 45 := fun e q => by subst e; exact get_at [] ((I ++ 101 :: c :: X)) 45 (by rw [hL] <;> rfl) 0 q rfl
  clear hL
  cases neg
  · have hz0 : z = 0 := by rw [hz]; rfl
    subst hz0
    exact js_pde ⟨L.toArray⟩ (0 + a) (0 + a + 1) (0 + a + 1 + 1) (by rw [ba_size]; omega) (by rw [ba_size]; omega) (by rw [ba_get, m1 (by omega)]; omega) (by rw [ba_get, m1 (by omega)]; exact hI3) (by rw [ba_get, m1 (by omega)]; exact m2) (by omega) (fun i q h1 h2 => by rw [ba_get]; exact mI i q (by omega) (by omega)) rfl rfl (by rw [ba_size]; omega) (by rw [ba_size]; omega) (by rw [ba_size]; omega) (by rw [ba_get, m4 (by omega)]; rfl) (by rw [ba_get, m5 (by omega)]; exact hc2) (by rw [ba_get, m6 (by omega)]; exact hX3) (by rw [ba_get, m6 (by omega)]; exact m7) (fun i q h1 h2 => by rw [ba_get]; exact mX i q (by omega) h2) w
  · have hz0 : z = 1 := by rw [hz]; rfl
    subst hz0
    have n0 := n0 rfl
    exact js_nde ⟨L.toArray⟩ (1 + a) (1 + a + 1) (1 + a + 1 + 1) (by rw [ba_size]; omega) (by rw [ba_size]; omega) (by rw [ba_get, n0 (by omega)]; rfl) (by rw [ba_get, m1 (by omega)]; exact hI3) (by rw [ba_get, m1 (by omega)]; exact m2) (by omega) (fun i q h1 h2 => by rw [ba_get]; exact mI i q (by omega) (by omega)) rfl rfl (by rw [ba_size]; omega) (by rw [ba_size]; omega) (by rw [ba_size]; omega) (by rw [ba_get, m4 (by omega)]; rfl) (by rw [ba_get, m5 (by omega)]; exact hc2) (by rw [ba_get, m6 (by omega)]; exact hX3) (by rw [ba_get, m6 (by omega)]; exact m7) (fun i q h1 h2 => by rw [ba_get]; exact mX i q (by omega) h2) w

theorem json_dfe (neg : Bool) (I : List UInt8) (R : List UInt8) (c : UInt8) (X : List UInt8) (hI : DH I) (hR0 : R ≠ []) (hR : DS R) (hc : c = 43 ∨ c = 45) (hX : DH X) (L : List UInt8) (hL : L = sgn neg ++ (I ++ 46 :: (R ++ 101 :: c :: X))) (h64 : L.length ≤ 64) (w : World) :
    Calls Tryd.prog 7 #[.string ⟨L.toArray⟩] w fun r w' => r = .returned (.bool true) ∧ w = w' := by
  obtain ⟨z, hz⟩ : ∃ z, z = (sgn neg).length := ⟨_, rfl⟩
  obtain ⟨a, ha⟩ : ∃ a, a = I.length := ⟨_, rfl⟩
  have hap := hI.pos
  obtain ⟨hI1, c0, t0, hI2, hI3⟩ := hI
  obtain ⟨b, hb⟩ : ∃ b, b = R.length := ⟨_, rfl⟩
  have hbp : 0 < R.length := List.length_pos_iff.2 hR0
  obtain ⟨x, hx⟩ : ∃ x, x = X.length := ⟨_, rfl⟩
  have hxp := hX.pos
  obtain ⟨hX1, x0, xt, hX2, hX3⟩ := hX
  have hl : L.length = z + a + 1 + b + 2 + x := by rw [hL]; simp [hz, ha, hb, hx] <;> omega
  have m1 : ∀ q : z < L.length, L[z] = c0 := fun q => get_at (sgn neg) (t0 ++ 46 :: (R ++ 101 :: c :: X)) c0 (by rw [hL, hI2] <;> simp) z q hz
  have m2 := (hI1 c0 (by rw [hI2]; simp)).2
  have mI : ∀ i (q : i < L.length), z ≤ i → i < z + a → 48 ≤ (L[i]).toNat ∧ (L[i]).toNat ≤ 57 := fun i q h1 h2 => ds_at (sgn neg) I (46 :: (R ++ 101 :: c :: X)) hI1 (by rw [hL] <;> simp) i q (by omega) (by omega)
  have m3 : ∀ q : z + a < L.length, L[z + a] = 46 := fun q => get_at (sgn neg ++ I) (R ++ 101 :: c :: X) 46 (by rw [hL] <;> simp) (z + a) q (by simp; omega)
  have mR : ∀ i (q : i < L.length), z + a + 1 ≤ i → i < z + a + 1 + b → 48 ≤ (L[i]).toNat ∧ (L[i]).toNat ≤ 57 := fun i q h1 h2 => ds_at ((sgn neg ++ I) ++ [46]) R (101 :: c :: X) hR (by rw [hL] <;> simp) i q (by simp; omega) (by simp; omega)
  have m4 : ∀ q : z + a + 1 + b < L.length, L[z + a + 1 + b] = 101 := fun q => get_at (sgn neg ++ I ++ 46 :: R) (c :: X) 101 (by rw [hL] <;> simp) (z + a + 1 + b) q (by simp; omega)
  have m5 : ∀ q : z + a + 1 + b + 1 < L.length, L[z + a + 1 + b + 1] = c := fun q => get_at ((sgn neg ++ I ++ 46 :: R) ++ [101]) X c (by rw [hL] <;> simp) (z + a + 1 + b + 1) q (by simp; omega)
  have m6 : ∀ q : z + a + 1 + b + 1 + 1 < L.length, L[z + a + 1 + b + 1 + 1] = x0 := fun q => get_at ((sgn neg ++ I ++ 46 :: R) ++ [101, c]) xt x0 (by rw [hL, hX2] <;> simp) (z + a + 1 + b + 1 + 1) q (by simp; omega)
  have m7 := (hX1 x0 (by rw [hX2]; simp)).2
  have mX : ∀ i (q : i < L.length), z + a + 1 + b + 1 + 1 ≤ i → i < L.length → 48 ≤ (L[i]).toNat ∧ (L[i]).toNat ≤ 57 := fun i q h1 h2 => ds_at ((sgn neg ++ I ++ 46 :: R) ++ [101, c]) X [] hX1 (by rw [hL] <;> simp) i q (by simp; omega) (by simp; omega)
  have hc2 : c.toNat = 43 ∨ c.toNat = 45 := by rcases hc with rfl | rfl <;> decide
  have n0 : neg = true → ∀ q : 0 < L.length, L[0] = 45 := fun e q => by subst e; exact get_at [] ((I ++ 46 :: (R ++ 101 :: c :: X))) 45 (by rw [hL] <;> rfl) 0 q rfl
  clear hL
  cases neg
  · have hz0 : z = 0 := by rw [hz]; rfl
    subst hz0
    exact js_pdfe ⟨L.toArray⟩ (0 + a) (0 + a + 1) (0 + a + 1 + b) (0 + a + 1 + b + 1) (0 + a + 1 + b + 1 + 1) (by rw [ba_size]; omega) (by rw [ba_size]; omega) (by rw [ba_get, m1 (by omega)]; omega) (by rw [ba_get, m1 (by omega)]; exact hI3) (by rw [ba_get, m1 (by omega)]; exact m2) (by omega) (fun i q h1 h2 => by rw [ba_get]; exact mI i q (by omega) (by omega)) rfl (by omega) (by rw [ba_size]; omega) (by rw [ba_get, m3 (by omega)]; rfl) (fun i q h1 h2 => by rw [ba_get]; exact mR i q (by omega) (by omega)) rfl rfl (by rw [ba_size]; omega) (by rw [ba_size]; omega) (by rw [ba_size]; omega) (by rw [ba_get, m4 (by omega)]; rfl) (by rw [ba_get, m5 (by omega)]; exact hc2) (by rw [ba_get, m6 (by omega)]; exact hX3) (by rw [ba_get, m6 (by omega)]; exact m7) (fun i q h1 h2 => by rw [ba_get]; exact mX i q (by omega) h2) w
  · have hz0 : z = 1 := by rw [hz]; rfl
    subst hz0
    have n0 := n0 rfl
    exact js_ndfe ⟨L.toArray⟩ (1 + a) (1 + a + 1) (1 + a + 1 + b) (1 + a + 1 + b + 1) (1 + a + 1 + b + 1 + 1) (by rw [ba_size]; omega) (by rw [ba_size]; omega) (by rw [ba_get, n0 (by omega)]; rfl) (by rw [ba_get, m1 (by omega)]; exact hI3) (by rw [ba_get, m1 (by omega)]; exact m2) (by omega) (fun i q h1 h2 => by rw [ba_get]; exact mI i q (by omega) (by omega)) rfl (by omega) (by rw [ba_size]; omega) (by rw [ba_get, m3 (by omega)]; rfl) (fun i q h1 h2 => by rw [ba_get]; exact mR i q (by omega) (by omega)) rfl rfl (by rw [ba_size]; omega) (by rw [ba_size]; omega) (by rw [ba_size]; omega) (by rw [ba_get, m4 (by omega)]; rfl) (by rw [ba_get, m5 (by omega)]; exact hc2) (by rw [ba_get, m6 (by omega)]; exact hX3) (by rw [ba_get, m6 (by omega)]; exact m7) (fun i q h1 h2 => by rw [ba_get]; exact mX i q (by omega) h2) w

/-- isJSONNumberB2 at a number's text -/
theorem json_shape {neg ex : Bool} {L : List UInt8} (h : Shape neg ex L) (h64 : L.length ≤ 64) (w : World) :
    Calls Tryd.prog 7 #[.string ⟨L.toArray⟩] w fun r w' => r = .returned (.bool true) ∧ w = w' := by
  cases h with
  | z => exact json_z _ _ rfl h64 w
  | zf R h1 h2 => exact json_zf _ R h1 h2 _ rfl h64 w
  | d I h1 => exact json_d _ I h1 _ rfl h64 w
  | df I R h1 h2 h3 => exact json_df _ I R h1 h2 h3 _ rfl h64 w
  | de I c X h1 h2 h3 => exact json_de _ I c X h1 h2 h3 _ rfl h64 w
  | dfe I R c X h1 h2 h3 h4 h5 => exact json_dfe _ I R c X h1 h2 h3 h4 h5 _ rfl h64 w
end Go.Proofs.YtkincdcknmdboaaDoor
