/- The walks of zzObjOf and of has on an object. -/
import Derived.Maps.Own
import Derived.Maps.OwnSet
import Derived.Maps.OwnOps
import Derived.Test.YthhfmmbealhdfaaGreatDoorHA
import Derived.Test.YthhfmmbealhdfaaGreatDoorZT
namespace Go.Proofs.YthhfmmbealhdfaaGreatDoor
open Go.RowKit Go.Maps
set_option linter.unusedVariables false

/-- how nil in an interface reads here -/
def nilElem : Value → Option (DataW Unit × List MemPlace)
  | .nilIface => some (.agg [], [])
  | _ => none
theorem nilElem_inv {v : Value} {z : DataW Unit × List MemPlace} (h : nilElem v = some z) : v = .nilIface := by
  unfold nilElem at h
  cases v <;> simp at h
  rfl

/-- the object of the first k keys -/
def mapOf (ss : List ByteArray) : Nat → DataW Unit
  | 0 => .map []
  | k + 1 => (mapOf ss k).put (.string (ss.getD k ByteArray.empty).data.toList) (.agg [])
theorem mapOf_isMap (ss : List ByteArray) : ∀ k, IsMap (mapOf ss k)
  | 0 => isMap_empty
  | k + 1 => (mapOf_isMap ss k).put _ _
theorem key_inj {a b : ByteArray} (h : a.data.toList = b.data.toList) : a = b := ByteArray.ext (Array.toList_inj.1 h)
theorem mapOf_has (ss : List ByteArray) (x : ByteArray) : ∀ k, Maps.has (mapOf ss k) (.string x.data.toList) = decide (∃ j, j < k ∧ ss.getD j ByteArray.empty = x)
  | 0 => by
    rw [decide_eq_false (fun ⟨j, hj, _⟩ => absurd hj (by omega))]
    rfl
  | k + 1 => by
    have ih := mapOf_has ss x k
    show Maps.has ((mapOf ss k).put _ _) _ = _
    by_cases q : ss.getD k ByteArray.empty = x
    · rw [q, has_put_same (mapOf_isMap ss k) (by trivial)]
      exact (decide_eq_true ⟨k, by omega, q⟩).symm
    · rw [has_put_other (fun e => q (key_inj (by simpa using e.symm))), ih]
      by_cases p : ∃ j, j < k ∧ ss.getD j ByteArray.empty = x
      · obtain ⟨j, hj, e⟩ := p
        rw [decide_eq_true ⟨j, hj, e⟩, decide_eq_true ⟨j, by omega, e⟩]
      · rw [decide_eq_false p, decide_eq_false]
        rintro ⟨j, hj, e⟩
        by_cases z : j = k
        · subst z; exact q e
        · exact p ⟨j, by omega, e⟩

theorem law : Keyed Tryz.prog 9 := string_keyed Tryz.underlying9
theorem zeroI (w : World) : (zeroValue 20).run Tryz.prog w = .ok .nilIface w := by kernel_rfl

theorem make_map (n : Nat) (hn : n ≤ 1048576) (w : World) : (Instr.makeMap 41 (some (.int .i64 (n : Int)))).run Tryz.prog w = .ok (.map (some w.heap.size)) (w.alloc (.map #[] 0)) := by
  have h1 := run_underlying (w := w) Tryz.underlying41
  simp [Instr.makeMap, asInt, asIntOf, h1]

set_option maxRecDepth 100000 in
theorem objOf_any (a : Option Addr) (cap : Nat) (ss : List ByteArray) (w : World) (h : SlotsAt w a (ss.map Value.string)) (hn : ss.length ≤ 65536) (hz : ∀ j, j < ss.length → (ss.getD j ByteArray.empty).size ≤ 1048576) :
    Calls Tryz.prog 21 #[.slice a ss.length cap] w fun r w' => ∃ b, r = .returned (.map (some b)) ∧ w'.ownsMap Tryz.prog 9 nilElem b ss.length (mapOf ss ss.length) ∧ Below w.heap.size w w' := by
  have H := Lib.hid h
  have HZ := Lib.hid hz
  clear h hz
  have hmk := make_map ss.length (by omega)
  go_enter Tryz.func21, Tryz.ntmps21
  go_wp2_with fail
  go_loopw [11] (fun vi wr => ∃ k : Nat, vi = .int .i64 k ∧ k ≤ ss.length ∧ Hid (wr.ownsMap Tryz.prog 9 nilElem w.heap.size k (mapOf ss k)) ∧ Hid (Below w.heap.size w wr)) (fun vi _ => ss.length - (intOf vi).toNat)
  case atStart => exact ⟨0, rfl, Nat.zero_le _, Lib.hid (World.ownsMap_made _ _ _ _), Lib.hid ((Below.refl _ _).alloc (Nat.le_refl _) _)⟩
  case round =>
    obtain ⟨k, rfl, hk, HO, HB⟩ := hrel
    clear hmk
    by_cases hlt : k < ss.length
    · obtain ⟨b, off, rfl, c1⟩ := H.out.str HB.out hlt
      have hz1 := HZ.out k hlt
      have HP : Hid (mapOf ss (k + 1) = (mapOf ss k).put (.string (ss.getD k ByteArray.empty).data.toList) (.agg [])) := Lib.hid rfl
      obtain ⟨y, hy⟩ : ∃ y, y = ss.getD k ByteArray.empty := ⟨_, rfl⟩
      rw [← hy] at c1 hz1 HP
      clear hy
      have hkey : keyOf Tryz.prog 9 (.string y) = some (.string y.data.toList) := Go.WideMaps.keyOf_string_mk Tryz.underlying9 (by unfold maxLen; omega)
      have HK := Lib.hid hkey
      clear hkey
      go_wp2_with (at_mapUpdate; refine wpList_mapUpdate_own _ rfl _ _ _ 41 rfl 9 20 law Tryz.underlying41 nilElem w.heap.size k (mapOf ss k) rfl HO.out (by unfold maxLen; omega) (.string y) .nilIface (.string y.data.toList) rfl rfl HK.out (.agg []) [] rfl ?_; intro w2 hown2 hgrow2; have HO2 := Lib.hid hown2; have HB2 := Lib.hid (HB.out.grown hgrow2 HB.out.size (fun j hj => by cases hj; exact Nat.le_refl _)); clear hown2 hgrow2)
      go_roundw
      case rel => exact ⟨k + 1, by go_num, by omega, Lib.hid (by rw [HP.out]; exact HO2.out), HB2⟩
      case measure => simp [intOf]; omega
    · obtain rfl : k = ss.length := by omega
      go_wp2_with fail
      go_ret
      exact ⟨_, rfl, HO.out, HB.out⟩
end Go.Proofs.YthhfmmbealhdfaaGreatDoor
