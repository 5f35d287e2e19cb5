/-
  THE SEAT ouap. Rows.FnToArrayWrapsScalarsKeepsArraysSaid, PROVED.
-/
import Derived.Test.YouapwWraps
import Derived.Test.YouapwOpen
import Derived.Laws.Cover2
namespace Go.Proofs.Youapw
open Go.ChangeShapes Go.WideShapes Go.ChangeAt Go.RowKit
open Go.ChangeMaps (open_string shut_string)

set_option maxRecDepth 100000 in
theorem wraps_lifted (os : Os) (started : os.Started) (H : Type) (enc : TypeId × Value → H) :
    ReturnsInHanded {} Uapg.checked os 3 .any (Rows.fnToArrayWrapsScalarsKeepsArraysSpec.pre6 enc Uapg.prog Uapg.f3 Rows.fnToArrayWrapsScalarsKeepsArraysRow.domain false) (Rows.fnToArrayWrapsScalarsKeepsArraysSpec.post enc Uapg.prog Uapg.f3 false true false false) := by
  refine returnsInHanded_of_change (C := Uapg.checked) Uapg.own started (by kernel_rfl) Uapg.func3
    (ChangeSpec.witness6 (enc := enc) (C := Uapg.checked) false ⟨#[], #[.string ByteArray.empty, .slice none 0 0, .float .f64 0], []⟩ 8 (by kernel_rfl) (by kernel_rfl) (by kernel_rfl) (by kernel_rfl)) ?_
  intro W base args ds gs before hval0 hW hcnd _
  have hval : ∀ (j : Nat) t v, Uapg.f3.params[j]? = some t → args[j]? = some v → Value.okWide Uapg.prog W .any base t v := hval0
  have hW' := hW
  obtain ⟨p, q, hA0, hV, rfl, hfz, hnd⟩ := hW
  have hA : DataW.TrodAll enc Uapg.prog W 0 (fun _ => true) true Uapg.f3.params.toList args.toList ds p := hA0
  rw [Uapg.params3] at hA hval
  obtain ⟨v0, v1, v2, d0, d1, d2, p0, p1, p2, rfl, rfl, rfl, h0, h1, h2⟩ := trodAll_three hA
  obtain ⟨rfl, rfl⟩ := trodVars_none hV
  obtain ⟨x, rfl, rfl, rfl, hx⟩ := open_string Uapg.underlying9 (hval 0 9 v0 rfl rfl) h0
  obtain ⟨a1, len1, cap1, rfl⟩ := okWide_slice Uapg.underlying22 (hval 1 22 v1 rfl rfl)
  obtain ⟨y, rfl, rfl, rfl, wy⟩ := open_float Uapg.underlying23 (hval 2 23 v2 rfl rfl) h2
  clear hA0 hval0 hA
  simp only [List.append_nil, List.nil_append] at hW'
  have hlt1 : ∀ x ∈ p1, x.block < W.heap.size := fun x hx => by simpa using hW'.lt x hx
  obtain ⟨hn, sf, hv⟩ := view_strings h1 hlt1
  refine (wraps_any x y a1 len1 cap1 sf W hv hx hn).mono fun e W' ⟨he, hb⟩ => ?_
  subst he
  refine ⟨_, rfl, _, _, _, [], p1, [], hW', ?_, ?_, rfl, hb.frame _, fun h => by cases h⟩
  · exact trodAll_mk1 (shut_bool Uapg.underlying4 true)
  · have T := trodAll_mk3 (shut_string (enc := enc) (w := W') (base := 0) (sp := fun b => decide (b < W.heap.size)) Uapg.underlying9 hx) (Below.trod Uapg.laidOut (by kernel_rfl) (of_decide_eq_true (by kernel_rfl)) h1 hb hlt1) (shut_float (enc := enc) (w := W') (base := 0) (spare := fun b => decide (b < W.heap.size)) (held := true) Uapg.underlying23 wy)
    simp only [List.nil_append, List.append_nil] at T
    exact T

theorem fnToArrayWrapsScalarsKeepsArrays_holds : Rows.FnToArrayWrapsScalarsKeepsArraysSaid :=
  OpenClaim.holds_of_wide 3 Uapg.f3 rfl rfl rfl rfl rfl rfl rfl ⟨rfl, rfl, rfl, rfl, rfl⟩ rfl rfl rfl rfl rfl (by kernel_rfl) Uapg.func3 (by kernel_rfl)
    (of_decide_eq_true (by kernel_rfl)) (by unfold Func.isWrapper; first | (rw [if_pos (by decide +kernel)]; kernel_rfl) | (rw [if_neg (by decide +kernel)]; exact ⟨rfl, rfl⟩))
    (fun os started H enc _ => wraps_lifted os started H enc)

end Go.Proofs.Youapw
