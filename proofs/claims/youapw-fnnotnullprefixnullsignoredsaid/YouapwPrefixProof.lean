/-
  THE SEAT ouap. Rows.FnNotNullPrefixNullsIgnoredSaid, PROVED.
-/
import Derived.Test.YouapwPrefix
import Derived.Test.YouapwOpen
namespace Go.Proofs.Youapw
open Go.ChangeShapes Go.WideShapes Go.ChangeAt Go.RowKit

set_option maxRecDepth 100000 in
theorem ahead_lifted (os : Os) (started : os.Started) (H : Type) (enc : TypeId × Value → H) :
    ReturnsInHanded {} Uapg.checked os 6 .any (Rows.fnNotNullPrefixNullsIgnoredSpec.pre6 enc Uapg.prog Uapg.f6 Rows.fnNotNullPrefixNullsIgnoredRow.domain false) (Rows.fnNotNullPrefixNullsIgnoredSpec.post enc Uapg.prog Uapg.f6 false true false false) := by
  refine returnsInHanded_of_change (C := Uapg.checked) Uapg.own started (by kernel_rfl) Uapg.func6
    (ChangeSpec.witness6 (enc := enc) (C := Uapg.checked) false ⟨#[], #[.slice none 0 0, .slice none 0 0, .int .i64 0], []⟩ 8 (by kernel_rfl) (by kernel_rfl) (by kernel_rfl) (by kernel_rfl)) ?_
  intro W base args ds gs before hval0 hW hcnd _
  have hval : ∀ (j : Nat) t v, Uapg.f6.params[j]? = some t → args[j]? = some v → Value.okWide Uapg.prog W .any base t v := hval0
  have hW' := hW
  obtain ⟨p, q, hA0, hV, rfl, hfz, hnd⟩ := hW
  have hA : DataW.TrodAll enc Uapg.prog W 0 (fun _ => true) true Uapg.f6.params.toList args.toList ds p := hA0
  rw [Uapg.params6] at hA hval
  obtain ⟨v0, v1, v2, d0, d1, d2, p0, p1, p2, rfl, rfl, rfl, h0, h1, h2⟩ := trodAll_three hA
  obtain ⟨rfl, rfl⟩ := trodVars_none hV
  obtain ⟨a0, len0, cap0, rfl⟩ := okWide_slice Uapg.underlying36 (hval 0 36 v0 rfl rfl)
  obtain ⟨a1, len1, cap1, rfl⟩ := okWide_slice Uapg.underlying22 (hval 1 22 v1 rfl rfl)
  obtain ⟨x, rfl, rfl, rfl, wx⟩ := open_int Uapg.underlying3 (hval 2 3 v2 rfl rfl) h2
  clear hA0 hval0 hA
  simp only [List.append_nil] at hW'
  have hlt : ∀ x ∈ p0 ++ p1, x.block < W.heap.size := fun x hx => by simpa using hW'.lt x (by simpa using hx)
  have hlt0 : ∀ x ∈ p0, x.block < W.heap.size := fun x hx => hlt x (List.mem_append_left _ hx)
  have hlt1 : ∀ x ∈ p1, x.block < W.heap.size := fun x hx => hlt x (List.mem_append_right _ hx)
  obtain ⟨hm, pf, hu⟩ := view_bools h0 hlt0
  obtain ⟨hn, sf, hv⟩ := view_strings h1 hlt1
  refine (ahead_any a0 len0 cap0 a1 len1 cap1 x pf sf W hu hv hm hn).mono fun e W' ⟨he, hb⟩ => ?_
  subst he
  refine ⟨_, rfl, _, _, _, [], p0 ++ p1, [], hW', ?_, ?_, rfl, hb.frame _, fun h => by cases h⟩
  · exact trodAll_mk1 (shut_bool Uapg.underlying4 true)
  · have T := trodAll_mk3 (Below.trod Uapg.laidOut (by kernel_rfl) (of_decide_eq_true (by kernel_rfl)) h0 hb hlt0) (Below.trod Uapg.laidOut (by kernel_rfl) (of_decide_eq_true (by kernel_rfl)) h1 hb hlt1) (shut_int (enc := enc) (w := W') (base := 0) (spare := fun b => decide (b < W.heap.size)) (held := true) Uapg.underlying3 wx)
    simp only [List.append_nil] at T
    exact T

theorem fnNotNullPrefixNullsIgnored_holds : Rows.FnNotNullPrefixNullsIgnoredSaid :=
  OpenClaim.holds_of_wide 6 Uapg.f6 rfl rfl rfl rfl rfl rfl rfl ⟨rfl, rfl, rfl, rfl, rfl⟩ rfl rfl rfl rfl rfl (by kernel_rfl) Uapg.func6 (by kernel_rfl)
    (of_decide_eq_true (by kernel_rfl)) (by unfold Func.isWrapper; first | (rw [if_pos (by decide +kernel)]; kernel_rfl) | (rw [if_neg (by decide +kernel)]; exact ⟨rfl, rfl⟩))
    (fun os started H enc _ => ahead_lifted os started H enc)

end Go.Proofs.Youapw
