/-
  Statement 5: FnAugmentCheapestFirstWayIsCheapestSaid.
-/
import Derived.Test.Qxb6605292aOpen2
import Derived.Test.Qxb6605292aLawF
namespace Go.Proofs.Qxb6605292a.fnAugmentCheapestFirstWayIsCheapest
open Go.ChangeShapes Go.WideShapes Go.ChangeAt Go.RowKit

set_option maxRecDepth 100000 in
theorem lifted (os : Os) (started : os.Started) (H : Type) (enc : TypeId × Value → H) :
    ReturnsInHanded {} Try.checked os 8 .any (Rows.fnAugmentCheapestFirstWayIsCheapestSpec.pre6 enc Try.prog Try.f8 Rows.fnAugmentCheapestFirstWayIsCheapestRow.domain false) (Rows.fnAugmentCheapestFirstWayIsCheapestSpec.post enc Try.prog Try.f8 false true false false) := by
  refine returnsInHanded_of_change (C := Try.checked) Try.own started (by kernel_rfl) Try.func8
    (ChangeSpec.witness6 (enc := enc) (C := Try.checked) false ⟨#[], #[.int .i64 0, .bool false, .slice none 0 0, .slice none 0 0, .int .i64 0, .slice none 0 0, .slice none 0 0, .int .i64 0], []⟩ 8 (by kernel_rfl) (by kernel_rfl) (by kernel_rfl) (by kernel_rfl)) ?_
  intro W base args ds gs before hval0 hW hcnd _
  have hval : ∀ (j : Nat) t v, Try.f8.params[j]? = some t → args[j]? = some v → Value.okWide Try.prog W .any base t v := hval0
  have hW' := hW
  obtain ⟨p, q, hA0, hV, rfl, hfz, hnd⟩ := hW
  have hA : DataW.TrodAll enc Try.prog W 0 (fun _ => true) true Try.f8.params.toList args.toList ds p := hA0
  rw [Try.params8] at hA hval
  obtain ⟨v0, vs0, d0, ds0, p0, q0, hargs, rfl, rfl, h0, r0⟩ := trodAll_cons hA
  obtain ⟨v1, vs1, d1, ds1, p1, q1, rfl, rfl, rfl, h1, r1⟩ := trodAll_cons r0
  obtain ⟨v2, vs2, d2, ds2, p2, q2, rfl, rfl, rfl, h2, r2⟩ := trodAll_cons r1
  obtain ⟨v3, vs3, d3, ds3, p3, q3, rfl, rfl, rfl, h3, r3⟩ := trodAll_cons r2
  obtain ⟨v4, vs4, d4, ds4, p4, q4, rfl, rfl, rfl, h4, r4⟩ := trodAll_cons r3
  obtain ⟨v5, vs5, d5, ds5, p5, q5, rfl, rfl, rfl, h5, r5⟩ := trodAll_cons r4
  obtain ⟨v6, vs6, d6, ds6, p6, q6, rfl, rfl, rfl, h6, r6⟩ := trodAll_cons r5
  obtain ⟨v7, vs7, d7, ds7, p7, q7, rfl, rfl, rfl, h7, r7⟩ := trodAll_cons r6
  obtain ⟨rfl, rfl, rfl⟩ := trodAll_nil r7
  obtain rfl : args = #[v0, v1, v2, v3, v4, v5, v6, v7] := by cases args; simp_all
  obtain ⟨rfl, rfl⟩ := trodVars_none hV
  have k0 := h0
  have k1 := h1
  have k2 := h2
  have k3 := h3
  have k4 := h4
  have k5 := h5
  have k6 := h6
  have k7 := h7
  obtain ⟨n, rfl, rfl, rfl, wn⟩ := open_int Try.underlying3 (hval 0 3 v0 rfl rfl) h0
  obtain ⟨lk, rfl, rfl, rfl⟩ := open_bool Try.underlying4 (hval 1 4 v1 rfl rfl) h1
  obtain ⟨rows, hrs⟩ := open_rsl (hval 2 22 v2 rfl rfl) h2
  obtain ⟨ws, hks⟩ := open_ksl (hval 3 23 v3 rfl rfl) h3
  obtain ⟨i, rfl, rfl, rfl, wi⟩ := open_int Try.underlying3 (hval 4 3 v4 rfl rfl) h4
  obtain ⟨xs, hxs⟩ := open_bsl (hval 5 36 v5 rfl rfl) h5
  obtain ⟨ks, hkk⟩ := open_bsl (hval 6 36 v6 rfl rfl) h6
  obtain ⟨i2, rfl, rfl, rfl, wi2⟩ := open_int Try.underlying3 (hval 7 3 v7 rfl rfl) h7
  clear hA0 hval0
  have hltAll : ∀ x ∈ ([] ++ ([] ++ (p2 ++ (p3 ++ ([] ++ (p5 ++ (p6 ++ ([] ++ [])))))))) ++ [], x.block < W.heap.size := fun x hx => hW'.lt x hx
  have hlt2 : ∀ x ∈ p2, x.block < W.heap.size := fun x hx => hltAll x (by simp [hx])
  have hlt3 : ∀ x ∈ p3, x.block < W.heap.size := fun x hx => hltAll x (by simp [hx])
  have hlt5 : ∀ x ∈ p5, x.block < W.heap.size := fun x hx => hltAll x (by simp [hx])
  have hlt6 : ∀ x ∈ p6, x.block < W.heap.size := fun x hx => hltAll x (by simp [hx])
  have no : ∀ x ∈ ([] : List MemPlace), x.block < W.heap.size := fun x hx => by cases hx
  refine (law5_any n i i2 lk v2 v3 v5 v6 rows ws xs ks W hrs hks hxs hkk).mono fun e W' ⟨he, hb⟩ => ?_
  subst he
  refine ⟨_, rfl, ⟨_, _, _, [], [] ++ ([] ++ (p2 ++ (p3 ++ ([] ++ (p5 ++ (p6 ++ ([] ++ []))))))), [], hW', trodAll_mk1 (shut_bool Try.underlying4 _), ?_, rfl, hb.frame _, fun h => by cases h⟩⟩
  exact trodAll_cons_mk (Below.trod Try.laidOut (by kernel_rfl) (of_decide_eq_true (by kernel_rfl)) k0 hb no) (trodAll_cons_mk (Below.trod Try.laidOut (by kernel_rfl) (of_decide_eq_true (by kernel_rfl)) k1 hb no)
    (trodAll_cons_mk (Below.trod Try.laidOut (by kernel_rfl) (of_decide_eq_true (by kernel_rfl)) k2 hb hlt2) (trodAll_cons_mk (Below.trod Try.laidOut (by kernel_rfl) (of_decide_eq_true (by kernel_rfl)) k3 hb hlt3)
      (trodAll_cons_mk (Below.trod Try.laidOut (by kernel_rfl) (of_decide_eq_true (by kernel_rfl)) k4 hb no) (trodAll_cons_mk (Below.trod Try.laidOut (by kernel_rfl) (of_decide_eq_true (by kernel_rfl)) k5 hb hlt5)
        (trodAll_cons_mk (Below.trod Try.laidOut (by kernel_rfl) (of_decide_eq_true (by kernel_rfl)) k6 hb hlt6) (trodAll_cons_mk (Below.trod Try.laidOut (by kernel_rfl) (of_decide_eq_true (by kernel_rfl)) k7 hb no) trodAll_mk0)))))))

theorem proved : Rows.FnAugmentCheapestFirstWayIsCheapestSaid :=
  OpenClaim.holds_of_wide 8 Try.f8 rfl rfl rfl rfl rfl rfl rfl ⟨rfl, rfl, rfl, rfl, rfl⟩ rfl rfl rfl rfl rfl (by kernel_rfl) Try.func8 (by kernel_rfl)
    (of_decide_eq_true (by kernel_rfl)) (by unfold Func.isWrapper; first | (rw [if_pos (by decide +kernel)]; kernel_rfl) | (rw [if_neg (by decide +kernel)]; exact ⟨rfl, rfl⟩))
    (fun os started H enc _ => lifted os started H enc)
end Go.Proofs.Qxb6605292a.fnAugmentCheapestFirstWayIsCheapest
