/-
  The law FnTableColumnFirstMatch (f5), walked.
-/
import Derived.Test.Qxb6600501aColD
import Derived.Laws.StructEq
import Derived.Deep.QuietTactic
namespace Go.Proofs.Qxb6600501a
open Go.RowKit

set_option maxRecDepth 100000 in
theorem eql_col (w : World) (c : Col) : (binOp .eql 32 c.v c.v).run Try.prog w = .ok (.bool true) w := by
  obtain ⟨a, b, c, d, e, f, g, h, i⟩ := c
  unfold Col.v Col.cells
  have hS : Try.prog.underlying 32 = some (.struct (Try.prog.fieldsOf 32)) := by kernel_rfl
  have hp : Try.prog.stoodInHeld 32 = false := by kernel_rfl
  rw [run_eql_struct, show (10000 : Nat) = 9999 + 1 from rfl, run_equalIn_agg w 9999 32 _ _ hS hp]
  simp only [Program.fieldsOf, Try.underlying32]
  go_simp
theorem guard_col (w : World) (op : BinOp) (x y : Operand) (c d : Col) : (eqGuard op 32 x y c.v d.v).run Try.prog w = .ok () w := run_eqGuard_agg w op 32 x y _ _ (by kernel_rfl)

/-- What the law's own loop holds: it has looked at all places behind i. -/
def JI (ns : List ByteArray) (nm : ByteArray) (i z : Int) : Prop :=
  (z = -1 ∧ ∀ (m : Nat) (hm : m < ns.length), i < m → ns[m].toList ≠ nm.toList) ∨
  ∃ j : Nat, z = (j : Int) ∧ i < j ∧ ∃ hj : j < ns.length, ns[j].toList = nm.toList ∧ ∀ (m : Nat) (hm : m < ns.length), i < m → m < j → ns[m].toList ≠ nm.toList
theorem JI.hit {ns : List ByteArray} {nm : ByteArray} {m : Nat} (hm : m < ns.length) (he : ns[m].toList = nm.toList) : JI ns nm ((m : Int) - 1) (m : Int) :=
  .inr ⟨m, rfl, by omega, hm, he, fun k _ h1 h2 => by omega⟩
theorem JI.miss {ns : List ByteArray} {nm : ByteArray} {m : Nat} {z : Int} (h : JI ns nm (m : Int) z) (hm : m < ns.length) (he : ns[m].toList ≠ nm.toList) : JI ns nm ((m : Int) - 1) z := by
  rcases h with ⟨h1, h2⟩ | ⟨j, h1, h2, hj, h3, h4⟩
  · refine .inl ⟨h1, fun k hk hi => ?_⟩
    by_cases e : k = m
    · subst e; exact he
    · exact h2 k hk (by omega)
  · refine .inr ⟨j, h1, by omega, hj, h3, fun k hk hi hkj => ?_⟩
    by_cases e : k = m
    · subst e; exact he
    · exact h4 k hk (by omega) hkj
theorem name_at {cs : List Col} {ns : List ByteArray} (h : cs.map Col.a = ns) {i : Nat} {d : Col} (hd : cs[i]? = some d) : ∃ hi : i < ns.length, ns[i] = d.a := by
  subst h
  have hl := (List.getElem?_eq_some_iff.1 hd).1
  refine ⟨by simpa using hl, ?_⟩
  have := (List.getElem?_eq_some_iff.1 hd).2
  simp [this]
/-- No column has the name. -/
theorem First.none {cs : List Col} {ns : List ByteArray} {nm : ByteArray} {c : Col} {ok : Bool} (h : First cs nm c ok) (hm : cs.map Col.a = ns) (hn : ∀ (m : Nat) (hm : m < ns.length), ns[m].toList ≠ nm.toList) : ok = false ∧ c = zeroCol := by
  rcases h with ⟨_, j, hj, hc, _⟩ | ⟨h1, h2, _⟩
  · obtain ⟨hl, e⟩ := name_at hm hj
    exact absurd (by rw [e]; exact hc) (hn j hl)
  · exact ⟨h1, h2⟩
/-- The first that has it stands at j. -/
theorem First.at {cs : List Col} {ns : List ByteArray} {nm : ByteArray} {c : Col} {ok : Bool} (h : First cs nm c ok) (hm : cs.map Col.a = ns) {j : Nat} (hj : j < ns.length) (he : ns[j].toList = nm.toList) (hf : ∀ (m : Nat) (hm : m < ns.length), m < j → ns[m].toList ≠ nm.toList) : ok = true ∧ cs[j]? = some c := by
  have hlen : cs.length = ns.length := by rw [← hm, List.length_map]
  have hd : cs[j]? = some (cs[j]'(by omega)) := List.getElem?_eq_getElem (by omega)
  obtain ⟨_, e⟩ := name_at hm hd
  rcases h with ⟨h1, k, hk, hc, hb⟩ | ⟨_, _, h3⟩
  · obtain ⟨hkl, ek⟩ := name_at hm hk
    have e1 : ¬ j < k := fun hjk => hb j _ hjk hd (by rw [← e]; exact he)
    have e2 : ¬ k < j := fun hkj => hf k hkl hkj (by rw [ek]; exact hc)
    have : k = j := by omega
    subst this
    exact ⟨h1, hk⟩
  · exact absurd (by rw [← e]; exact he) (h3 j _ hd)
def LawR (w : World) (e : Ending) (w' : World) : Prop := e = .returned (.bool true) ∧ Below w.heap.size w w'

set_option maxRecDepth 100000 in
set_option maxHeartbeats 1600000 in
theorem law_any (v : Value) (ns : List ByteArray) (nm : ByteArray) (w : World) (hv : SSl w v ns) (hs : nm.size ≤ 9223372036854775807) (hn : ∀ x ∈ ns, x.size ≤ 9223372036854775807) :
    Calls Try.prog 5 #[v, .string nm] w fun e w' => LawR w e w' := by
  have HV : Hid (SSl w v ns) := hv
  have HN : Hid (∀ x ∈ ns, x.size ≤ 9223372036854775807) := hn
  have HQ : Hid (LawR w (.returned (.bool true)) w) := ⟨rfl, Below.refl _ _⟩
  obtain ⟨ao, cap, rfl, hm, _⟩ := hv
  unfold maxLen at hm
  clear hn
  go_enter Try.func5, Try.ntmps5
  go_wp2_with fail
  refine (bytes_any _ ns nm w HV.out hs HN.out).mono ?_
  rintro e w1 ⟨⟨r, rfl⟩, rfl⟩
  cases r with
  | false =>
    go_wp2
    go_ret
    exact HQ.out
  | true =>
    by_cases g1 : (65536 : Int) < ns.length
    · go_wp2
      go_ret
      exact HQ.out
    · by_cases g2 : (1048576 : Int) < nm.size
      · go_wp2
        go_ret
        exact HQ.out
      · have g1' : ns.length ≤ 65536 := by omega
        go_wp2_with fail
        refine (names_any _ ns _ HV.out g1' HN.out).mono ?_
        rintro e w2 ⟨⟨t, rfl, ht⟩, rfl⟩
        by_cases g3 : (1048576 : Int) < (nm.size : Int) + t
        · go_wp2
          go_ret
          exact HQ.out
        · go_wp2_with fail
          refine (clone_any _ ns _ HV.out (by omega)).mono ?_
          rintro e w3 ⟨v2, rfl, hv2, hb3⟩
          have HV3 : Hid (SSl w3 v2 ns) := hv2
          have HB3 : Hid (Below w2.heap.size w2 w3) := hb3
          obtain ⟨ao2, cap2, rfl, _⟩ := hv2
          clear hb3 HV HQ HN
          go_wp2_with fail
          refine (make_any _ ns _ HV3.out g1').mono ?_
          rintro e w4 ⟨g, cs, rfl, hcs, hco, hg, hgl, hb4⟩
          have HV4 : Hid (SSl w4 (.slice ao2 ns.length cap2) ns) := HV3.out.later hb4
          have HB4 : Hid (Below w2.heap.size w2 w4) := below_all HB3.out hb4
          have HCS : Hid (cs.map Col.a = ns) := hcs
          have HCO : Hid (ColsAt w4 g cs) := hco
          have hcl : cs.length = ns.length := by rw [← hcs, List.length_map]
          have HTB : Hid (Calls Try.prog 16 #[.slice (some ⟨g, 0, none⟩) ns.length ns.length, .string nm] w4 fun e w' => TabR w4 cs nm e w') := by
            have h := table_any w4 g cs nm hco (by omega) hgl
            rw [hcl] at h
            exact h
          clear hcs hco hg hgl hb4 HV3 HB3
          go_wp2_with fail
          refine HTB.out.mono ?_
          rintro e w5 ⟨c, ok, rfl, hfi, hb5⟩
          have HFI : Hid (First cs nm c ok) := hfi
          obtain ⟨a1, a2, a3, a4, a5, a6, a7, a8, a9⟩ := c
          have hbl := below_all hb5 (below_laid w5 (.cells #[.string a1, .string a2, .bool a3, .bool a4, .string a5, .string a6, .string a7, .string a8, .string a9] 32))
          have HV6 : Hid (SSl (w5.alloc (.cells #[.string a1, .string a2, .bool a3, .bool a4, .string a5, .string a6, .string a7, .string a8, .string a9] 32)) (.slice ao2 ns.length cap2) ns) := HV4.out.later hbl
          have HC6 : Hid (ColsAt (w5.alloc (.cells #[.string a1, .string a2, .bool a3, .bool a4, .string a5, .string a6, .string a7, .string a8, .string a9] 32)) g cs) := HCO.out.later hbl
          have HB6 : Hid (Below w2.heap.size w2 (w5.alloc (.cells #[.string a1, .string a2, .bool a3, .bool a4, .string a5, .string a6, .string a7, .string a8, .string a9] 32))) := below_all HB4.out hbl
          clear hbl hb5 hfi HTB HV4 HCO HB4
          unfold Col.v Col.cells
          go_wp2
          go_loop [8, 9] (fun a b => ∃ i z : Int, -1 ≤ i ∧ i < ns.length ∧ b = .int .i64 i ∧ a = .int .i64 z ∧ Hid (JI ns nm i z)) (fun _ b => (intOf b + 1).toNat)
          case atStart => exact ⟨(ns.length : Int) - 1, -1, by omega, by omega, by go_num, rfl, .inl ⟨rfl, fun m hm hi => by omega⟩⟩
          case round =>
            obtain ⟨i, z, hi1, hi2, rfl, rfl, HJ⟩ := hrel
            by_cases hi0 : 0 ≤ i
            · obtain ⟨m, rfl⟩ : ∃ m : Nat, i = (m : Int) := Int.eq_ofNat_of_zero_le hi0
              have hml : m < ns.length := by omega
              obtain ⟨_, _, e0, _, _, hc0⟩ := HV6.out
              cases e0
              obtain ⟨b, off, rfl, hc⟩ := hc0 m hml
              clear hc0
              by_cases heq : ns[m].toList = nm.toList
              · have HJ2 : Hid (JI ns nm ((m : Int) - 1) m) := JI.hit hml heq
                have hbb : (ns[m].toList == nm.toList) = true := by rw [beq_iff_eq]; exact heq
                generalize ns[m] = nk at *
                clear heq HJ
                go_wp2
                go_round
                case rel => exact ⟨(m : Int) - 1, m, by omega, by omega, by go_num, rfl, HJ2⟩
                case measure => simp [intOf] <;> omega
              · have HJ2 : Hid (JI ns nm ((m : Int) - 1) z) := HJ.out.miss hml heq
                have hbb : (ns[m].toList == nm.toList) = false := by rw [beq_eq_false_iff_ne]; exact heq
                generalize ns[m] = nk at *
                clear heq HJ
                go_wp2
                go_round
                case rel => exact ⟨(m : Int) - 1, z, by omega, by omega, by go_num, rfl, HJ2⟩
                case measure => simp [intOf] <;> omega
            · have him : i = -1 := by omega
              subst him
              have HE : Hid (LawR w2 (.returned (.bool true)) (w5.alloc (.cells #[.string a1, .string a2, .bool a3, .bool a4, .string a5, .string a6, .string a7, .string a8, .string a9] 32))) := ⟨rfl, HB6.out⟩
              rcases HJ.out with ⟨rfl, hno⟩ | ⟨j, rfl, _, hj, hje, hjf⟩
              · obtain ⟨rfl, hz⟩ := HFI.out.none HCS.out (fun m hm => hno m hm (by omega))
                injection hz with z1 z2 z3 z4 z5 z6 z7 z8 z9
                subst z1 z2 z3 z4 z5 z6 z7 z8 z9
                have heq : ∀ w, (binOp .eql 32 (.agg #[.string ⟨#[]⟩, .string ⟨#[]⟩, .bool false, .bool false, .string ⟨#[]⟩, .string ⟨#[]⟩, .string ⟨#[]⟩, .string ⟨#[]⟩, .string ⟨#[]⟩]) (.agg #[.string ⟨#[]⟩, .string ⟨#[]⟩, .bool false, .bool false, .string ⟨#[]⟩, .string ⟨#[]⟩, .string ⟨#[]⟩, .string ⟨#[]⟩, .string ⟨#[]⟩])).run Try.prog w = .ok (.bool true) w := fun w => eql_col w zeroCol
                clear HJ hno HFI HV6 HC6 HB6
                go_wp2
                go_ret
                exact HE.out
              · obtain ⟨rfl, hcj⟩ := HFI.out.at HCS.out hj hje (fun m hm hmj => hjf m hm (by omega) hmj)
                have hrg := HC6.out j _ hcj
                have heq : ∀ w, (binOp .eql 32 (.agg #[.string a1, .string a2, .bool a3, .bool a4, .string a5, .string a6, .string a7, .string a8, .string a9]) (.agg #[.string a1, .string a2, .bool a3, .bool a4, .string a5, .string a6, .string a7, .string a8, .string a9])).run Try.prog w = .ok (.bool true) w := fun w => eql_col w ⟨a1, a2, a3, a4, a5, a6, a7, a8, a9⟩
                have hg2 : ∀ (w : World) (x y : Operand), (eqGuard .eql 32 x y (.agg #[.string a1, .string a2, .bool a3, .bool a4, .string a5, .string a6, .string a7, .string a8, .string a9]) (.agg #[.string a1, .string a2, .bool a3, .bool a4, .string a5, .string a6, .string a7, .string a8, .string a9])).run Try.prog w = .ok () w := fun w x y => guard_col w .eql x y ⟨a1, a2, a3, a4, a5, a6, a7, a8, a9⟩ ⟨a1, a2, a3, a4, a5, a6, a7, a8, a9⟩
                have hr5 : (w5.alloc (.cells #[.string a1, .string a2, .bool a3, .bool a4, .string a5, .string a6, .string a7, .string a8, .string a9] 32)).rangeAt w5.heap.size 0 (Col.cells ⟨a1, a2, a3, a4, a5, a6, a7, a8, a9⟩) := fun i v hv => by rw [Nat.zero_add]; exact (Rw.new w5 32 (Col.cells ⟨a1, a2, a3, a4, a5, a6, a7, a8, a9⟩)).at hv
                obtain ⟨d0, d1, d2, d3, d4, d5, d6, d7, d8⟩ := cells9 hr5
                have f0 := hrg 0 _ rfl
                have f1 := hrg 1 _ rfl
                have f2 := hrg 2 _ rfl
                have f3 := hrg 3 _ rfl
                have f4 := hrg 4 _ rfl
                have f5 := hrg 5 _ rfl
                have f6 := hrg 6 _ rfl
                have f7 := hrg 7 _ rfl
                have f8 := hrg 8 _ rfl
                rw [Nat.add_zero] at f0
                have HE2 : Hid (∀ q, LawR w2 (.returned (.bool true)) ((w5.alloc (.cells #[.string a1, .string a2, .bool a3, .bool a4, .string a5, .string a6, .string a7, .string a8, .string a9] 32)).drewN q)) := fun q => ⟨rfl, ⟨HB6.out.os, HB6.out.tape, HB6.out.output, HB6.out.size, HB6.out.block⟩⟩
                clear HJ hje hjf HFI HV6 HC6 HB6 hcj hrg HE hr5
                generalize (w5.alloc (.cells #[.string a1, .string a2, .bool a3, .bool a4, .string a5, .string a6, .string a7, .string a8, .string a9] 32)) = W at *
                generalize w5.heap.size = h5 at *
                go_wp2
                go_quiet (fail)
                go_wp2
                go_ret
                exact HE2.out _
end Go.Proofs.Qxb6600501a
