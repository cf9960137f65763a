import Derived.Test.Qxb6003697aGrow
namespace Go.Proofs.Qxb6003697a
open Go.RowKit
set_option linter.unusedVariables false

theorem news_at {w : World} {b off : Nat} {ss : List ByteArray} (h : ∀ i, i < ss.length → w.cell? ⟨b, off + i, none⟩ = some (.string (sAt ss i))) :
    ∀ j u, (ss.map Value.string)[j]? = some u → w.cell? ((⟨b, off, none⟩ : Addr).add j) = some u := by
  intro j u hj
  have hadd : (⟨b, off, none⟩ : Addr).add j = ⟨b, off + j, none⟩ := by unfold Addr.add; split <;> simp_all
  rw [List.getElem?_map, Option.map_eq_some_iff] at hj
  obtain ⟨s, hs, rfl⟩ := hj
  have hlt : j < ss.length := (List.getElem?_eq_some_iff.1 hs).1
  rw [hadd, h j hlt]
  unfold sAt
  rw [List.getD_eq_getElem?_getD, hs]; rfl
theorem news_one (ss : List ByteArray) : ∀ u ∈ ss.map Value.string, u.oneCell' = true := by
  intro u hu
  obtain ⟨s, _, rfl⟩ := List.mem_map.1 hu
  rfl
theorem owns_shape {w : World} {base n : Nat} {v : Value} {xs : List Value} (h : w.ownsRow base 9 1 v n xs) (hn : 0 < n) :
    ∃ g cap, v = .slice (some ⟨g, 0, none⟩) n cap ∧ base ≤ g ∧ n ≤ cap ∧ cap ≤ maxLen := by
  obtain ⟨_, h | ⟨g, cap, cur, hv, hg, _, hc, hm, _⟩⟩ := h
  · omega
  · exact ⟨g, cap, hv, hg, hc, hm⟩

theorem hid_in {p : Prop} (h : p) : Hid p := h

set_option maxHeartbeats 1600000 in
theorem concat22 (B ba offa ca bb offb cb : Nat) (ss ts : List ByteArray) (w : World)
    (h0 : w.cell? ⟨B, 0, none⟩ = some (.slice (some ⟨ba, offa, none⟩) ss.length ca)) (h1 : w.cell? ⟨B, 1, none⟩ = some (.slice (some ⟨bb, offb, none⟩) ts.length cb))
    (ha : ∀ i, i < ss.length → w.cell? ⟨ba, offa + i, none⟩ = some (.string (sAt ss i))) (hb : ∀ i, i < ts.length → w.cell? ⟨bb, offb + i, none⟩ = some (.string (sAt ts i)))
    (la : 0 < ss.length) (lb : 0 < ts.length) (la' : ss.length ≤ 1048576) (lb' : ts.length ≤ 1048576) :
    Calls Try.prog 22 #[.slice (some ⟨B, 0, none⟩) 2 2] w fun e w' => ∃ g cap, e = .returned (.slice (some ⟨g, 0, none⟩) (ss.length + ts.length) cap) ∧ ss.length + ts.length ≤ cap ∧ cap ≤ maxLen ∧ Below w.heap.size w w' := by
  obtain ⟨i0, hi, hz⟩ := Option.map_eq_some_iff.1 Try.info9
  simp only [Prod.mk.injEq] at hz
  obtain ⟨z0, z1, z2⟩ := hz
  have hBl : B < w.heap.size := block_lt_of_cell h0
  have H1 : Hid (∀ i, i < ss.length → w.cell? ⟨ba, offa + i, none⟩ = some (.string (sAt ss i))) := ha
  have H2 : Hid (∀ i, i < ts.length → w.cell? ⟨bb, offb + i, none⟩ = some (.string (sAt ts i))) := hb
  clear ha hb
  have hgr := grow27 (ss.length + ts.length) (by omega) (by omega) w
  rw [Int.natCast_add] at hgr
  have HG := hid_in hgr
  clear hgr
  go_enter Try.func22, Try.ntmps22
  go_wp2
  refine wp_loop_rounds 3 ?_
  rw [rounds_succ]
  go_wp2
  rw [rounds_succ]
  go_wp2
  rw [rounds_succ]
  go_wp2_with fail
  refine HG.out.mono ?_
  rintro e w1 ⟨G, rfl, hown, hbl⟩
  have c0 := (hbl.cell (p := ⟨B, 0, none⟩) hBl).trans h0
  have c1 := (hbl.cell (p := ⟨B, 1, none⟩) hBl).trans h1
  have ha1 : ∀ i, i < ss.length → w1.cell? ⟨ba, offa + i, none⟩ = some (.string (sAt ss i)) := fun i hi => (hbl.cell (p := ⟨ba, offa + i, none⟩) (block_lt_of_cell (H1.out i hi))).trans (H1.out i hi)
  have HN1 := hid_in (news_at ha1)
  have hsz1 := hbl.size
  clear ha1 HG h0 h1
  go_wp2
  refine wp_loop_rounds 3 ?_
  rw [rounds_succ]
  go_wp2_with (at_builtin; refine wpList_append_own _ rfl _ _ 22 rfl w.heap.size 9 i0 (.string ByteArray.empty) 1 16 Try.underlying22 hi z0 z1 z2 rfl (by decide) _ 0 [] rfl hown ⟨ba, offa, none⟩ ss.length ca (ss.map Value.string) rfl (by simp) HN1.out (news_one ss) (by unfold maxLen; omega) (by omega) hsz1 ?_)
  intro v1 w2 hown2 hgr2 _
  obtain ⟨g1, cap1, rfl, hg1, hcap1, hmax1⟩ := owns_shape hown2 la
  have hbl2 : Below w.heap.size w w2 := hbl.grown hgr2 hsz1 (fun k e => by simp [Value.ownBlock] at e; omega)
  have c1' := (hbl2.cell (p := ⟨B, 1, none⟩) hBl).trans ((hbl.cell (p := ⟨B, 1, none⟩) hBl).symm.trans c1)
  have hb1 : ∀ i, i < ts.length → w2.cell? ⟨bb, offb + i, none⟩ = some (.string (sAt ts i)) := fun i hi => (hbl2.cell (p := ⟨bb, offb + i, none⟩) (block_lt_of_cell (H2.out i hi))).trans (H2.out i hi)
  have HN2 := hid_in (news_at hb1)
  have hsz2 := hbl2.size
  clear hb1 hown hgr2 hbl c0 c1 HN1 hsz1 H1 H2
  go_wp2
  rw [rounds_succ]
  go_wp2_with (at_builtin; refine wpList_append_own _ rfl _ _ 22 rfl w.heap.size 9 i0 (.string ByteArray.empty) 1 16 Try.underlying22 hi z0 z1 z2 rfl (by decide) _ ss.length _ rfl hown2 ⟨bb, offb, none⟩ ts.length cb (ts.map Value.string) rfl (by simp) HN2.out (news_one ts) (by unfold maxLen; omega) (by omega) hsz2 ?_)
  intro v2 w3 hown3 hgr3 _
  obtain ⟨g2, cap2, rfl, hg2, hcap2, hmax2⟩ := owns_shape hown3 (by omega)
  have hbl3 : Below w.heap.size w w3 := hbl2.grown hgr3 hsz2 (fun k e => by simp [Value.ownBlock] at e; omega)
  clear hown3 hgr3 hown2 hbl2 HN2 hsz2 c1'
  go_wp2
  rw [rounds_succ]
  go_wp2
  go_ret
  exact ⟨g2, cap2, rfl, hcap2, hmax2, hbl3⟩
end Go.Proofs.Qxb6003697a
