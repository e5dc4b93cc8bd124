/-
  (*Index).Remove, at the last candidate.
-/
import Derived.Test.YbulkbdskDoorSwap
namespace Go.Proofs.YbulkbdskDoor
open Go Go.RowKit

/-- The last candidate, out of the group, cut off. -/
theorem Ix.cut {W : World} {tb l mb pb pcap kb kcap cb ccap ib icap : Nat} {tf : Nat → Value} {ids : Nat → Nat} {pos : Nat → Option Nat} (h : Ix W tb tf (l + 1) l ids pos mb) (hp : pos l = none)
    (h1 : tf 1 = .slice (some ⟨pb, 0, none⟩) (l + 1) pcap) (h2 : tf 2 = .slice (some ⟨kb, 0, none⟩) (l + 1) kcap) (h3 : tf 3 = .slice (some ⟨cb, 0, none⟩) (l + 1) ccap) (h4 : tf 4 = .slice (some ⟨ib, 0, none⟩) (l + 1) icap) :
    Ix ((((W.setCell ⟨tb, 1, none⟩ (.slice (some ⟨pb, 0, none⟩) l pcap)).setCell ⟨tb, 2, none⟩ (.slice (some ⟨kb, 0, none⟩) l kcap)).setCell ⟨tb, 3, none⟩ (.slice (some ⟨cb, 0, none⟩) l ccap)).setCell ⟨tb, 4, none⟩ (.slice (some ⟨ib, 0, none⟩) l icap)) tb
      (fun k => if k = 4 then .slice (some ⟨ib, 0, none⟩) l icap else if k = 3 then .slice (some ⟨cb, 0, none⟩) l ccap else if k = 2 then .slice (some ⟨kb, 0, none⟩) l kcap else if k = 1 then .slice (some ⟨pb, 0, none⟩) l pcap else tf k) l l ids pos mb := by
  have hT : Turn [tb] W ((((W.setCell ⟨tb, 1, none⟩ (.slice (some ⟨pb, 0, none⟩) l pcap)).setCell ⟨tb, 2, none⟩ (.slice (some ⟨kb, 0, none⟩) l kcap)).setCell ⟨tb, 3, none⟩ (.slice (some ⟨cb, 0, none⟩) l ccap)).setCell ⟨tb, 4, none⟩ (.slice (some ⟨ib, 0, none⟩) l icap)) :=
    (((((Turn.refl [tb] W).setCell (.inl (by simp)) _).setCell (.inl (by simp)) _).setCell (.inl (by simp)) _).setCell (.inl (by simp)) _)
  have hsl : ∀ {e sz v m f}, Sl W tb e sz v m f → Sl ((((W.setCell ⟨tb, 1, none⟩ (.slice (some ⟨pb, 0, none⟩) l pcap)).setCell ⟨tb, 2, none⟩ (.slice (some ⟨kb, 0, none⟩) l kcap)).setCell ⟨tb, 3, none⟩ (.slice (some ⟨cb, 0, none⟩) l ccap)).setCell ⟨tb, 4, none⟩ (.slice (some ⟨ib, 0, none⟩) l icap)) tb e sz v m f :=
    fun hs => hs.of (fun b o hb ho _ => hT.obj ho (by simp; omega))
  obtain ⟨f, hf⟩ := h.keys
  obtain ⟨g, hg⟩ := h.complete
  obtain ⟨F, hF, hI⟩ := h.ins
  have hpl := h.places
  rw [h1] at hpl
  rw [h2] at hf
  rw [h3] at hg
  rw [h4] at hF
  refine ⟨(((h.row.set 1 _).set 2 _).set 3 _).set 4 _, by have := h.small; omega, Nat.le_refl _, fun k hk => ?_, h.posl, by simpa using h.byKey, by simpa using hsl (hpl.take (Nat.le_succ l)), ⟨f, by simpa using hsl (hf.take (Nat.le_succ l))⟩, ⟨g, by simpa using hsl (hg.take (Nat.le_succ l))⟩, ⟨F, by simpa using hsl (hF.take (Nat.le_succ l)), hI⟩, ?_⟩
  · obtain ⟨q1, q2⟩ := h.idl k hk
    refine ⟨?_, q2⟩
    rcases Nat.lt_or_ge (ids k) l with h' | h'
    · exact h'
    · have e : ids k = l := by omega
      rw [e, hp] at q2
      cases q2
  · exact h.grp.of (fun b o hb ho _ => hT.obj ho (by simp; omega))

set_option maxHeartbeats 1000000 in
set_option maxRecDepth 100000 in
theorem xremove_any (tb l : Nat) (tf : Nat → Value) (w : World) (h : IxA w tb tf (l + 1)) :
    Calls Ybad.prog 27 #[.pointer (some ⟨tb, 1, none⟩), .int .i64 (l : Int)] w fun e w' => e = .returned (.tuple #[]) ∧ Fr tb TX w w' ∧ ∃ tf', (∀ k, k = 0 ∨ 7 ≤ k → tf' k = tf k) ∧ IxA w' tb tf' l := by
  obtain ⟨ids, pos, mb, hx, ha⟩ := h
  obtain ⟨p, hp⟩ := Option.ne_none_iff_exists'.1 (ha l (by omega))
  have hn3 := hx.small
  obtain ⟨ao, acap, hav⟩ := hx.places.form
  have c1 := hx.row.cell (i := 1) (by omega)
  rw [hav] at c1
  have X39 : Hid (Calls Ybad.prog 39 #[.pointer (some ⟨tb, 1, none⟩), .int .i64 (l : Int), .int .i64 (l : Int)] w fun e w' => e = .returned (.tuple #[]) ∧ Turn [] w w') := swap_same ⟨tb, 1, none⟩ l w
  have X29 : Hid (∀ W, Turn [] w W → Calls Ybad.prog 29 #[.pointer (some ⟨tb, 1, none⟩), .int .i64 (l : Int)] W fun e w2 => e = .returned (.tuple #[]) ∧ ∃ tf2 pb pcap kb kcap cb ccap ib icap, l + 1 ≤ pcap ∧ l + 1 ≤ kcap ∧ l + 1 ≤ ccap ∧ l + 1 ≤ icap ∧
      Hid (Fr tb TJ w w2 ∧ (∀ k, k ≠ 6 → tf2 k = tf k) ∧ Ix w2 tb tf2 (l + 1) l (fun k => if k = p then ids l else ids k) (fun j => if j = l then none else if j = ids l then some p else pos j) mb ∧
        tf2 1 = .slice (some ⟨pb, 0, none⟩) (l + 1) pcap ∧ tf2 2 = .slice (some ⟨kb, 0, none⟩) (l + 1) kcap ∧ tf2 3 = .slice (some ⟨cb, 0, none⟩) (l + 1) ccap ∧ tf2 4 = .slice (some ⟨ib, 0, none⟩) (l + 1) icap) ∧
        (w2.cell? ⟨tb, 1, none⟩ = some (.slice (some ⟨pb, 0, none⟩) (l + 1) pcap) ∧ w2.cell? ⟨tb, 2, none⟩ = some (.slice (some ⟨kb, 0, none⟩) (l + 1) kcap) ∧ w2.cell? ⟨tb, 3, none⟩ = some (.slice (some ⟨cb, 0, none⟩) (l + 1) ccap) ∧ w2.cell? ⟨tb, 4, none⟩ = some (.slice (some ⟨ib, 0, none⟩) (l + 1) icap)) ∧
        (w2.frozen? ⟨tb, 1, none⟩ = false ∧ w2.frozen? ⟨tb, 2, none⟩ = false ∧ w2.frozen? ⟨tb, 3, none⟩ = false ∧ w2.frozen? ⟨tb, 4, none⟩ = false) ∧
        (∀ k, k < 9 → w2.cell? ⟨pb, l * 9 + k, none⟩ = some (zp k) ∧ w2.frozen? ⟨pb, l * 9 + k, none⟩ = false ∧ w2.setCell ⟨pb, l * 9 + k, none⟩ (zp k) = w2)) := fun W hW => by
    refine (leave_any tb l p (l + 1) (l + 1) mb tf ids pos W (hx.turn hW (by simp)) hp).mono ?_
    rintro e w2 ⟨rfl, hf2, tf2, ht2, hx2⟩
    simp only [Nat.add_sub_cancel] at hx2
    obtain ⟨pb, pcap, P1, hv1, _, hc1, _, hR, hF⟩ := hx2.places.pos (by omega)
    obtain ⟨f, hf⟩ := hx2.keys
    obtain ⟨kb, kcap, _, hv2, _, hc2, _, _⟩ := hf.pos (by omega)
    obtain ⟨g, hg⟩ := hx2.complete
    obtain ⟨cb, ccap, _, hv3, _, hc3, _, _⟩ := hg.pos (by omega)
    obtain ⟨F, hFi, _⟩ := hx2.ins
    obtain ⟨ib, icap, _, hv4, _, hc4, _, _⟩ := hFi.pos (by omega)
    have hcl : ∀ k, k < 9 → w2.cell? ⟨pb, l * 9 + k, none⟩ = some (zp k) := fun k hk => by
      rw [hR.cell (by omega), hF _ (by omega)]
      congr 2
      omega
    exact ⟨rfl, tf2, pb, pcap, kb, kcap, cb, ccap, ib, icap, hc1, hc2, hc3, hc4, ⟨(Fr.ofTurn hW (by simp) (by simp)).trans hf2, ht2, hx2, hv1, hv2, hv3, hv4⟩, ⟨by rw [hx2.row.cell (by omega), hv1], by rw [hx2.row.cell (by omega), hv2], by rw [hx2.row.cell (by omega), hv3], by rw [hx2.row.cell (by omega), hv4]⟩,
      ⟨hx2.row.frozen _, hx2.row.frozen _, hx2.row.frozen _, hx2.row.frozen _⟩, fun k hk => ⟨hcl k hk, hR.frozen _, setCell_id (hcl k hk)⟩⟩
  have XA : Hid (∀ j, j < l + 1 → pos j ≠ none) := ha
  clear hx hp ha hav
  go_enter Ybad.func27, Ybad.ntmps27
  go_upto_region 3 with (first | (go_at_call 39; refine X39.out.mono ?_; rintro e w1 ⟨rfl, HT⟩) | (go_at_call 29; refine (X29.out w1 HT).mono ?_; rintro e w2 ⟨rfl, tf2, pb, pcap, kb, kcap, cb, ccap, ib, icap, hc1, hc2, hc3, hc4, H2, ⟨e1, e2, e3, e4⟩, ⟨m1, m2, m3, m4⟩, hd⟩))
  have d0 := hd 0 (by omega)
  have d1 := hd 1 (by omega)
  have d2 := hd 2 (by omega)
  have d3 := hd 3 (by omega)
  have d4 := hd 4 (by omega)
  have d5 := hd 5 (by omega)
  have d6 := hd 6 (by omega)
  have d7 := hd 7 (by omega)
  have d8 := hd 8 (by omega)
  simp only [Nat.add_zero, zp] at d0 d1 d2 d3 d4 d5 d6 d7 d8
  clear hd
  go_wp2
  go_end0
  obtain ⟨hf2, ht2, hx2, v1, v2, v3, v4⟩ := H2.out
  have hxc := hx2.cut (by simp) v1 v2 v3 v4
  have hfc : Fr tb TX w2 ((((w2.setCell ⟨tb, 1, none⟩ (.slice (some ⟨pb, 0, none⟩) l pcap)).setCell ⟨tb, 2, none⟩ (.slice (some ⟨kb, 0, none⟩) l kcap)).setCell ⟨tb, 3, none⟩ (.slice (some ⟨cb, 0, none⟩) l ccap)).setCell ⟨tb, 4, none⟩ (.slice (some ⟨ib, 0, none⟩) l icap)) :=
    Fr.ofTurn (ks := [tb]) (((((Turn.refl [tb] w2).setCell (.inl (by simp)) _).setCell (.inl (by simp)) _).setCell (.inl (by simp)) _).setCell (.inl (by simp)) _) (by simp) (fun k hk c t fr hc => by simp at hk; subst hk; rw [cells_of_row hx2.row hc]; simp)
  exact ⟨rfl, (hf2.mono (Nat.le_refl _) (by decide)).trans hfc, _, fun k hk => by
    rw [if_neg (by omega), if_neg (by omega), if_neg (by omega), if_neg (by omega)]
    exact ht2 k (by omega), _, _, _, hxc, fun j hj => by
    split
    · omega
    · split
      · simp
      · exact XA.out j (by omega)⟩

end Go.Proofs.YbulkbdskDoor
