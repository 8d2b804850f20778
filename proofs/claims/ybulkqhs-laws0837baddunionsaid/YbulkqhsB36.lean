import Derived.Test.YbulkqhsB35
namespace Go.Proofs.Ybulkqhs
open Go.RowKit
set_option linter.unusedVariables false
set_option linter.unusedSimpArgs false
attribute [local go_sem ↓] exec_store34 exec_load34 exec_box34 exec_build78 exec_box78 exec_load70
attribute [local go_sem] run_box34 run_box78 eql34_run neq34_run guard34 eqNil71

/-- A Set's block. -/
def SB (w : World) (s p : Nat) : Prop := w.heap[s]? = some (.cells #[.pointer (some ⟨p, 0, none⟩)] 63 (0, 0))
theorem SB.cell {w : World} {s p : Nat} (h : SB w s p) : w.cell? ⟨s, 0, none⟩ = some (.pointer (some ⟨p, 0, none⟩)) := cellB h rfl
theorem SB.lt {w : World} {s p : Nat} (h : SB w s p) : s < w.heap.size := ltB h
/-- A Set of the records ks. -/
def SetAt (w : World) (s : Nat) (ks : List Nat) : Prop := ∃ p d, SB w s p ∧ NodeAt d (· < w.heap.size) w p ks ∧ ks.Pairwise (· < ·)
theorem SetAt.later {w w' : World} {s : Nat} {ks : List Nat} (h : SetAt w s ks) (hb : Below w.heap.size w w') : SetAt w' s ks := by
  obtain ⟨p, d, h1, h2, h3⟩ := h
  exact ⟨p, d, (hb.block s h1.lt).trans h1, NodeAt.later hb hb.size d p ks h2, h3⟩
theorem SetAt.lt {w : World} {s : Nat} {ks : List Nat} (h : SetAt w s ks) : s < w.heap.size := by obtain ⟨p, d, h1, _⟩ := h; exact h1.lt

theorem emptySet (w1 : World) : SetAt ((w1.alloc (.cells (nc 0 0 0 nilS nilS) 78)).alloc (.cells #[.pointer (some ⟨w1.heap.size, 0, none⟩)] 63)) (w1.heap.size + 1) [] := by
  have h1 := heap_alloc_new (w1.alloc (.cells (nc 0 0 0 nilS nilS) 78)) (.cells #[.pointer (some ⟨w1.heap.size, 0, none⟩)] 63)
  rw [World.size_alloc] at h1
  refine ⟨w1.heap.size, 0, h1, ⟨by simp; omega, nilS, ?_, .inl ⟨rfl, rfl⟩⟩, .nil⟩
  exact (Below.heap_alloc _ _ _ (by simp)).trans (heap_alloc_new w1 _)

def NewPost (base : Nat) (w : World) (vs : List Nat) (e : Ending) (w' : World) : Prop := ∃ s ks, e = .returned (.pointer (some ⟨s, 0, none⟩)) ∧ SetAt w' s ks ∧ (∀ x, x ∈ ks ↔ x ∈ vs) ∧ ks.length ≤ vs.length ∧ Below base w w'

set_option maxRecDepth 100000 in
set_option maxHeartbeats 1000000 in
theorem newSet_any {base : Nat} {w : World} {v : Value} {vs : List Nat} (h : Own base w v vs) (hb : base ≤ w.heap.size) (hn : vs.length ≤ 1073741824) :
    Calls Yba.prog 8 #[v] w (NewPost base w vs) := by
  have H := hideB (sortRec_any h hb (by omega))
  clear h
  have bd0 := run_build_empty
  unfold nilS at bd0
  go_enter Yba.func8, Yba.ntmps8
  go_wp2_with fail
  refine (unhideB H).mono ?_
  rintro e w1 ⟨v1, ks, rfl, hrs, hasc, hmem, hlen, hbel⟩
  have HRS := hideB hrs; have HA := hideB hasc; have HM := hideB hmem; have HL := hideB hlen; have HB := hideB hbel
  rcases hrs with ⟨rfl, rfl⟩ | ⟨b, o, cap, rfl, hcap, hrec⟩
  · clear hasc hmem hlen hbel
    go_wp2_with fail
    go_ret
    exact ⟨_, [], rfl, emptySet w1, unhideB HM, unhideB HL, ((unhideB HB).alloc (Nat.le_trans hb (unhideB HB).size) _).alloc (by have := (unhideB HB).size; simp; omega) _⟩
  · by_cases hk0 : ks = []
    · subst hk0
      clear hasc hmem hlen hbel
      go_wp2_with fail
      go_ret
      exact ⟨_, [], rfl, emptySet w1, unhideB HM, unhideB HL, ((unhideB HB).alloc (Nat.le_trans hb (unhideB HB).size) _).alloc (by have := (unhideB HB).size; simp; omega) _⟩
    · have hpos := List.length_pos_iff.2 hk0
      have hG := groupR_any (w := w1) b o cap (V := fun x => x = b) rfl ks hrec hk0 hcap (by omega)
      obtain ⟨n, hnn⟩ : ∃ n, n = ks.length := ⟨_, rfl⟩
      rw [← hnn] at hG hpos ⊢
      have hn0 : ¬ ((n : Int) = 0) := by omega
      have HG := hideB hG; have HN := hideB hnn
      clear hG hasc hmem hlen hbel hrec hnn
      go_wp2_with fail
      refine (unhideB HG).mono ?_
      rintro e w2 hgr
      obtain ⟨v2, ns, rfl, k1, k2, k3, k4, k5⟩ := hgr.ns (by omega)
      have HR := hideB (rootOf_any k1 (by rw [k3, ← unhideB HN]; have := unhideB HL; rw [← unhideB HN] at this; omega))
      have HK := hideB (And.intro k3 k5)
      obtain ⟨_, _, G2, o2, cap2, rfl, _, _⟩ := k1
      clear k3 k4 k5 hgr k2
      go_wp2_with fail
      refine (unhideB HR).mono ?_
      rintro e w3 ⟨d', r, rfl, hnode, _, hbel3⟩
      have HND := hideB hnode; have HB3 := hideB hbel3
      clear hnode hbel3
      go_wp2_with fail
      go_ret
      obtain ⟨k3, k5⟩ := unhideB HK
      rw [k3] at HND
      have hb4 : Below w3.heap.size w3 (w3.alloc (.cells #[.pointer (some ⟨r, 0, none⟩)] 63)) := (Below.refl _ w3).alloc (Nat.le_refl _) _
      have h12 := (unhideB HB).size
      have h23 := k5.size
      have h34 := (unhideB HB3).size
      refine ⟨w3.heap.size, ks, rfl, ⟨r, d', heap_alloc_new w3 _, NodeAt.later hb4 hb4.size d' r ks (unhideB HND), unhideB HA⟩, unhideB HM, unhideB HL, ?_⟩
      exact (((unhideB HB).trans (k5.mono (by omega))).trans ((unhideB HB3).mono (by omega))).trans (hb4.mono (by omega))

def AddSPost (w : World) (s : Nat) (ks vs : List Nat) (e : Ending) (w' : World) : Prop := ∃ s' zs, e = .returned (.pointer (some ⟨s', 0, none⟩)) ∧ SetAt w' s' zs ∧ (∀ x, x ∈ zs ↔ (x ∈ ks ∨ x ∈ vs)) ∧ zs.length ≤ ks.length + vs.length ∧ Below w.heap.size w w' ∧
  ((∀ x ∈ vs, x ∈ ks) → s' = s ∧ zs = ks) ∧ ((∃ x ∈ vs, x ∉ ks) → w.heap.size ≤ s')

set_option maxRecDepth 100000 in
set_option maxHeartbeats 1000000 in
theorem addSet_any {w : World} {s : Nat} {ks vs : List Nat} {v : Value} (hs : SetAt w s ks) (hv : RS w v vs) (hn : ks.length + vs.length ≤ 1073741824) :
    Calls Yba.prog 11 #[.pointer (some ⟨s, 0, none⟩), v] w (AddSPost w s ks vs) := by
  have HC := hideB (clone_any hv (by omega))
  obtain ⟨p, d, hsb, hnode, hasc⟩ := hs
  have HS := hideB hsb; have HN := hideB hnode; have HA := hideB hasc
  clear hv hsb hnode hasc
  go_enter Yba.func11, Yba.ntmps11
  go_wp2_with fail
  refine (unhideB HC).mono ?_
  rintro e w1 ⟨v1, rfl, hown, hb1⟩
  have HSO := hideB (sortRec_any hown hb1.size (by omega))
  have HB1 := hideB hb1
  clear hown hb1
  go_wp2_with fail
  refine (unhideB HSO).mono ?_
  rintro e w2 ⟨v2, bs, rfl, hrs, hbasc, hmem, hlen, hb2⟩
  have hb02 : Below w.heap.size w w2 := (unhideB HB1).trans hb2
  have hsb2 : SB w2 s p := (hb02.block s (unhideB HS).lt).trans (unhideB HS)
  have hcs := hsb2.cell
  have HRS := hideB hrs; have HBA := hideB hbasc; have HM := hideB hmem; have HL := hideB hlen; have HB2 := hideB hb02
  by_cases hbn : bs = []
  · subst hbn
    have hvn : vs = [] := by
      cases vs with
      | nil => rfl
      | cons x xs => have := (hmem x).2 List.mem_cons_self; simp at this
    obtain ⟨pa, ca, rfl⟩ : ∃ pa ca, v2 = .slice pa 0 ca := by
      rcases hrs with ⟨rfl, _⟩ | ⟨b, o, cap, rfl, _⟩
      · exact ⟨none, 0, rfl⟩
      · exact ⟨_, _, rfl⟩
    clear hbasc hmem hlen hb02 hb2 hsb2 hrs
    go_wp2_with fail
    go_ret
    subst hvn
    refine ⟨s, ks, rfl, SetAt.later ⟨p, d, unhideB HS, unhideB HN, unhideB HA⟩ (unhideB HB2), fun x => by simp, by simp, unhideB HB2, fun _ => ⟨rfl, rfl⟩, fun ⟨x, hx, _⟩ => by simp at hx⟩
  · have hnode2 : NodeAt d (· < w2.heap.size) w2 p ks := NodeAt.later hb02 hb02.size d p ks (unhideB HN)
    have HADD := hideB (add_any d w2.heap.size w2 p ks bs v2 (Nat.le_refl _) hnode2 (unhideB HA) (RSb.of hrs) hbasc hbn (by omega))
    have hpos := List.length_pos_iff.2 hbn
    obtain ⟨pa, ca, rfl⟩ : ∃ pa ca, v2 = .slice pa bs.length ca := by
      rcases hrs with ⟨_, h⟩ | ⟨b, o, cap, rfl, _⟩
      · exact absurd h hbn
      · exact ⟨_, _, rfl⟩
    obtain ⟨m, hm⟩ : ∃ m, m = bs.length := ⟨_, rfl⟩
    rw [← hm] at HADD hpos ⊢
    have hm0 : ¬ ((m : Int) = 0) := by omega
    have HN2 := hideB hnode2; have HSB2 := hideB hsb2
    clear hbasc hmem hlen hb02 hb2 hsb2 hrs hnode2 hm
    go_wp2_with fail
    refine (unhideB HADD).mono ?_
    rintro e w3 ⟨v3, ns, rfl, hnsu, huni, hzl, hb3, hhow⟩
    have hns : NS d w3 v3 ns := hnsu.weak (fun x hx => hx.2)
    have HR := hideB (rootOf_any hns (by have := unhideB HL; omega))
    have HU := hideB huni; have HZL := hideB hzl; have HB3 := hideB hb3; have HH := hideB hhow; have HNE := hideB hns.1
    have hsb3 : SB w3 s p := (hb3.block s (unhideB HSB2).lt).trans (unhideB HSB2)
    have HSB3 := hideB hsb3
    obtain ⟨_, _, G2, o2, cap2, rfl, _, _⟩ := hns
    clear hnsu huni hzl hb3 hhow hsb3 hcs
    go_wp2_with fail
    refine (unhideB HR).mono ?_
    rintro e w4 ⟨d', r, rfl, hnode4, hone, hb4⟩
    have hsb4 : SB w4 s p := (hb4.block s (unhideB HSB3).lt).trans (unhideB HSB3)
    have hcs4 := hsb4.cell
    have hpl : p < w.heap.size := (unhideB HN).use
    have hp4 : Blk w4 p := by
      obtain ⟨v0, cv0, hnb⟩ := (unhideB HN2).nb
      have := hnb.blk.keep ((unhideB HB3).block p hnb.lt)
      exact this.keep (hb4.block p this.lt)
    have hr4 : Blk w4 r := by
      obtain ⟨v0, cv0, hnb⟩ := hnode4.nb
      exact hnb.blk
    have hne := ne61 hr4 hp4
    have hb24 : Below w.heap.size w w4 := ((unhideB HB2).trans ((unhideB HB3).mono (unhideB HB2).size)).trans (hb4.mono (Nat.le_trans (unhideB HB2).size (unhideB HB3).size))
    have huniv : ∀ x, x ∈ ns.flatMap (·.2) ↔ (x ∈ ks ∨ x ∈ vs) := fun x => by rw [(unhideB HU).mem x, unhideB HM x]
    have hlz : (ns.flatMap (·.2)).length ≤ ks.length + vs.length := by have := unhideB HZL; have := unhideB HL; omega
    have HND4 := hideB hnode4; have HB24 := hideB hb24; have HUV := hideB huniv; have HLZ := hideB hlz; have HSB4 := hideB hsb4
    rcases unhideB HH with ⟨hall, hns1⟩ | ⟨hnew, hfresh⟩
    · have hrp : r = p := by
        rcases hone with h1 | h1
        · rw [h1.2.1, hns1]; rfl
        · have := h1.1; rw [hns1] at this; simp at this
      subst hrp
      have HNS1 := hideB hns1
      clear hnode4 hone hb4 hsb4 hb24 huniv hlz hns1
      go_wp2_with fail
      go_ret
      have hallv : ∀ x ∈ vs, x ∈ ks := fun x hx => hall x ((unhideB HM x).2 hx)
      refine ⟨s, ks, rfl, ⟨r, d', unhideB HSB4, ?_, unhideB HA⟩, fun x => ⟨.inl, fun h => h.elim id (hallv x)⟩, by omega, unhideB HB24, fun _ => ⟨rfl, rfl⟩, fun ⟨x, hx, hxk⟩ => absurd (hallv x hx) hxk⟩
      have h1 := unhideB HND4
      rw [unhideB HNS1] at h1
      simpa using h1
    · have hrge : w2.heap.size ≤ r := by
        rcases hone with h1 | h1
        · rw [h1.2.1]
          have hm0 : ns[0]! ∈ ns := by rw [getElem!_pos ns 0 (by omega)]; exact List.getElem_mem _
          exact hfresh _ hm0
        · exact Nat.le_trans (unhideB HB3).size h1.2
      have hrp : ¬ (r = p) := by have := (unhideB HB2).size; omega
      clear hnode4 hone hb4 hsb4 hb24 huniv hlz
      go_wp2_with fail
      go_ret
      have hb5 : Below w4.heap.size w4 (w4.alloc (.cells #[.pointer (some ⟨r, 0, none⟩)] 63)) := (Below.refl _ w4).alloc (Nat.le_refl _) _
      refine ⟨w4.heap.size, ns.flatMap (·.2), rfl, ⟨r, d', heap_alloc_new w4 _, NodeAt.later hb5 hb5.size d' r _ (unhideB HND4), (unhideB HU).asc⟩, unhideB HUV, unhideB HLZ, (unhideB HB24).trans (hb5.mono (unhideB HB24).size), fun hall => ?_, fun _ => (unhideB HB24).size⟩
      obtain ⟨x, hx, hxk⟩ := hnew
      exact absurd (hall x ((unhideB HM x).1 hx)) hxk
end Go.Proofs.Ybulkqhs
