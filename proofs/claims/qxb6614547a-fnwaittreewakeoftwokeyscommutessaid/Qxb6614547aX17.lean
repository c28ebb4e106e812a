import Derived.Test.Qxb6614547aX15
namespace Go.Proofs.Qxb6614547a
open Go.RowKit
open Go.Deep (BT)
set_option linter.unusedVariables false

theorem Side.lt {w : World} {B n : Nat} {X : BT TW} {tb ob : Nat} {added : Int} {L : List En} {vs v : Value} {xs : List Value} {T : BT Wt} (h : Side w B n X tb ob added L vs v xs T) {b : Nat} (hb : b = ob ∨ b ∈ foot tb L v ∨ vs.ownBlock = some b) : b < w.heap.size := by
  rcases hb with rfl | hb | hb
  · exact (Array.getElem?_eq_some_iff.1 h.out).1
  · rcases mem_foot.1 hb with rfl | ⟨e, he, rfl⟩ | ⟨e, he, rfl⟩ | hv
    · exact (Array.getElem?_eq_some_iff.1 h.inv.tree).1
    · obtain ⟨cs, hc⟩ := h.inv.cells he
      exact (Array.getElem?_eq_some_iff.1 hc).1
    · exact (Array.getElem?_eq_some_iff.1 (h.inv.en e he).1).1
    · obtain ⟨cs, hc⟩ := row_cells h.inv.row hv
      exact (Array.getElem?_eq_some_iff.1 hc).1
  · obtain ⟨cs, hc⟩ := row_cells h.ws hb
    exact (Array.getElem?_eq_some_iff.1 hc).1

section
variable {w w' : World} {B n : Nat} {X : BT TW} {ao : Option Addr} {cap : Nat} {added : Int} {gw gn tb ob : Nat} {L LR : List En} {vs v : Value} {xs : List Value} {T : BT Wt}
variable {gw2 gn2 tb2 ob2 : Nat} {L2 LR2 : List En} {vs2 v2 : Value} {xs2 : List Value} {T2 : BT Wt}
/-- the other tree, where one tree's blocks turn -/
theorem S5.other (hA : S5 w B n X ao cap gw gn tb ob added L LR vs v xs T) (hB : S5 w B n X ao cap gw2 gn2 tb2 ob2 added L2 LR2 vs2 v2 xs2 T2) (dis : ∀ b, ownB gw gn tb ob L vs v b → ¬ ownB gw2 gn2 tb2 ob2 L2 vs2 v2 b) {S : List Nat} (hf : Fr S w w') (hS : ∀ b ∈ S, ownB gw gn tb ob L vs v b) : S5 w' B n X ao cap gw2 gn2 tb2 ob2 added L2 LR2 vs2 v2 xs2 T2 :=
  hB.far hf (fun b hb hm => dis b (hS b hm) hb) (fun g hg hm => hA.ins_far hg (hS g hm)) (fun b hm => hA.ge b (hS b hm))
theorem own_rows : ∀ b ∈ [gw, gn], ownB gw gn tb ob L vs v b := by intro b hb; simp at hb; rcases hb with rfl | rfl <;> simp [ownB]
theorem own_foot : ∀ b ∈ foot tb L v, ownB gw gn tb ob L vs v b := fun b hb => .inr (.inr (.inr (.inl hb)))
theorem dis_wake (hB : S5 w B n X ao cap gw2 gn2 tb2 ob2 added L2 LR2 vs2 v2 xs2 T2) (dis : ∀ b, ownB gw gn tb ob L vs v b → ¬ ownB gw2 gn2 tb2 ob2 L2 vs2 v2 b) {k : ByteArray} {rev : Int} {v' : Value} (ho : v'.ownBlock = v.ownBlock ∨ ∃ g, v'.ownBlock = some g ∧ w.heap.size ≤ g) : ∀ b, ownB gw gn tb ob (L.map (wakeE k rev)) vs v' b → ¬ ownB gw2 gn2 tb2 ob2 L2 vs2 v2 b := by
  rintro b (rfl | rfl | rfl | hb | hb) h2
  · exact dis _ (.inl rfl) h2
  · exact dis _ (.inr (.inl rfl)) h2
  · exact dis _ (.inr (.inr (.inl rfl))) h2
  · rcases mem_foot_wake (v := v) hb with h1 | h1
    · exact dis _ (.inr (.inr (.inr (.inl h1)))) h2
    · rcases ho with e | ⟨g, e, hg⟩
      · exact dis _ (.inr (.inr (.inr (.inl (mem_foot.2 (.inr (.inr (.inr (e ▸ h1))))))))) h2
      · rw [e] at h1
        cases h1
        have := hB.lt h2
        omega
  · exact dis _ (.inr (.inr (.inr (.inr hb)))) h2
end

theorem wake2 (k1 k2 : ByteArray) (rev : Int) (e : En) (hw : e.wt = true) : (wakeE k2 rev (wakeE k1 rev e)).wt = !((holdsW k1 e.a || holdsW k2 e.a) && decide (e.a.nxt ≤ rev)) ∧ (wakeE k2 rev (wakeE k1 rev e)).a.nxt = if ((holdsW k1 e.a || holdsW k2 e.a) && decide (e.a.nxt ≤ rev)) = true then rev else e.a.nxt := by
  by_cases hn : e.a.nxt ≤ rev
  · cases h1 : holdsW k1 e.a
    · have h3 : wakeE k1 rev e = e := by simp [wakeE, h1]
      rw [h3]
      cases h2 : holdsW k2 e.a
      · simp [wakeE, h2, hw]
      · simp [wakeE, h2, hw, wk, hn]
    · have h3 : wakeE k1 rev e = ⟨e.b, { e.a with nxt := rev }, false⟩ := by simp [wakeE, h1, hw, wk, hn]
      rw [h3]
      simp [wakeE, hn]
  · have h3 : ∀ k, wakeE k rev e = e := by
      intro k
      unfold wakeE
      split
      · simp [wk, hn]
      · rfl
    rw [h3, h3]
    simp [hn, hw]
/-- what the last loop sees of the two trees -/
theorem last_facts {X : BT TW} {L L2 : List En} (k1 k2 : ByteArray) (rev : Int) (m1 : L.map (fun e => (e.a.frm, e.a.to)) = (tino X).map (fun p => (p.2.2.frm, p.2.2.to))) (n1 : L.map (fun e => e.a.nxt) = (tino X).map (fun p => p.2.2.nxt)) (t1 : ∀ e ∈ L, e.wt = true)
    (m2 : L2.map (fun e => (e.a.frm, e.a.to)) = (tino X).map (fun p => (p.2.2.frm, p.2.2.to))) (n2 : L2.map (fun e => e.a.nxt) = (tino X).map (fun p => p.2.2.nxt)) (t2 : ∀ e ∈ L2, e.wt = true) {m : Nat} {p : Nat × Nat × TW} (hp : (tino X)[m]? = some p) :
    ∃ eA eB, ((L.map (wakeE k1 rev)).map (wakeE k2 rev))[m]? = some eA ∧ ((L2.map (wakeE k2 rev)).map (wakeE k1 rev))[m]? = some eB ∧ eA.wt = !((holdsW k1 (toWt p.2.2) || holdsW k2 (toWt p.2.2)) && decide (p.2.2.nxt ≤ rev)) ∧ eB.wt = !((holdsW k1 (toWt p.2.2) || holdsW k2 (toWt p.2.2)) && decide (p.2.2.nxt ≤ rev)) ∧ eA.a.nxt = eB.a.nxt := by
  have one : ∀ {M : List En}, M.map (fun e => (e.a.frm, e.a.to)) = (tino X).map (fun p => (p.2.2.frm, p.2.2.to)) → M.map (fun e => e.a.nxt) = (tino X).map (fun p => p.2.2.nxt) → (∀ e ∈ M, e.wt = true) → ∃ e, M[m]? = some e ∧ e.wt = true ∧ (∀ k, holdsW k e.a = holdsW k (toWt p.2.2)) ∧ e.a.nxt = p.2.2.nxt := by
    intro M h1 h2 h3
    have hl : M.length = (tino X).length := by have := congrArg List.length h2; simpa using this
    have hm : m < M.length := by have := (List.getElem?_eq_some_iff.1 hp).1; omega
    have g1 : (M.map (fun e => (e.a.frm, e.a.to)))[m]? = ((tino X).map (fun p => (p.2.2.frm, p.2.2.to)))[m]? := by rw [h1]
    have g2 : (M.map (fun e => e.a.nxt))[m]? = ((tino X).map (fun p => p.2.2.nxt))[m]? := by rw [h2]
    rw [List.getElem?_map, List.getElem?_map, hp, List.getElem?_eq_getElem hm] at g1 g2
    simp at g1 g2
    exact ⟨M[m], List.getElem?_eq_getElem hm, h3 _ (List.getElem_mem hm), fun k => holds_eq k g1.1 g1.2, g2⟩
  obtain ⟨a, ha, wa, ka, na⟩ := one m1 n1 t1
  obtain ⟨b, hb, wb, kb, nb⟩ := one m2 n2 t2
  obtain ⟨x1, x2⟩ := wake2 k1 k2 rev a wa
  obtain ⟨y1, y2⟩ := wake2 k2 k1 rev b wb
  refine ⟨_, _, by rw [List.getElem?_map, List.getElem?_map, ha]; rfl, by rw [List.getElem?_map, List.getElem?_map, hb]; rfl, ?_, ?_, ?_⟩
  · rw [x1, ka, ka, na]
  · rw [y1, kb, kb, nb, Bool.or_comm]
  · rw [x2, y2, ka, ka, kb, kb, na, nb, Bool.or_comm]

set_option maxHeartbeats 8000000 in
set_option maxRecDepth 100000 in
theorem law6 (X : BT TW) (added rev wl : Int) (k1 k2 : ByteArray) (w : World) (hX : XIn w w.heap.size X) (hk1 : k1.size ≤ 9223372036854775807) (hk2 : k2.size ≤ 9223372036854775807) :
    Calls Try.prog 6 #[X.ptr, .int .u64 added, .int .i64 wl, .string k1, .string k2, .int .u64 rev] w fun e w' => e = .returned (.bool true) ∧ Below w.heap.size w w' := by
  have HX := hid hX
  obtain ⟨px, hpx⟩ := xptr_form X
  have HPX := hid hpx
  rw [hpx]
  clear hX hpx
  by_cases q1 : 262144 < k1.size
  · have q1' : (262144 : Int) < (k1.size : Int) := by omega
    go_enter Try.func6, Try.ntmps6
    go_wp2_with fail
    go_ret
    exact ⟨rfl, Below.refl _ _⟩
  by_cases q2 : 262144 < k2.size
  · have q1' : ¬ (262144 : Int) < (k1.size : Int) := by omega
    have q2' : (262144 : Int) < (k2.size : Int) := by omega
    go_enter Try.func6, Try.ntmps6
    go_wp2_with fail
    go_ret
    exact ⟨rfl, Below.refl _ _⟩
  have q1' : ¬ (262144 : Int) < (k1.size : Int) := by omega
  have q2' : ¬ (262144 : Int) < (k2.size : Int) := by omega
  by_cases q3 : wl < 0
  · go_enter Try.func6, Try.ntmps6
    go_wp2_with fail
    go_ret
    exact ⟨rfl, Below.refl _ _⟩
  by_cases q4 : 65536 < wl
  · go_enter Try.func6, Try.ntmps6
    go_wp2_with fail
    go_ret
    exact ⟨rfl, Below.refl _ _⟩
  obtain ⟨wn, rfl⟩ : ∃ wn : Nat, wl = (wn : Int) := ⟨wl.toNat, by omega⟩
  have i1 : IntKind.i64.wrap (1048576 - (k1.size : Int)) = 1048576 - (k1.size : Int) := by rw [IntKind.wrap_i64]; omega
  have i2 : IntKind.i64.wrap (1048576 - (k1.size : Int) - (k2.size : Int)) = 1048576 - (k1.size : Int) - (k2.size : Int) := by rw [IntKind.wrap_i64]; omega
  have i3 : IntKind.i64.wrap (8 * (wn : Int)) = 8 * (wn : Int) := by rw [IntKind.wrap_i64]; omega
  have i4 : IntKind.i64.wrap (1048576 - (k1.size : Int) - (k2.size : Int) - 8 * (wn : Int)) = 1048576 - (k1.size : Int) - (k2.size : Int) - 8 * (wn : Int) := by rw [IntKind.wrap_i64]; omega
  have C12 := hid (f12_any X w.heap.size (1048576 - (k1.size : Int) - (k2.size : Int) - 8 * (wn : Int)) w HX.out (by omega) (by omega))
  rw [HPX.out] at C12
  go_enter Try.func6, Try.ntmps6
  go_wp2_with fail
  refine C12.out.mono ?_
  rintro e w0 ⟨rr, rfl, hw0, hr1, hr2, hr3⟩
  rw [hw0]
  clear hw0 C12
  by_cases q5 : rr < 0
  · go_wp2_with fail
    go_ret
    exact ⟨rfl, Below.refl _ _⟩
  have hsz : sizeX X ≤ 20000 := by have := hr3 (by omega); omega
  have C13 := hid (f13_any X w.heap.size w HX.out (Nat.le_refl _) hsz)
  rw [HPX.out] at C13
  clear hr3
  go_wp2_with fail
  refine C13.out.mono ?_
  rintro e w1 ⟨bp, rfl, hbp, hb1⟩
  have HB1 := hid hb1
  clear C13 hb1
  cases bp
  · clear hbp
    go_wp2_with fail
    go_ret
    exact ⟨rfl, HB1.out⟩
  obtain ⟨hadj, hends⟩ := hbp rfl
  have HADJ := hid hadj
  have HENDS := hid hends
  clear hbp hadj hends
  have HX1 := hid (HX.out.below HB1.out)
  have C14 := hid (f14_any X w.heap.size (.slice none 0 0) 0 [] w1 HX1.out ⟨rfl, .inl ⟨rfl, rfl⟩⟩ (fun k h => by cases h) HB1.out.size (by omega))
  rw [HPX.out] at C14
  go_wp2_with fail
  refine C14.out.mono ?_
  rintro e w2 ⟨vi, rfl, ho2, hx2⟩
  rw [Nat.zero_add, List.nil_append] at ho2
  obtain ⟨ao, cap, rfl⟩ := own_slice ho2
  have hb2 := hx2.below (fun k h => by cases h) HB1.out.size
  have HB2 := hid (HB1.out.trans hb2)
  have HO2 := hid ho2
  have HX2 := hid (HX.out.below HB2.out)
  clear C14 ho2 hx2 hb2
  go_wp2_with fail
  have hc3a : ((w2.alloc (.cells #[.slice none 0 0] 35)).alloc (.cells #[.slice none 0 0] 35)).heap[w2.heap.size]? = some (.cells #[.slice none 0 0] 35) := (Below.heap_alloc _ _ _ (by simp)).trans (heap_top _ _ _ rfl)
  have hc3b : ((w2.alloc (.cells #[.slice none 0 0] 35)).alloc (.cells #[.slice none 0 0] 35)).heap[w2.heap.size + 1]? = some (.cells #[.slice none 0 0] 35) := heap_top _ _ _ (by simp)
  have hs3 : ((w2.alloc (.cells #[.slice none 0 0] 35)).alloc (.cells #[.slice none 0 0] 35)).heap.size = w2.heap.size + 2 := by simp
  have hb3 : Below w.heap.size w ((w2.alloc (.cells #[.slice none 0 0] 35)).alloc (.cells #[.slice none 0 0] 35)) := up_alloc (up_alloc HB2.out _) _
  have ho3 := (HO2.out.alloc (.cells #[.slice none 0 0] 35)).alloc (.cells #[.slice none 0 0] 35)
  have hz2 := HB2.out.size
  have hio : ∀ g, (Value.slice ao (sizeX X) cap).ownBlock = some g → g < w2.heap.size := by
    intro g hg
    obtain ⟨cs, hc⟩ := row_cells HO2.out hg
    exact (Array.getElem?_eq_some_iff.1 hc).1
  generalize ((w2.alloc (.cells #[.slice none 0 0] 35)).alloc (.cells #[.slice none 0 0] 35)) = w3 at hc3a hc3b hs3 hb3 ho3 ⊢
  have C15 := hid (f15_any X w.heap.size w2.heap.size (.slice none 0 0) 0 [] w3 (HX.out.below hb3) HENDS.out hc3a ⟨rfl, .inl ⟨rfl, rfl⟩⟩ (fun k h => by cases h) hz2 (by omega) (by omega))
  rw [HPX.out] at C15
  have HB3 := hid hb3
  have HO3 := hid ho3
  have Hinp := hid hio
  have HC3B := hid hc3b
  clear hc3a hc3b hb3 ho3 hio
  refine C15.out.mono ?_
  rintro e w4 ⟨vsA, KA, rfl, hbt⟩
  obtain ⟨pk, hpk⟩ := ptr_form KA w4 hbt.tin
  have hrow4 := hbt.row
  rw [Nat.zero_add] at hrow4
  obtain ⟨sa, ca, hvs⟩ := own_slice hrow4
  subst hvs
  have hf4 := hbt.bx.fr rfl
  have HB4 := hid (HB3.out.trans (hf4.below HB3.out.size (by intro b hb; simp at hb; omega)))
  have HO4 := hid (hf4.own HO3.out (fun g hg => by have := Hinp.out g hg; simp; omega))
  have HC4B := hid (hf4.heap HC3B.out (by simp))
  have hstart := side_start (added := added) (wl := wn) hbt HADJ.out HB3.out.size hz2 hsz (by omega) (by omega)
  have HSDA := hid hstart.1
  have HLOA := hid hstart.2
  have hz4 := hbt.bx.size
  rw [hpk] at HSDA ⊢
  have C16 := hid (f16_any pk added wn (by omega) w4)
  clear C15 hbt hrow4 hf4 hpk hstart
  go_wp2_with fail
  refine C16.out.mono ?_
  rintro e w5 ⟨rfl, hw5⟩
  rw [← hw5] at HSDA
  have hb5 : Below w.heap.size w w5 := by rw [hw5]; exact up_alloc (up_alloc HB4.out _) _
  have ho5 : w5.ownsRow 0 30 1 (.slice ao (sizeX X) cap) (sizeX X) ((tino X).map tptr) := by rw [hw5]; exact (HO4.out.alloc _).alloc _
  have h45 : Below w4.heap.size w4 w5 := by rw [hw5]; exact up_alloc (up_alloc (Below.refl _ _) _) _
  have hc5b := up_heap h45 HC4B.out
  have hz5 := h45.size
  have HB5 := hid hb5
  have HO5 := hid ho5
  have C15b := hid (f15_any X w.heap.size (w2.heap.size + 1) (.slice none 0 0) 0 [] w5 (HX.out.below hb5) HENDS.out hc5b ⟨rfl, .inl ⟨rfl, rfl⟩⟩ (fun k h => by cases h) (by omega) hb5.size (by omega))
  rw [HPX.out] at C15b
  clear C16 hw5 hb5 ho5 h45 hc5b HC4B
  go_wp2_with fail
  refine C15b.out.mono ?_
  rintro e w6 ⟨vsB, KB, rfl, hbt⟩
  obtain ⟨pk2, hpk2⟩ := ptr_form KB w6 hbt.tin
  have hrow6 := hbt.row
  rw [Nat.zero_add] at hrow6
  obtain ⟨sb, cb, hvs⟩ := own_slice hrow6
  subst hvs
  have hf6 := hbt.bx.fr rfl
  have HB6 := hid (HB5.out.trans (hf6.below HB5.out.size (by intro b hb; simp at hb; omega)))
  have HO6 := hid (hf6.own HO5.out (fun g hg => by have := Hinp.out g hg; simp; omega))
  have hnotB : ∀ b, b = w2.heap.size ∨ b ∈ foot (w4.heap.size + 1) (L0 KA) (.slice (some ⟨w4.heap.size, 0, none⟩) wn wn) ∨ (Value.slice sa (sizeX X) ca).ownBlock = some b → b ∉ [w2.heap.size + 1] := by
    intro b hb hm
    simp at hm
    rcases hb with h1 | h1
    · omega
    · have := HLOA.out b h1; omega
  have HSDA6 := hid (HSDA.out.far hf6 hnotB)
  have hstart := side_start (added := added) (wl := wn) hbt HADJ.out HB5.out.size (by omega) hsz (by omega) (by omega)
  have HSDB := hid hstart.1
  have HLOB := hid hstart.2
  have hz6 := hbt.bx.size
  have HLTA := hid (fun b hb => HSDA.out.lt (b := b) hb)
  rw [hpk2] at HSDB ⊢
  have C16b := hid (f16_any pk2 added wn (by omega) w6)
  clear C15b hbt hrow6 hf6 hpk2 hstart hnotB
  go_wp2_with fail
  refine C16b.out.mono ?_
  rintro e w7 ⟨rfl, hw7⟩
  rw [← hw7] at HSDB
  have hb7 : Below w.heap.size w w7 := by rw [hw7]; exact up_alloc (up_alloc HB6.out _) _
  have ho7 : w7.ownsRow 0 30 1 (.slice ao (sizeX X) cap) (sizeX X) ((tino X).map tptr) := by rw [hw7]; exact (HO6.out.alloc _).alloc _
  have h67 : Below w6.heap.size w6 w7 := by rw [hw7]; exact up_alloc (up_alloc (Below.refl _ _) _) _
  have HSDA7 := hid (HSDA6.out.up h67)
  have hz7 := h67.size
  have HB7 := hid hb7
  have HO7 := hid ho7
  have HLTB := hid (fun b hb => HSDB.out.lt (b := b) hb)
  have C17 := hid (f17_any X w.heap.size ao (sizeX X) cap w7 (HX.out.below hb7) hb7.size ho7 hsz)
  clear C16b hw7 hb7 ho7 h67 HSDA6
  go_wp2_with fail
  refine C17.out.mono ?_
  rintro e w8 ⟨rfl, hg1, hg2, hb8⟩
  have HB8 := hid (up_trans HB7.out hb8)
  have HO8 := hid (up_own hb8 HO7.out)
  have HG1 := hid hg1
  have HG2 := hid hg2
  have hz8 : w7.heap.size + 2 ≤ w8.heap.size := by have := (Array.getElem?_eq_some_iff.1 hg2).1; omega
  have C17b := hid (f17_any X w.heap.size ao (sizeX X) cap w8 (HX.out.below HB8.out) HB8.out.size HO8.out hsz)
  have HU8 := hid hb8
  clear C17 hg1 hg2 hb8
  go_wp2_with fail
  refine C17b.out.mono ?_
  rintro e w9 ⟨rfl, hg3, hg4, hb9⟩
  have hX9 := HX.out.below (up_trans HB8.out hb9)
  have hB9 := (up_trans HB8.out hb9).size
  have hSA := S5.of hX9 hB9 (up_own hb9 HO8.out) ((HSDA7.out.up HU8.out).up hb9) (rw_start (w' := w9) HSDA7.out (up_heap hb9 HG1.out) (up_heap hb9 HG2.out)) HB7.out.size (Nat.le_succ_of_le HB7.out.size)
  have hSB := S5.of hX9 hB9 (up_own hb9 HO8.out) ((HSDB.out.up HU8.out).up hb9) (rw_start (w' := w9) HSDB.out hg3 hg4) HB8.out.size (Nat.le_succ_of_le HB8.out.size)
  have hdis : ∀ b, ownB w7.heap.size (w7.heap.size + 1) (w4.heap.size + 1) w2.heap.size (L0 KA) (.slice sa (sizeX X) ca) (.slice (some ⟨w4.heap.size, 0, none⟩) wn wn) b → ¬ ownB w8.heap.size (w8.heap.size + 1) (w6.heap.size + 1) (w2.heap.size + 1) (L0 KB) (.slice sb (sizeX X) cb) (.slice (some ⟨w6.heap.size, 0, none⟩) wn wn) b := by
    intro b ha hb
    have fa : b = w7.heap.size ∨ b = w7.heap.size + 1 ∨ b = w2.heap.size ∨ (w2.heap.size + 2 ≤ b ∧ b < w5.heap.size) := by
      rcases ha with h | h | h | h | h
      · exact .inl h
      · exact .inr (.inl h)
      · exact .inr (.inr (.inl h))
      · exact .inr (.inr (.inr ⟨by have := HLOA.out b (.inl h); omega, HLTA.out b (.inr (.inl h))⟩))
      · exact .inr (.inr (.inr ⟨by have := HLOA.out b (.inr h); omega, HLTA.out b (.inr (.inr h))⟩))
    have fb : b = w8.heap.size ∨ b = w8.heap.size + 1 ∨ b = w2.heap.size + 1 ∨ (w5.heap.size ≤ b ∧ b < w7.heap.size) := by
      rcases hb with h | h | h | h | h
      · exact .inl h
      · exact .inr (.inl h)
      · exact .inr (.inr (.inl h))
      · exact .inr (.inr (.inr ⟨HLOB.out b (.inl h), HLTB.out b (.inr (.inl h))⟩))
      · exact .inr (.inr (.inr ⟨HLOB.out b (.inr h), HLTB.out b (.inr (.inr h))⟩))
    omega
  have HB9 := hid (up_trans HB8.out hb9)
  have hmA : Hid (Adj [] 0) := fun i hi => by omega
  have HPA : Hid ((L0 KA).map (fun e => (e.a.frm, e.a.to)) = (tino X).map (fun p => (p.2.2.frm, p.2.2.to)) ∧ (L0 KA).map (fun e => e.a.nxt) = (tino X).map (fun p => p.2.2.nxt) ∧ ∀ e ∈ L0 KA, e.wt = true) := ⟨HSDA7.out.mt, HSDA7.out.mn, HSDA7.out.wt⟩
  have HPB : Hid ((L0 KB).map (fun e => (e.a.frm, e.a.to)) = (tino X).map (fun p => (p.2.2.frm, p.2.2.to)) ∧ (L0 KB).map (fun e => e.a.nxt) = (tino X).map (fun p => p.2.2.nxt) ∧ ∀ e ∈ L0 KB, e.wt = true) := ⟨HSDB.out.mt, HSDB.out.mn, HSDB.out.wt⟩
  have hlA := hSA.len
  have hlB := hSB.len
  have HA9 := hid hSA
  have HBB9 := hid hSB
  have HD := hid hdis
  clear C17b hg3 hg4 hb9 hX9 hB9 hSA hSB hdis hmA HSDA HSDA7 HSDB HLOA HLOB HLTA HLTB HG1 HG2 HU8 HO3 HO4 HO5 HO6 HO7 HO8 Hinp HC3B hz2 hz4 hz5 hz6 hz7 hz8 hs3 HADJ HENDS
  clear HB2 HB3 HB4 HB5 HB6 HB7 HB8 HO2 HX1 HX2 HB1
  generalize w7.heap.size = gwA at *
  generalize w8.heap.size = gwB at *
  generalize L0 KA = LA at *
  generalize L0 KB = LB at *
  generalize w4.heap.size + 1 = tbA at *
  generalize w6.heap.size + 1 = tbB at *
  have C18_10 := hid (HA9.out.call18 k1 rev hsz)
  go_wp2_with fail
  refine C18_10.out.mono ?_
  rintro e w10 ⟨rfl, hfr, hbl, hS⟩
  have HA10 := hid hS
  have HBB10 := hid (HA9.out.other HBB9.out HD.out hfr own_rows)
  have HB10 := hid (HB9.out.trans hbl)
  clear C18_10 hfr hbl hS HA9 HBB9 HB9
  have C18_11 := hid (HA10.out.call18 k2 rev hsz)
  go_wp2_with fail
  refine C18_11.out.mono ?_
  rintro e w11 ⟨rfl, hfr, hbl, hS⟩
  have HA11 := hid hS
  have HBB11 := hid (HA10.out.other HBB10.out HD.out hfr own_rows)
  have HB11 := hid (HB10.out.trans hbl)
  clear C18_11 hfr hbl hS HA10 HBB10 HB10
  have C18_12 := hid (HBB11.out.call18 k2 rev hsz)
  go_wp2_with fail
  refine C18_12.out.mono ?_
  rintro e w12 ⟨rfl, hfr, hbl, hS⟩
  have HBB12 := hid hS
  have HA12 := hid (HBB11.out.other HA11.out (fun b hb ha => HD.out b ha hb) hfr own_rows)
  have HB12 := hid (HB11.out.trans hbl)
  clear C18_12 hfr hbl hS HBB11 HA11 HB11
  have C18_13 := hid (HBB12.out.call18 k1 rev hsz)
  go_wp2_with fail
  refine C18_13.out.mono ?_
  rintro e w13 ⟨rfl, hfr, hbl, hS⟩
  have HBB13 := hid hS
  have HA13 := hid (HBB12.out.other HA12.out (fun b hb ha => HD.out b ha hb) hfr own_rows)
  have HB13 := hid (HB12.out.trans hbl)
  clear C18_13 hfr hbl hS HBB12 HA12 HB12
  have C19_14 := hid (HA13.out.call19 k1 rev)
  go_wp2_with fail
  refine C19_14.out.mono ?_
  rintro e w14 ⟨rfl, hfr, hbl, v14, T14, hS, ho⟩
  have HA14 := hid hS
  have HBB14 := hid (HA13.out.other HBB13.out HD.out hfr own_foot)
  have HD14 := hid (dis_wake (k := k1) (rev := rev) HBB13.out HD.out ho)
  have HB14 := hid (HB13.out.trans hbl)
  clear C19_14 hfr hbl hS ho HA13 HBB13 HB13 HD
  have C19_15 := hid (HA14.out.call19 k2 rev)
  go_wp2_with fail
  refine C19_15.out.mono ?_
  rintro e w15 ⟨rfl, hfr, hbl, v15, T15, hS, ho⟩
  have HA15 := hid hS
  have HBB15 := hid (HA14.out.other HBB14.out HD14.out hfr own_foot)
  have HD15 := hid (dis_wake (k := k2) (rev := rev) HBB14.out HD14.out ho)
  have HB15 := hid (HB14.out.trans hbl)
  clear C19_15 hfr hbl hS ho HA14 HBB14 HB14 HD14
  have C19_16 := hid (HBB15.out.call19 k2 rev)
  go_wp2_with fail
  refine C19_16.out.mono ?_
  rintro e w16 ⟨rfl, hfr, hbl, v16, T16, hS, ho⟩
  have HBB16 := hid hS
  have HA16 := hid (HBB15.out.other HA15.out (fun b hb ha => HD15.out b ha hb) hfr own_foot)
  have HD16 := hid (fun b hb ha => dis_wake (k := k2) (rev := rev) HA15.out (fun b hb ha => HD15.out b ha hb) ho b ha hb)
  have HB16 := hid (HB15.out.trans hbl)
  clear C19_16 hfr hbl hS ho HBB15 HA15 HB15 HD15
  have C19_17 := hid (HBB16.out.call19 k1 rev)
  go_wp2_with fail
  refine C19_17.out.mono ?_
  rintro e w17 ⟨rfl, hfr, hbl, v17, T17, hS, ho⟩
  have HBB17 := hid hS
  have HA17 := hid (HBB16.out.other HA16.out (fun b hb ha => HD16.out b ha hb) hfr own_foot)
  have HD17 := hid (fun b hb ha => dis_wake (k := k1) (rev := rev) HA16.out (fun b hb ha => HD16.out b ha hb) ho b ha hb)
  have HB17 := hid (HB16.out.trans hbl)
  clear C19_17 hfr hbl hS ho HBB16 HA16 HB16 HD16
  have c17a := HA17.out.cell
  have hm1 : (HL k2 (LA.map (wakeE k1 rev))).length ≤ 100000 := Nat.le_trans (List.length_filter_le _ _) (by simp; omega)
  have hm2 : (HL k1 (LB.map (wakeE k2 rev))).length ≤ 100000 := Nat.le_trans (List.length_filter_le _ _) (by simp; omega)
  have C20a := hid (HA17.out.call20 hm1)
  go_wp2_with fail
  refine C20a.out.mono ?_
  rintro e w18 ⟨rfl, hb18⟩
  have HA18 := hid (HA17.out.up hb18)
  have HBB18 := hid (HBB17.out.up hb18)
  have HB18 := hid (HB17.out.trans ⟨hb18.os, hb18.tape, hb18.output, hb18.size, fun k hk => hb18.block k (Nat.lt_of_lt_of_le hk HB17.out.size)⟩)
  have c18b := HBB18.out.cell
  have C20b := hid (HBB18.out.call20 hm2)
  clear c17a C20a hb18 HA17 HBB17 HB17
  go_wp2_with fail
  refine C20b.out.mono ?_
  rintro e w19 ⟨rfl, hb19⟩
  have HA19 := hid (HA18.out.up hb19)
  have HBB19 := hid (HBB18.out.up hb19)
  have HB19 := hid (up_trans HB18.out hb19)
  clear c18b C20b hb19 HA18 HBB18 HB18
  go_wp2_with fail
  go_loopw [24] (fun i wr => ∃ m : Nat, m ≤ sizeX X ∧ i = .int .i64 m ∧ Hid (Below w19.heap.size w19 wr)) (fun i _ => sizeX X - (intOf i).toNat)
  case atStart => exact ⟨0, Nat.zero_le _, rfl, Below.refl _ _⟩
  case round =>
    obtain ⟨m, hm, rfl, hk⟩ := hrel
    by_cases hlt : m < sizeX X
    · have hAr := HA19.out.up hk.out
      have hBr := HBB19.out.up hk.out
      obtain ⟨g, rfl, ⟨b1, o1, a1⟩, hp1, hc1⟩ := ins_row hAr.ins m hlt
      simp only [tptr] at hc1
      obtain ⟨l1, r1, hn1⟩ := hAr.xin.node _ (List.mem_of_getElem? hp1)
      have c2 := hn1.c2
      obtain ⟨eA, eB, heA, heB, wA, wB, nAB⟩ := last_facts k1 k2 rev HPA.out.1 HPA.out.2.1 HPA.out.2.2 HPB.out.1 HPB.out.2.1 HPB.out.2.2 hp1
      obtain ⟨gsA, _, _, rfl, a0, a5, a4, _, _, _, _, _, _, _⟩ := ck_facts (Below.refl _ _) hAr.inv hAr.rw hAr.ws heA
      obtain ⟨gsB, _, _, rfl, b0, b5, b4, _, _, _, _, _, _, _⟩ := ck_facts (Below.refl _ _) hBr.inv hBr.rw hBr.ws heB
      have oA := hAr.cell
      have oB := hBr.cell
      have C21a := hid (f21_any w.heap.size b1 o1 a1 l1 r1 k1 wr hn1)
      have C21b := hid (f21_any w.heap.size b1 o1 a1 l1 r1 k2 wr hn1)
      have i1 : (m : Int) < (sizeX X : Int) := by omega
      simp only at wA wB c2
      rw [wA] at a5
      rw [wB] at b5
      rw [nAB] at a4
      have C23a := hid (fun q => f23_any eA.b eB.a.nxt (wr.drewN q) a4)
      have C23b := hid (fun q => f23_any eB.b eB.a.nxt (wr.drewN q) b4)
      clear hAr hBr hn1 hp1 heA heB wA wB nAB a4 b4
      generalize holdsW k1 (toWt a1) = h1 at *
      generalize holdsW k2 (toWt a1) = h2 at *
      generalize eA.b = bA at *
      generalize eB.b = bB at *
      generalize eB.a.nxt = nB at *
      by_cases hnx : a1.nxt ≤ rev
      · cases h1
        · cases h2
          · simp [hnx] at a5 b5
            have C22a := hid (f22_any bA _ wr a5)
            have C22b := hid (f22_any bB _ wr b5)
            clear a5 b5
            go_wp2_with (first | (go_at_call_of 21 (Value.string k1); refine C21a.out.mono ?_; rintro e0 w' ⟨rfl, hw'⟩; rw [hw']; clear hw') | (go_at_call_of 21 (Value.string k2); refine C21b.out.mono ?_; rintro e0 w' ⟨rfl, hw'⟩; rw [hw']; clear hw') | (go_at_call_of 22 (Value.pointer (some ⟨bA, 0, none⟩)); refine C22a.out.mono ?_; rintro e0 w' ⟨rfl, hw'⟩; rw [hw']; clear hw') | (go_at_call_of 22 (Value.pointer (some ⟨bB, 0, none⟩)); refine C22b.out.mono ?_; rintro e0 w' ⟨rfl, hw'⟩; rw [hw']; clear hw'))
            go_quiet ((first | (go_at_call_of 23 (Value.pointer (some ⟨bA, 0, none⟩)); exact Calls.quiet_of_same (C23a.out _)) | (go_at_call_of 23 (Value.pointer (some ⟨bB, 0, none⟩)); exact Calls.quiet_of_same (C23b.out _))))
            have HK2 := hid (up_drewN hk.out nq)
            clear C21a C21b C22a C22b C23a C23b
            generalize wr.drewN nq = w20 at HK2 ⊢
            go_wp2_with fail
            go_roundw
            case rel => exact ⟨m + 1, by omega, by go_num, HK2⟩
            case measure => simp [intOf]; omega
          · simp [hnx] at a5 b5
            have C22a := hid (f22_any bA _ wr a5)
            have C22b := hid (f22_any bB _ wr b5)
            clear a5 b5
            go_wp2_with (first | (go_at_call_of 21 (Value.string k1); refine C21a.out.mono ?_; rintro e0 w' ⟨rfl, hw'⟩; rw [hw']; clear hw') | (go_at_call_of 21 (Value.string k2); refine C21b.out.mono ?_; rintro e0 w' ⟨rfl, hw'⟩; rw [hw']; clear hw') | (go_at_call_of 22 (Value.pointer (some ⟨bA, 0, none⟩)); refine C22a.out.mono ?_; rintro e0 w' ⟨rfl, hw'⟩; rw [hw']; clear hw') | (go_at_call_of 22 (Value.pointer (some ⟨bB, 0, none⟩)); refine C22b.out.mono ?_; rintro e0 w' ⟨rfl, hw'⟩; rw [hw']; clear hw'))
            go_quiet ((first | (go_at_call_of 23 (Value.pointer (some ⟨bA, 0, none⟩)); exact Calls.quiet_of_same (C23a.out _)) | (go_at_call_of 23 (Value.pointer (some ⟨bB, 0, none⟩)); exact Calls.quiet_of_same (C23b.out _))))
            have HK2 := hid (up_drewN hk.out nq)
            clear C21a C21b C22a C22b C23a C23b
            generalize wr.drewN nq = w20 at HK2 ⊢
            go_wp2_with fail
            go_roundw
            case rel => exact ⟨m + 1, by omega, by go_num, HK2⟩
            case measure => simp [intOf]; omega
        · cases h2
          · simp [hnx] at a5 b5
            have C22a := hid (f22_any bA _ wr a5)
            have C22b := hid (f22_any bB _ wr b5)
            clear a5 b5
            go_wp2_with (first | (go_at_call_of 21 (Value.string k1); refine C21a.out.mono ?_; rintro e0 w' ⟨rfl, hw'⟩; rw [hw']; clear hw') | (go_at_call_of 21 (Value.string k2); refine C21b.out.mono ?_; rintro e0 w' ⟨rfl, hw'⟩; rw [hw']; clear hw') | (go_at_call_of 22 (Value.pointer (some ⟨bA, 0, none⟩)); refine C22a.out.mono ?_; rintro e0 w' ⟨rfl, hw'⟩; rw [hw']; clear hw') | (go_at_call_of 22 (Value.pointer (some ⟨bB, 0, none⟩)); refine C22b.out.mono ?_; rintro e0 w' ⟨rfl, hw'⟩; rw [hw']; clear hw'))
            go_quiet ((first | (go_at_call_of 23 (Value.pointer (some ⟨bA, 0, none⟩)); exact Calls.quiet_of_same (C23a.out _)) | (go_at_call_of 23 (Value.pointer (some ⟨bB, 0, none⟩)); exact Calls.quiet_of_same (C23b.out _))))
            have HK2 := hid (up_drewN hk.out nq)
            clear C21a C21b C22a C22b C23a C23b
            generalize wr.drewN nq = w20 at HK2 ⊢
            go_wp2_with fail
            go_roundw
            case rel => exact ⟨m + 1, by omega, by go_num, HK2⟩
            case measure => simp [intOf]; omega
          · simp [hnx] at a5 b5
            have C22a := hid (f22_any bA _ wr a5)
            have C22b := hid (f22_any bB _ wr b5)
            clear a5 b5
            go_wp2_with (first | (go_at_call_of 21 (Value.string k1); refine C21a.out.mono ?_; rintro e0 w' ⟨rfl, hw'⟩; rw [hw']; clear hw') | (go_at_call_of 21 (Value.string k2); refine C21b.out.mono ?_; rintro e0 w' ⟨rfl, hw'⟩; rw [hw']; clear hw') | (go_at_call_of 22 (Value.pointer (some ⟨bA, 0, none⟩)); refine C22a.out.mono ?_; rintro e0 w' ⟨rfl, hw'⟩; rw [hw']; clear hw') | (go_at_call_of 22 (Value.pointer (some ⟨bB, 0, none⟩)); refine C22b.out.mono ?_; rintro e0 w' ⟨rfl, hw'⟩; rw [hw']; clear hw'))
            go_quiet ((first | (go_at_call_of 23 (Value.pointer (some ⟨bA, 0, none⟩)); exact Calls.quiet_of_same (C23a.out _)) | (go_at_call_of 23 (Value.pointer (some ⟨bB, 0, none⟩)); exact Calls.quiet_of_same (C23b.out _))))
            have HK2 := hid (up_drewN hk.out nq)
            clear C21a C21b C22a C22b C23a C23b
            generalize wr.drewN nq = w20 at HK2 ⊢
            go_wp2_with fail
            go_roundw
            case rel => exact ⟨m + 1, by omega, by go_num, HK2⟩
            case measure => simp [intOf]; omega
      · cases h1
        · cases h2
          · simp [hnx] at a5 b5
            have C22a := hid (f22_any bA _ wr a5)
            have C22b := hid (f22_any bB _ wr b5)
            clear a5 b5
            go_wp2_with (first | (go_at_call_of 21 (Value.string k1); refine C21a.out.mono ?_; rintro e0 w' ⟨rfl, hw'⟩; rw [hw']; clear hw') | (go_at_call_of 21 (Value.string k2); refine C21b.out.mono ?_; rintro e0 w' ⟨rfl, hw'⟩; rw [hw']; clear hw') | (go_at_call_of 22 (Value.pointer (some ⟨bA, 0, none⟩)); refine C22a.out.mono ?_; rintro e0 w' ⟨rfl, hw'⟩; rw [hw']; clear hw') | (go_at_call_of 22 (Value.pointer (some ⟨bB, 0, none⟩)); refine C22b.out.mono ?_; rintro e0 w' ⟨rfl, hw'⟩; rw [hw']; clear hw'))
            go_quiet ((first | (go_at_call_of 23 (Value.pointer (some ⟨bA, 0, none⟩)); exact Calls.quiet_of_same (C23a.out _)) | (go_at_call_of 23 (Value.pointer (some ⟨bB, 0, none⟩)); exact Calls.quiet_of_same (C23b.out _))))
            have HK2 := hid (up_drewN hk.out nq)
            clear C21a C21b C22a C22b C23a C23b
            generalize wr.drewN nq = w20 at HK2 ⊢
            go_wp2_with fail
            go_roundw
            case rel => exact ⟨m + 1, by omega, by go_num, HK2⟩
            case measure => simp [intOf]; omega
          · simp [hnx] at a5 b5
            have C22a := hid (f22_any bA _ wr a5)
            have C22b := hid (f22_any bB _ wr b5)
            clear a5 b5
            go_wp2_with (first | (go_at_call_of 21 (Value.string k1); refine C21a.out.mono ?_; rintro e0 w' ⟨rfl, hw'⟩; rw [hw']; clear hw') | (go_at_call_of 21 (Value.string k2); refine C21b.out.mono ?_; rintro e0 w' ⟨rfl, hw'⟩; rw [hw']; clear hw') | (go_at_call_of 22 (Value.pointer (some ⟨bA, 0, none⟩)); refine C22a.out.mono ?_; rintro e0 w' ⟨rfl, hw'⟩; rw [hw']; clear hw') | (go_at_call_of 22 (Value.pointer (some ⟨bB, 0, none⟩)); refine C22b.out.mono ?_; rintro e0 w' ⟨rfl, hw'⟩; rw [hw']; clear hw'))
            go_quiet ((first | (go_at_call_of 23 (Value.pointer (some ⟨bA, 0, none⟩)); exact Calls.quiet_of_same (C23a.out _)) | (go_at_call_of 23 (Value.pointer (some ⟨bB, 0, none⟩)); exact Calls.quiet_of_same (C23b.out _))))
            have HK2 := hid (up_drewN hk.out nq)
            clear C21a C21b C22a C22b C23a C23b
            generalize wr.drewN nq = w20 at HK2 ⊢
            go_wp2_with fail
            go_roundw
            case rel => exact ⟨m + 1, by omega, by go_num, HK2⟩
            case measure => simp [intOf]; omega
        · cases h2
          · simp [hnx] at a5 b5
            have C22a := hid (f22_any bA _ wr a5)
            have C22b := hid (f22_any bB _ wr b5)
            clear a5 b5
            go_wp2_with (first | (go_at_call_of 21 (Value.string k1); refine C21a.out.mono ?_; rintro e0 w' ⟨rfl, hw'⟩; rw [hw']; clear hw') | (go_at_call_of 21 (Value.string k2); refine C21b.out.mono ?_; rintro e0 w' ⟨rfl, hw'⟩; rw [hw']; clear hw') | (go_at_call_of 22 (Value.pointer (some ⟨bA, 0, none⟩)); refine C22a.out.mono ?_; rintro e0 w' ⟨rfl, hw'⟩; rw [hw']; clear hw') | (go_at_call_of 22 (Value.pointer (some ⟨bB, 0, none⟩)); refine C22b.out.mono ?_; rintro e0 w' ⟨rfl, hw'⟩; rw [hw']; clear hw'))
            go_quiet ((first | (go_at_call_of 23 (Value.pointer (some ⟨bA, 0, none⟩)); exact Calls.quiet_of_same (C23a.out _)) | (go_at_call_of 23 (Value.pointer (some ⟨bB, 0, none⟩)); exact Calls.quiet_of_same (C23b.out _))))
            have HK2 := hid (up_drewN hk.out nq)
            clear C21a C21b C22a C22b C23a C23b
            generalize wr.drewN nq = w20 at HK2 ⊢
            go_wp2_with fail
            go_roundw
            case rel => exact ⟨m + 1, by omega, by go_num, HK2⟩
            case measure => simp [intOf]; omega
          · simp [hnx] at a5 b5
            have C22a := hid (f22_any bA _ wr a5)
            have C22b := hid (f22_any bB _ wr b5)
            clear a5 b5
            go_wp2_with (first | (go_at_call_of 21 (Value.string k1); refine C21a.out.mono ?_; rintro e0 w' ⟨rfl, hw'⟩; rw [hw']; clear hw') | (go_at_call_of 21 (Value.string k2); refine C21b.out.mono ?_; rintro e0 w' ⟨rfl, hw'⟩; rw [hw']; clear hw') | (go_at_call_of 22 (Value.pointer (some ⟨bA, 0, none⟩)); refine C22a.out.mono ?_; rintro e0 w' ⟨rfl, hw'⟩; rw [hw']; clear hw') | (go_at_call_of 22 (Value.pointer (some ⟨bB, 0, none⟩)); refine C22b.out.mono ?_; rintro e0 w' ⟨rfl, hw'⟩; rw [hw']; clear hw'))
            go_quiet ((first | (go_at_call_of 23 (Value.pointer (some ⟨bA, 0, none⟩)); exact Calls.quiet_of_same (C23a.out _)) | (go_at_call_of 23 (Value.pointer (some ⟨bB, 0, none⟩)); exact Calls.quiet_of_same (C23b.out _))))
            have HK2 := hid (up_drewN hk.out nq)
            clear C21a C21b C22a C22b C23a C23b
            generalize wr.drewN nq = w20 at HK2 ⊢
            go_wp2_with fail
            go_roundw
            case rel => exact ⟨m + 1, by omega, by go_num, HK2⟩
            case measure => simp [intOf]; omega
    · have i1 : ¬ (m : Int) < (sizeX X : Int) := by omega
      go_wp2_with fail
      go_ret
      exact ⟨rfl, up_trans HB19.out hk.out⟩
end Go.Proofs.Qxb6614547a
