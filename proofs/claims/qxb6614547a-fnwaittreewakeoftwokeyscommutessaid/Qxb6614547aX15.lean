import Derived.Test.Qxb6614547aX14
namespace Go.Proofs.Qxb6614547a
open Go.RowKit
open Go.Deep (BT)
set_option linter.unusedVariables false

theorem BX.fr {ob : Nat} {w w' : World} {v v' : Value} (h : BX ob w w' v v') (hv : v.ownBlock = none) : Fr [ob] w w' := ⟨h.os, h.tape, h.output, h.size, fun k hk hn => h.block k hk (by simpa using hn) (by rw [hv]; simp)⟩
theorem up_alloc {w w1 : World} (h : Below w.heap.size w w1) (o : Obj) : Below w.heap.size w (w1.alloc o) := up_trans h ⟨rfl, rfl, rfl, by simp, fun k hk => Below.heap_alloc _ _ _ hk⟩
section
variable {w w' : World} {B n : Nat} {X : BT TW} {ao : Option Addr} {cap gw gn tb ob : Nat} {added : Int} {L LR : List En} {vs v : Value} {xs : List Value} {T : BT Wt}
theorem S5.call18 (h : S5 w B n X ao cap gw gn tb ob added L LR vs v xs T) (k : ByteArray) (rev : Int) (hn : n ≤ 20000) :
    Calls Try.prog 18 #[.slice ao n cap, .slice (some ⟨gw, 0, none⟩) n n, .slice (some ⟨gn, 0, none⟩) n n, .string k, .int .u64 rev] w fun e w' => e = .returned (.int .i64 ((HL k LR).length : Int)) ∧ Fr [gw, gn] w w' ∧ Below B w w' ∧ S5 w' B n X ao cap gw gn tb ob added L (LR.map (wakeE k rev)) vs v xs T := by
  refine (f18_any X B gw gn LR ao n cap k rev w h.xin h.ins h.rw (h.ge _ (.inl rfl)) (h.ge _ (.inr (.inl rfl))) h.mt h.len hn).mono ?_
  rintro e w1 ⟨rfl, hR, hk⟩
  exact ⟨rfl, hk.fr, hk.fr.below h.hB (by intro b hb; simp at hb; exact h.ge b (by rcases hb with rfl | rfl <;> simp)), h.step k rev hR hk⟩
theorem S5.call19 (h : S5 w B n X ao cap gw gn tb ob added L LR vs v xs T) (k : ByteArray) (rev : Int) :
    Calls Try.prog 19 #[.pointer (some ⟨tb, 0, none⟩), .string k, .int .u64 rev] w fun e w' => e = .returned (.tuple #[]) ∧ Fr (foot tb L v) w w' ∧ Below B w w' ∧ ∃ v' T', S5 w' B n X ao cap gw gn tb ob added (L.map (wakeE k rev)) LR vs v' (List.replicate (HL k L).length (.pointer none)) T' ∧ (v'.ownBlock = v.ownBlock ∨ ∃ g, v'.ownBlock = some g ∧ w.heap.size ≤ g) := by
  refine (f19_any tb added rev L v xs T k w h.inv h.sl h.vo).mono ?_
  rintro e w1 ⟨rfl, hw⟩
  obtain ⟨v', T', h', ho, hf⟩ := h.wake k rev hw
  exact ⟨rfl, hf, hf.below h.hB (fun b hb => h.ge b (.inr (.inr (.inr (.inl hb))))), v', T', h', ho⟩
theorem S5.call20 {sa : Option Addr} {cs m : Nat} (h : S5 w B n X ao cap gw gn tb ob added L L (.slice sa n cs) v (List.replicate m (.pointer none)) T) (hm : m ≤ 100000) :
    Calls Try.prog 20 #[.pointer (some ⟨tb, 0, none⟩), .int .u64 added, .slice sa n cs, .slice (some ⟨gw, 0, none⟩) n n, .slice (some ⟨gn, 0, none⟩) n n, .int .i64 m] w fun e w' => e = .returned (.bool true) ∧ Below w.heap.size w w' :=
  f20_any tb gw gn n cs m added L v T sa w h.inv h.sl h.rw h.ws hm
theorem S5.cell (h : S5 w B n X ao cap gw gn tb ob added L LR vs v xs T) : w.cell? ⟨ob, 0, none⟩ = some vs := cell_of_row _ _ 0 _ _ _ h.out
end

set_option maxHeartbeats 8000000 in
set_option maxRecDepth 100000 in
theorem law5 (X : BT TW) (added r1 r2 wl : Int) (k1 k2 : ByteArray) (w : World) (hX : XIn w w.heap.size X) (hk1 : k1.size ≤ 9223372036854775807) (hk2 : k2.size ≤ 9223372036854775807) :
    Calls Try.prog 5 #[X.ptr, .int .u64 added, .int .i64 wl, .string k1, .int .u64 r1, .string k2, .int .u64 r2] w fun e w' => e = .returned (.bool true) ∧ Below w.heap.size w w' := by
  have HX := hid hX
  obtain ⟨px, hpx⟩ := xptr_form X
  have HPX := hid hpx
  rw [hpx]
  clear hX hpx
  by_cases q1 : 262144 < k1.size
  · have q1' : (262144 : Int) < (k1.size : Int) := by omega
    go_enter Try.func5, Try.ntmps5
    go_wp2_with fail
    go_ret
    exact ⟨rfl, Below.refl _ _⟩
  by_cases q2 : 262144 < k2.size
  · have q1' : ¬ (262144 : Int) < (k1.size : Int) := by omega
    have q2' : (262144 : Int) < (k2.size : Int) := by omega
    go_enter Try.func5, Try.ntmps5
    go_wp2_with fail
    go_ret
    exact ⟨rfl, Below.refl _ _⟩
  have q1' : ¬ (262144 : Int) < (k1.size : Int) := by omega
  have q2' : ¬ (262144 : Int) < (k2.size : Int) := by omega
  by_cases q3 : wl < 0
  · go_enter Try.func5, Try.ntmps5
    go_wp2_with fail
    go_ret
    exact ⟨rfl, Below.refl _ _⟩
  by_cases q4 : 65536 < wl
  · go_enter Try.func5, Try.ntmps5
    go_wp2_with fail
    go_ret
    exact ⟨rfl, Below.refl _ _⟩
  obtain ⟨wn, rfl⟩ : ∃ wn : Nat, wl = (wn : Int) := ⟨wl.toNat, by omega⟩
  have i1 : IntKind.i64.wrap (1048576 - (k1.size : Int)) = 1048576 - (k1.size : Int) := by rw [IntKind.wrap_i64]; omega
  have i2 : IntKind.i64.wrap (1048576 - (k1.size : Int) - (k2.size : Int)) = 1048576 - (k1.size : Int) - (k2.size : Int) := by rw [IntKind.wrap_i64]; omega
  have i3 : IntKind.i64.wrap (8 * (wn : Int)) = 8 * (wn : Int) := by rw [IntKind.wrap_i64]; omega
  have i4 : IntKind.i64.wrap (1048576 - (k1.size : Int) - (k2.size : Int) - 8 * (wn : Int)) = 1048576 - (k1.size : Int) - (k2.size : Int) - 8 * (wn : Int) := by rw [IntKind.wrap_i64]; omega
  have C12 := hid (f12_any X w.heap.size (1048576 - (k1.size : Int) - (k2.size : Int) - 8 * (wn : Int)) w HX.out (by omega) (by omega))
  rw [HPX.out] at C12
  go_enter Try.func5, Try.ntmps5
  go_wp2_with fail
  refine C12.out.mono ?_
  rintro e w0 ⟨rr, rfl, hw0, hr1, hr2, hr3⟩
  rw [hw0]
  clear hw0 C12
  by_cases q5 : rr < 0
  · go_wp2_with fail
    go_ret
    exact ⟨rfl, Below.refl _ _⟩
  have hsz : sizeX X ≤ 20000 := by have := hr3 (by omega); omega
  have C13 := hid (f13_any X w.heap.size w HX.out (Nat.le_refl _) hsz)
  rw [HPX.out] at C13
  clear hr3
  go_wp2_with fail
  refine C13.out.mono ?_
  rintro e w1 ⟨bp, rfl, hbp, hb1⟩
  have HB1 := hid hb1
  clear C13 hb1
  cases bp
  · clear hbp
    go_wp2_with fail
    go_ret
    exact ⟨rfl, HB1.out⟩
  obtain ⟨hadj, hends⟩ := hbp rfl
  have HADJ := hid hadj
  have HENDS := hid hends
  clear hbp hadj hends
  have HX1 := hid (HX.out.below HB1.out)
  have C14 := hid (f14_any X w.heap.size (.slice none 0 0) 0 [] w1 HX1.out ⟨rfl, .inl ⟨rfl, rfl⟩⟩ (fun k h => by cases h) HB1.out.size (by omega))
  rw [HPX.out] at C14
  go_wp2_with fail
  refine C14.out.mono ?_
  rintro e w2 ⟨vi, rfl, ho2, hx2⟩
  rw [Nat.zero_add, List.nil_append] at ho2
  obtain ⟨ao, cap, rfl⟩ := own_slice ho2
  have hb2 := hx2.below (fun k h => by cases h) HB1.out.size
  have HB2 := hid (HB1.out.trans hb2)
  have HO2 := hid ho2
  have HX2 := hid (HX.out.below HB2.out)
  clear C14 ho2 hx2 hb2
  go_wp2_with fail
  have hc3 : (w2.alloc (.cells #[.slice none 0 0] 35)).heap[w2.heap.size]? = some (.cells #[.slice none 0 0] 35) := heap_top _ _ _ rfl
  have hs3 : (w2.alloc (.cells #[.slice none 0 0] 35)).heap.size = w2.heap.size + 1 := by simp
  have hb3 : Below w.heap.size w (w2.alloc (.cells #[.slice none 0 0] 35)) := up_alloc HB2.out _
  have ho3 := HO2.out.alloc (.cells #[.slice none 0 0] 35)
  have hz2 := HB2.out.size
  have hio : ∀ g, (Value.slice ao (sizeX X) cap).ownBlock = some g → g < w2.heap.size := by
    intro g hg
    obtain ⟨cs, hc⟩ := row_cells HO2.out hg
    exact (Array.getElem?_eq_some_iff.1 hc).1
  generalize w2.alloc (.cells #[.slice none 0 0] 35) = w3 at hc3 hs3 hb3 ho3 ⊢
  have C15 := hid (f15_any X w.heap.size w2.heap.size (.slice none 0 0) 0 [] w3 (HX.out.below hb3) HENDS.out hc3 ⟨rfl, .inl ⟨rfl, rfl⟩⟩ (fun k h => by cases h) hz2 (by omega) (by omega))
  rw [HPX.out] at C15
  have HB3 := hid hb3
  have HO3 := hid ho3
  have Hinp := hid hio
  clear hc3 hb3 ho3 hio
  refine C15.out.mono ?_
  rintro e w4 ⟨vs, K, rfl, hbt⟩
  obtain ⟨pk, hpk⟩ := ptr_form K w4 hbt.tin
  have hrow4 := hbt.row
  rw [Nat.zero_add] at hrow4
  obtain ⟨sa, cs, hvs⟩ := own_slice hrow4
  subst hvs
  have hf4 := hbt.bx.fr rfl
  have HB4 := hid (HB3.out.trans (hf4.below HB3.out.size (by intro b hb; simp at hb; omega)))
  have HO4 := hid (hf4.own HO3.out (fun g hg => by have := Hinp.out g hg; simp; omega))
  have HSD := hid (side_start (added := added) (wl := wn) hbt HADJ.out HB3.out.size hz2 hsz (by omega) (by omega)).1
  rw [hpk] at HSD ⊢
  have C16 := hid (f16_any pk added wn (by omega) w4)
  clear C15 hbt hrow4 hf4 hpk
  go_wp2_with fail
  refine C16.out.mono ?_
  rintro e w5 ⟨rfl, hw5⟩
  rw [← hw5] at HSD
  have hb5 : Below w.heap.size w w5 := by rw [hw5]; exact up_alloc (up_alloc HB4.out _) _
  have ho5 : w5.ownsRow 0 30 1 (.slice ao (sizeX X) cap) (sizeX X) ((tino X).map tptr) := by rw [hw5]; exact (HO4.out.alloc _).alloc _
  have HB5 := hid hb5
  have HO5 := hid ho5
  have C17 := hid (f17_any X w.heap.size ao (sizeX X) cap w5 (HX.out.below hb5) hb5.size ho5 hsz)
  clear C16 hw5 hb5 ho5
  go_wp2_with fail
  refine C17.out.mono ?_
  rintro e w6 ⟨rfl, hg1, hg2, hb6⟩
  have hS6 := S5.of (HX.out.below (up_trans HB5.out hb6)) (up_trans HB5.out hb6).size (up_own hb6 HO5.out) (HSD.out.up hb6) (rw_start (HSD.out) hg1 hg2) HB5.out.size (Nat.le_succ_of_le HB5.out.size)
  have HB6 := hid (up_trans HB5.out hb6)
  have HS6 := hid hS6
  have hL6 := hS6.len
  clear C17 hg1 hg2 hb6 hS6 HSD
  generalize w5.heap.size = gw at *
  generalize L0 K = L at *
  generalize w4.heap.size + 1 = tb at *
  have C18 := hid (HS6.out.call18 k1 r1 hsz)
  go_wp2_with fail
  refine C18.out.mono ?_
  rintro e w7 ⟨rfl, _, hb7, hS7⟩
  have C19 := hid (hS7.call19 k1 r1)
  have HB7 := hid (HB6.out.trans hb7)
  clear C18 hb7 hS7
  go_wp2_with fail
  refine C19.out.mono ?_
  rintro e w8 ⟨rfl, _, hb8, v8, T8, hS8, _⟩
  have c8 := hS8.cell
  have hm1 : (HL k1 L).length ≤ 100000 := Nat.le_trans (List.length_filter_le _ _) (by omega)
  have C20 := hid (hS8.call20 hm1)
  have HB8 := hid (HB7.out.trans hb8)
  have HS8 := hid hS8
  clear C19 hb8 hS8
  go_wp2_with fail
  refine C20.out.mono ?_
  rintro e w9 ⟨rfl, hb9⟩
  have hS9 := HS8.out.up hb9
  have HB9 := hid (up_trans HB8.out ⟨hb9.os, hb9.tape, hb9.output, hb9.size, hb9.block⟩)
  have C18b := hid (hS9.call18 k2 r2 hsz)
  clear c8 C20 hb9 hS9 HS8
  go_wp2_with fail
  refine C18b.out.mono ?_
  rintro e w10 ⟨rfl, _, hb10, hS10⟩
  have C19b := hid (hS10.call19 k2 r2)
  have HB10 := hid (HB9.out.trans hb10)
  clear C18b hb10 hS10
  go_wp2_with fail
  refine C19b.out.mono ?_
  rintro e w11 ⟨rfl, _, hb11, v11, T11, hS11, _⟩
  have c11 := hS11.cell
  have hm2 : (HL k2 (L.map (wakeE k1 r1))).length ≤ 100000 := Nat.le_trans (List.length_filter_le _ _) (by simp; omega)
  have C20b := hid (hS11.call20 hm2)
  have HB11 := hid (HB10.out.trans hb11)
  clear C19b hb11 hS11
  go_wp2_with fail
  refine C20b.out.mono ?_
  rintro e w12 ⟨rfl, hb12⟩
  have HB12 := hid (up_trans HB11.out hb12)
  clear C20b hb12 c11
  go_wp2_with fail
  go_ret
  exact ⟨rfl, HB12.out⟩
end Go.Proofs.Qxb6614547a
