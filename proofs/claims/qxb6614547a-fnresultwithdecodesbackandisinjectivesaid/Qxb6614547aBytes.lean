import Derived.Test.Qxb6614547aRows
import Derived.Test.Qxb6614547aUv
import Derived.WalkKit
import Derived.WalkSpells
import Derived.WalkLawsBesides
import Derived.RegionTactic
import Derived.ChangeAlike
import Derived.Deep.QuietTactic
import Derived.Deep.RegionWith
import Derived.BigQuiet
import Derived.Below
import Derived.Outline
namespace Go.Proofs.Qxb6614547a
open Go.RowKit
set_option linter.unusedVariables false

theorem or_nat8 (a b : Nat) (ha : a < 2 ^ 8) (hb : b < 2 ^ 8) : bits .or .u8 (a : Int) (b : Int) = ((a ||| b : Nat) : Int) := by
  have h : a ||| b < 2 ^ 8 := Nat.or_lt_two_pow ha hb
  have e : bits .or .u8 (a : Int) (b : Int) = IntKind.u8.wrap (((BitVec.ofInt 8 (a : Int)) ||| (BitVec.ofInt 8 (b : Int))).toNat : Int) := rfl
  rw [e, BitVec.toNat_or, BitVec.ofInt_natCast, BitVec.ofInt_natCast, BitVec.toNat_ofNat, BitVec.toNat_ofNat, Nat.mod_eq_of_lt ha, Nat.mod_eq_of_lt hb]
  simp [IntKind.wrap, IntKind.bits, IntKind.signed]
  omega
theorem and_nat8 (a b : Nat) (ha : a < 2 ^ 8) (hb : b < 2 ^ 8) : bits .and .u8 (a : Int) (b : Int) = ((a &&& b : Nat) : Int) := by
  have h : a &&& b < 2 ^ 8 := Nat.and_lt_two_pow a hb
  have e : bits .and .u8 (a : Int) (b : Int) = IntKind.u8.wrap (((BitVec.ofInt 8 (a : Int)) &&& (BitVec.ofInt 8 (b : Int))).toNat : Int) := rfl
  rw [e, BitVec.toNat_and, BitVec.ofInt_natCast, BitVec.ofInt_natCast, BitVec.toNat_ofNat, BitVec.toNat_ofNat, Nat.mod_eq_of_lt ha, Nat.mod_eq_of_lt hb]
  simp [IntKind.wrap, IntKind.bits, IntKind.signed]
  omega
theorem or_nat64 (a b : Nat) (ha : a < 2 ^ 64) (hb : b < 2 ^ 64) : bits .or .u64 (a : Int) (b : Int) = ((a ||| b : Nat) : Int) := by
  have h : a ||| b < 2 ^ 64 := Nat.or_lt_two_pow ha hb
  have e : bits .or .u64 (a : Int) (b : Int) = IntKind.u64.wrap (((BitVec.ofInt 64 (a : Int)) ||| (BitVec.ofInt 64 (b : Int))).toNat : Int) := rfl
  rw [e, BitVec.toNat_or, BitVec.ofInt_natCast, BitVec.ofInt_natCast, BitVec.toNat_ofNat, BitVec.toNat_ofNat, Nat.mod_eq_of_lt ha, Nat.mod_eq_of_lt hb]
  simp [IntKind.wrap, IntKind.bits, IntKind.signed]
  omega
theorem or128 (y : Nat) : bits .or .u8 (((y % 256 : Nat) : Int)) 128 = (((y % 128 + 128 : Nat)) : Int) := by
  have e := or_nat8 (y % 256) 128 (by omega) (by omega)
  have e1 : ((128 : Nat) : Int) = 128 := rfl
  rw [e1] at e
  rw [e]
  have h : ∀ z : Fin 256, (z.val ||| 128) = z.val % 128 + 128 := by decide +kernel
  have := h ⟨y % 256, by omega⟩
  simp only at this
  rw [this]
  omega
theorem and127 (c : Nat) (h : c < 256) : bits .and .u8 (c : Int) 127 = ((c % 128 : Nat) : Int) := by
  have e := and_nat8 c 127 (by omega) (by omega)
  have e1 : ((127 : Nat) : Int) = 127 := rfl
  rw [e1] at e
  rw [e]
  have : c &&& 127 = c % 128 := Nat.and_two_pow_sub_one_eq_mod c 7
  rw [this]
theorem Try.info5 : (Try.prog.info? 5).map (fun i => (i.zero, i.size, i.bytes)) = some (some (.int .u8 0), 1, 1) := by kernel_rfl

theorem own_ge {w : World} {base : Nat} {e : TypeId} {size n : Nat} {v : Value} {xs : List Value} (h : w.ownsRow base e size v n xs) : ∀ k, v.ownBlock = some k → base ≤ k := by
  intro k hk
  rcases h.2 with ⟨rfl, _⟩ | ⟨g, cap, cur, rfl, hg, _⟩
  · simp [Value.ownBlock] at hk
  · simp [Value.ownBlock] at hk; omega
def byteV (d : Nat) : Value := .int .u8 (d : Int)

set_option maxHeartbeats 1000000 in
set_option maxRecDepth 100000 in
theorem f41_any (B n m : Nat) (sv : Value) (xs : List Value) (w : World) (hn : n ≤ 18446744073709551615) (hm : m ≤ 1000) (hB : B ≤ w.heap.size) (ho : w.ownsRow B 5 1 sv m xs) :
    Calls Try.prog 41 #[sv, .int .u64 n] w fun e w' => ∃ v, e = .returned v ∧ w'.ownsRow B 5 1 v (m + (uv n).length) (xs ++ (uv n).map byteV) ∧ Below B w w' := by
  obtain ⟨i0, hi, hz0, hz1, hz2⟩ := info_parts Try.info5
  go_enter Try.func41, Try.ntmps41
  go_wp2
  go_loopw [0, 1] (fun b x wr => ∃ (f y : Nat) (ys : List Nat), x = .int .u64 y ∧ Hid (y < 128 ^ (f + 1)) ∧ y ≤ 18446744073709551615 ∧ Hid (uv n = ys ++ uvD f y) ∧ ys.length + f ≤ 9 ∧ wr.ownsRow B 5 1 b (m + ys.length) (xs ++ ys.map byteV) ∧ Below B w wr) (fun _ x _ => (intOf x).toNat)
  case atStart => exact ⟨9, n, [], rfl, Nat.lt_of_lt_of_le (Nat.lt_succ_of_le hn) pow_bd, hn, rfl, by simp, by simpa using ho, Below.refl _ _⟩
  case round =>
    obtain ⟨f, y, ys, rfl, hy, hy2, hu, hf, hown, hbel⟩ := hrel
    clear ho
    have hBr : B ≤ wr.heap.size := Nat.le_trans hB hbel.size
    by_cases hlt : y < 128
    · go_wp2_with (at_builtin; refine wpList_append_own _ rfl _ _ 23 rfl B 5 i0 (.int .u8 0) 1 1 Try.underlying23 hi hz0 hz1 hz2 rfl (by decide) _ _ _ rfl (hown.alloc _) ⟨wr.heap.size, 0, none⟩ 1 1 [.int .u8 (y : Int)] rfl rfl (cell_one_new _ _ _) (fun u hu => by simp at hu; subst hu; rfl) (by unfold maxLen; omega) (by omega) (by simp; omega) ?_; intro v' w1 hown' hgrow _)
      go_ret
      refine ⟨_, rfl, ?_, (hbel.alloc hBr _).grown hgrow (by simp; omega) ?_⟩
      · rw [hu.out, uvD_small f y hlt]
        simpa [byteV, Nat.add_assoc] using hown'
      · exact own_ge hown
    · have e128 : bits .or .u8 ((y : Int) % 256) 128 = (y : Int) % 128 + 128 := by have := or128 y; simpa using this
      obtain ⟨f', rfl⟩ : ∃ f', f = f' + 1 := by
        cases f with
        | zero => have := hy.out; simp at this; omega
        | succ f' => exact ⟨f', rfl⟩
      go_wp2_with (at_builtin; refine wpList_append_own _ rfl _ _ 23 rfl B 5 i0 (.int .u8 0) 1 1 Try.underlying23 hi hz0 hz1 hz2 rfl (by decide) _ _ _ rfl (hown.alloc _) ⟨wr.heap.size, 0, none⟩ 1 1 [.int .u8 ((y : Int) % 128 + 128)] rfl rfl (cell_one_new _ _ _) (fun u hu => by simp at hu; subst hu; rfl) (by unfold maxLen; omega) (by omega) (by simp; omega) ?_; intro v' w1 hown' hgrow _)
      go_roundw
      case rel =>
        refine ⟨f', y / 128, ys ++ [y % 128 + 128], by go_num, div_pow f' y hy.out, by omega, ?_, by simp; omega, ?_, ?_⟩
        · show uv n = _
          rw [hu.out, uvD_big f' y hlt]; simp
        · simpa [byteV, Nat.add_assoc] using hown'
        · exact (hbel.alloc hBr _).grown hgrow (by simp; omega) (own_ge hown)
      case measure => simp [intOf]; omega

/-- a slice of bytes in memory of its own -/
def Reads (W : World) (v : Value) (bs : List Nat) : Prop :=
  ∃ g cap, v = .slice (some ⟨g, 0, none⟩) bs.length cap ∧ g < W.heap.size ∧ (∀ i, i < bs.length → W.cell? ⟨g, i, none⟩ = some (.int .u8 ((bs.getD i 0 : Nat) : Int))) ∧ ∀ d ∈ bs, d < 256
theorem Reads.below {W W' : World} {v : Value} {bs : List Nat} (h : Reads W v bs) (hb : Below W.heap.size W W') : Reads W' v bs := by
  obtain ⟨g, cap, rfl, hg, hc, hd⟩ := h
  exact ⟨g, cap, rfl, Nat.lt_of_lt_of_le hg hb.size, fun i hi => (hb.cell (p := ⟨g, i, none⟩) hg).trans (hc i hi), hd⟩
theorem reads_of {W : World} {B : Nat} {v : Value} {bs : List Nat} (h : W.ownsRow B 5 1 v bs.length (bs.map byteV)) (hne : bs ≠ []) (hd : ∀ d ∈ bs, d < 256) : Reads W v bs := by
  have h0 : 0 < bs.length := List.length_pos_iff.2 hne
  rcases h.2 with ⟨_, h2⟩ | ⟨g, cap, cur, rfl, hg, hh, _⟩
  · omega
  · refine ⟨g, cap, rfl, (Array.getElem?_eq_some_iff.1 hh).1, fun i hi => ?_, hd⟩
    rw [h.cellAt i (by omega), List.getElem?_map, List.getElem?_eq_getElem hi]
    simp [byteV, hi]

set_option maxHeartbeats 1000000 in
set_option maxRecDepth 100000 in
theorem f24_any (c n : Nat) (w : World) (hc : c ≤ 255) (hn : n ≤ 18446744073709551615) :
    Calls Try.prog 24 #[.int .u8 c, .int .u64 n] w fun e w' => ∃ v, e = .returned v ∧ Reads w' v (c :: uv n) ∧ Below w.heap.size w w' := by
  have hl := World.ownsRow_lit (base := w.heap.size) (e := 5) (size := 1) w #[.int .u8 c] 1 (Nat.le_refl _) (by unfold maxLen; omega) rfl
  go_enter Try.func24, Try.ntmps24
  go_wp2_with fail
  refine (f41_any w.heap.size n 1 _ [.int .u8 c] _ hn (by omega) (by simp) (by simpa using hl)).mono ?_
  rintro e w' ⟨v, rfl, ho, hb⟩
  clear hl
  go_wp2
  go_ret
  refine ⟨v, rfl, reads_of (B := w.heap.size) ?_ (by simp) ?_, ((Below.refl _ _).alloc (Nat.le_refl _) _).trans hb⟩
  · simpa [byteV, Nat.add_comm] using ho
  · intro d hd
    rcases List.mem_cons.1 hd with rfl | hd
    · omega
    · exact uv_byte n (by omega) d hd
set_option maxHeartbeats 1000000 in
set_option maxRecDepth 100000 in
theorem f7_any (c n : Nat) (w : World) (hc : c ≤ 255) (hn : n ≤ 18446744073709551615) :
    Calls Try.prog 7 #[.int .u8 c, .int .u64 n] w fun e w' => ∃ v, e = .returned v ∧ Reads w' v (c :: uv n) ∧ Below w.heap.size w w' := by
  go_enter Try.func7, Try.ntmps7
  go_wp2_with fail
  refine (f24_any c n w hc hn).mono ?_
  rintro e w' ⟨v, rfl, ho, hb⟩
  go_wp2
  go_ret
  exact ⟨v, rfl, ho, hb⟩

theorem ret_bool {a b : Bool} (h : a = b) : Ending.returned (.bool a) = .returned (.bool b) := by rw [h]
theorem eq_of_all (bs cs : List Nat) (hl : bs.length = cs.length) (h : ∀ j, j < bs.length → bs.getD j 0 = cs.getD j 0) : (bs == cs) = true := by
  rw [beq_iff_eq]
  apply List.ext_getElem hl
  intro i h1 h2
  have := h i h1
  simpa [h1, h2] using this
theorem pre_of_all (bs cs : List Nat) (hl : bs.length ≤ cs.length) (h : ∀ j, j < bs.length → bs.getD j 0 = cs.getD j 0) : bs.isPrefixOf cs = true := by
  rw [List.isPrefixOf_iff_prefix, List.prefix_iff_eq_take]
  apply List.ext_getElem
  · simp; omega
  · intro i h1 h2
    have := h i h1
    have h3 : i < cs.length := by omega
    simpa [h1, h3] using this

set_option maxHeartbeats 1000000 in
theorem f9_same (bs cs : List Nat) (v u : Value) (w : World) (hv : Reads w v bs) (hu : Reads w u cs) (h1 : bs.length ≤ 1000) (hl : bs.length = cs.length) :
    Calls Try.prog 9 #[v, u] w fun e w' => e = .returned (.bool (bs == cs)) ∧ ∃ q, w' = w.drewN q := by
  obtain ⟨g, cap, rfl, hg, hc, hd⟩ := hv
  obtain ⟨g2, cap2, rfl, hg2, hc2, hd2'⟩ := hu
  have hl1 : (((bs.length : Nat) : Int) != ((cs.length : Nat) : Int)) = false := by simp [hl]
  have HL : Hid (bs.length = cs.length) := hl
  have hle : bs.length ≤ cs.length := by omega
  clear hl
  go_enter Try.func9, Try.ntmps9
  go_wp2
  go_loopw [5] (fun i wr => ∃ k : Nat, k ≤ bs.length ∧ i = .int .i64 k ∧ Hid (∀ j, j < k → bs.getD j 0 = cs.getD j 0) ∧ ∃ q, wr = w.drewN q) (fun i _ => bs.length - (intOf i).toNat)
  case atStart => exact ⟨0, Nat.zero_le _, rfl, fun j hj => by omega, 0, rfl⟩
  case round =>
    obtain ⟨k, hk, rfl, hall, q, rfl⟩ := hrel
    by_cases hlt : k < bs.length
    · have hk2 : k < cs.length := by omega
      have c1 := hc k hlt
      have c2 := hc2 k hk2
      generalize hd1 : bs.getD k 0 = d1 at c1
      generalize hd2 : cs.getD k 0 = d2 at c2
      have HD1 : Hid (bs.getD k 0 = d1) := hd1
      have HD2 : Hid (cs.getD k 0 = d2) := hd2
      clear hd1 hd2 hc hc2 hd hd2'
      by_cases he : d1 = d2
      · have hb : (((d1 : Nat) : Int) != ((d2 : Nat) : Int)) = false := by simp [he]
        have HE : Hid (d1 = d2) := he
        clear he
        go_wp2
        go_quiet (fail)
        go_wp2
        go_roundw
        case rel =>
          refine ⟨k + 1, by omega, by go_num, ?_, q + nq, by simp⟩
          intro j hj
          rcases Nat.lt_or_ge j k with h | h
          · exact hall.out j h
          · have : j = k := by omega
            rw [this, HD1.out, HD2.out, HE.out]
        case measure => simp [intOf]; omega
      · have hb : (((d1 : Nat) : Int) != ((d2 : Nat) : Int)) = true := by rw [bne_iff_ne]; omega
        have hres : (bs == cs) = false := by
          have HN := he
          rw [← HD1.out, ← HD2.out] at HN
          rw [beq_eq_false_iff_ne]; intro e; rw [e] at HN; exact HN rfl
        have HR := hres
        have HRR : Hid ((bs == cs) = false) := hres
        clear hres HR
        go_wp2
        go_quiet (fail)
        go_wp2
        go_ret
        exact ⟨ret_bool HRR.out.symm, _, by rw [World.drewN_drewN]⟩
    · have hres : (bs == cs) = true := by
        have hall' := hall.out
        have hkk : k = bs.length := by omega
        subst hkk
        exact eq_of_all bs cs HL.out hall'
      have HRR : Hid ((bs == cs) = true) := hres
      clear hres
      go_wp2
      go_ret
      exact ⟨ret_bool HRR.out.symm, q, rfl⟩

set_option maxHeartbeats 1000000 in
theorem f9_any (bs cs : List Nat) (v u : Value) (w : World) (hv : Reads w v bs) (hu : Reads w u cs) (h1 : bs.length ≤ 1000) (h2 : cs.length ≤ 1000) :
    Calls Try.prog 9 #[v, u] w fun e w' => e = .returned (.bool (bs == cs)) ∧ ∃ q, w' = w.drewN q := by
  by_cases hl : bs.length = cs.length
  · exact f9_same bs cs v u w hv hu h1 hl
  · obtain ⟨g, cap, rfl, hg, hc, hd⟩ := hv
    obtain ⟨g2, cap2, rfl, hg2, hc2, hd2⟩ := hu
    have hl2 : (((bs.length : Nat) : Int) != ((cs.length : Nat) : Int)) = true := by rw [bne_iff_ne]; omega
    have hne : (bs == cs) = false := by rw [beq_eq_false_iff_ne]; intro e; rw [e] at hl; exact hl rfl
    go_enter Try.func9, Try.ntmps9
    go_wp2
    go_ret
    exact ⟨ret_bool hne.symm, 0, rfl⟩

set_option maxHeartbeats 1000000 in
theorem f11_le (bs cs : List Nat) (v u : Value) (w : World) (hv : Reads w v bs) (hu : Reads w u cs) (h1 : cs.length ≤ 1000) (hl : bs.length ≤ cs.length) :
    Calls Try.prog 11 #[v, u] w fun e w' => e = .returned (.bool (bs.isPrefixOf cs)) ∧ ∃ q, w' = w.drewN q := by
  obtain ⟨g, cap, rfl, hg, hc, hd⟩ := hv
  obtain ⟨g2, cap2, rfl, hg2, hc2, hd2'⟩ := hu
  go_enter Try.func11, Try.ntmps11
  go_wp2
  go_loopw [5] (fun i wr => ∃ k : Nat, k ≤ bs.length ∧ i = .int .i64 k ∧ Hid (∀ j, j < k → bs.getD j 0 = cs.getD j 0) ∧ ∃ q, wr = w.drewN q) (fun i _ => bs.length - (intOf i).toNat)
  case atStart => exact ⟨0, Nat.zero_le _, rfl, fun j hj => by omega, 0, rfl⟩
  case round =>
    obtain ⟨k, hk, rfl, hall, q, rfl⟩ := hrel
    by_cases hlt : k < bs.length
    · have hk2 : k < cs.length := by omega
      have c1 := hc k hlt
      have c2 := hc2 k hk2
      generalize hd1 : bs.getD k 0 = d1 at c1
      generalize hd2 : cs.getD k 0 = d2 at c2
      have HD1 : Hid (bs.getD k 0 = d1) := hd1
      have HD2 : Hid (cs.getD k 0 = d2) := hd2
      clear hd1 hd2 hc hc2 hd hd2'
      by_cases he : d1 = d2
      · have hb : (((d1 : Nat) : Int) != ((d2 : Nat) : Int)) = false := by simp [he]
        have HE : Hid (d1 = d2) := he
        clear he
        go_wp2
        go_quiet (fail)
        go_wp2
        go_roundw
        case rel =>
          refine ⟨k + 1, by omega, by go_num, ?_, q + nq, by simp⟩
          intro j hj
          rcases Nat.lt_or_ge j k with h | h
          · exact hall.out j h
          · have : j = k := by omega
            rw [this, HD1.out, HD2.out, HE.out]
        case measure => simp [intOf]; omega
      · have hb : (((d1 : Nat) : Int) != ((d2 : Nat) : Int)) = true := by rw [bne_iff_ne]; omega
        have hres : bs.isPrefixOf cs = false := by
          have HN := he
          rw [← HD1.out, ← HD2.out] at HN
          rw [Bool.eq_false_iff]; intro e; rw [List.isPrefixOf_iff_prefix, List.prefix_iff_eq_take] at e; rw [e] at HN; simp [hlt] at HN
        have HR := hres
        have HRR : Hid (bs.isPrefixOf cs = false) := hres
        clear hres HR
        go_wp2
        go_quiet (fail)
        go_wp2
        go_ret
        exact ⟨ret_bool HRR.out.symm, _, by rw [World.drewN_drewN]⟩
    · have hres : bs.isPrefixOf cs = true := by
        have hall' := hall.out
        have hkk : k = bs.length := by omega
        subst hkk
        exact pre_of_all bs cs hl hall'
      have HRR : Hid (bs.isPrefixOf cs = true) := hres
      clear hres
      go_wp2
      go_ret
      exact ⟨ret_bool HRR.out.symm, q, rfl⟩

set_option maxHeartbeats 1000000 in
theorem f11_any (bs cs : List Nat) (v u : Value) (w : World) (hv : Reads w v bs) (hu : Reads w u cs) (h1 : bs.length ≤ 1000) (h2 : cs.length ≤ 1000) :
    Calls Try.prog 11 #[v, u] w fun e w' => e = .returned (.bool (bs.isPrefixOf cs)) ∧ ∃ q, w' = w.drewN q := by
  by_cases hl : bs.length ≤ cs.length
  · exact f11_le bs cs v u w hv hu h2 hl
  · obtain ⟨g, cap, rfl, hg, hc, hd⟩ := hv
    obtain ⟨g2, cap2, rfl, hg2, hc2, hd2⟩ := hu
    have hne : bs.isPrefixOf cs = false := by
      rw [Bool.eq_false_iff]; intro e; rw [List.isPrefixOf_iff_prefix] at e; exact hl e.length_le
    go_enter Try.func11, Try.ntmps11
    go_wp2
    go_ret
    exact ⟨ret_bool hne.symm, 0, rfl⟩
end Go.Proofs.Qxb6614547a
