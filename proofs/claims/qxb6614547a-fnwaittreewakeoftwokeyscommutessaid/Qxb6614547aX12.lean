import Derived.Test.Qxb6614547aX11
namespace Go.Proofs.Qxb6614547a
open Go.RowKit
open Go.Deep (BT)
set_option linter.unusedVariables false

theorem ptr_neq_same (w : World) (a : Addr) : (binOp .neq 36 (.pointer (some a)) (.pointer (some a))).run Try.prog w = .ok (.bool false) w := by
  have h : ∃ j, Try.prog.info? 74 = some j := Option.isSome_iff_exists.1 (by kernel_rfl)
  obtain ⟨j, hj⟩ := h
  have h : ∀ d : Nat, (Op.equalIn (d + 1) 36 (.pointer (some a)) (.pointer (some a))).run Try.prog w = .ok true w := fun d => by
    simp [Op.equalIn, run_underlying Try.underlying36, sizeOf, typeInfo, hj, run_sameAddr_same]
  simp only [binOp]
  simp [Op.equal, Op.maxDepth, h 9999]

set_option maxHeartbeats 8000000 in
set_option maxRecDepth 100000 in
theorem f20_any (tb gw gn n cap h : Nat) (added : Int) (L : List En) (v : Value) (T : BT Wt) (ao : Option Addr) (w : World) (hI : Inv w tb added L v (List.replicate h (.pointer none)) T) (hs : SL L) (hR : Rw w gw gn L) (hS : w.ownsRow 0 36 1 (.slice ao n cap) n (L.map eptr)) (hh : h ≤ 100000) :
    Calls Try.prog 20 #[.pointer (some ⟨tb, 0, none⟩), .int .u64 added, .slice ao n cap, .slice (some ⟨gw, 0, none⟩) n n, .slice (some ⟨gn, 0, none⟩) n n, .int .i64 h] w fun e w' => e = .returned (.bool true) ∧ Below w.heap.size w w' := by
  have hlen : L.length = n := by have := hS.1; simpa using this
  have hn : n ≤ 20000 := by have := hs.len; omega
  have C31 := hid (f31_any tb added w (cell_of_row _ _ 1 _ _ _ hI.tree))
  have HF := hid (fun (wr : World) (hk : Below w.heap.size w wr) (m : Nat) (e : En) (he : L[m]? = some e) => ck_facts hk hI hR hS he)
  have HI := hid hI
  have HS := hid hs
  have HR := hid hR
  have HSS := hid hS
  clear hI hs hR hS
  go_enter Try.func20, Try.ntmps20
  go_wp2_with (go_at_call 31; refine C31.out.mono ?_; rintro e0 w' ⟨rfl, hw'⟩; rw [hw']; clear hw')
  clear C31
  go_loopw [13] (fun i wr => ∃ m : Nat, m ≤ n ∧ i = .int .i64 m ∧ Hid (Below w.heap.size w wr)) (fun i _ => n - (intOf i).toNat)
  case atStart => exact ⟨0, Nat.zero_le _, rfl, Below.refl _ _⟩
  case round =>
    obtain ⟨m, hm, rfl, hk⟩ := hrel
    by_cases hlt : m < n
    · have hlt' : m < L.length := by omega
      obtain ⟨e, he⟩ : ∃ e, L[m]? = some e := ⟨_, List.getElem?_eq_getElem hlt'⟩
      have HE := hid he
      obtain ⟨gs, pl, pr, rfl, c0, c5, c4, c10, c11, hnil, c3, hch, cw, cn⟩ := HF.out wr hk.out m e he
      have i1 : (m : Int) < (n : Int) := by omega
      clear he hlt'
      cases hwt : e.wt
      · rw [hwt] at c5 cw hch
        have C22 := hid (fun q => f22_any e.b false (wr.drewN q) c5)
        have C23 := hid (fun q => f23_any e.b e.a.nxt (wr.drewN q) c4)
        clear hnil c10 c11 c3 hch
        go_wp2_with fail
        go_quiet ((first | (go_at_call 22; exact Calls.quiet_of_same (C22.out _)) | (go_at_call 23; exact Calls.quiet_of_same (C23.out _))))
        have HK2 := hid (up_drewN hk.out nq)
        clear c0 c5 c4 cw cn C22 C23
        generalize wr.drewN nq = w2 at HK2 ⊢
        obtain ⟨gs', pl, pr, hgs, c0, c5, c4, c10, c11, hnil, c3, hch, cw, cn⟩ := HF.out w2 HK2.out m e HE.out
        cases hgs
        rw [hwt] at c5 cw hch
        have C32 := hid (fun q => closed_any e.b e.a.ch (!false) (w2.drewN q) c3 hch)
        simp only [Bool.not_false] at C32
        clear hnil c0 c5 c4 c10 c11 c3 hch cn
        go_wp2_with fail
        go_quiet ((go_at_call 32; exact Calls.quiet_of_same (C32.out _)))
        have HK3 := hid (up_drewN HK2.out nq)
        clear cw C32
        generalize w2.drewN nq = w3 at HK3 ⊢
        obtain ⟨gs', pl, pr, hgs, c0, c5, c4, c10, c11, hnil, c3, hch, cw, cn⟩ := HF.out w3 HK3.out m e HE.out
        cases hgs
        rw [hwt] at c5 cw hch
        obtain ⟨hp1, hp2⟩ := hnil hwt
        subst hp1 hp2
        have C33 := hid (f33_any e.b none w3 c10)
        have C34 := hid (f34_any e.b none w3 c11)
        clear hnil c0 c5 c4 c10 c11 c3 hch cn hwt
        go_wp2_with (first | (go_at_call 33; refine C33.out.mono ?_; rintro e0 w' ⟨rfl, hw'⟩; rw [hw']; clear hw') | (go_at_call 34; refine C34.out.mono ?_; rintro e0 w' ⟨rfl, hw'⟩; rw [hw']; clear hw'))
        go_roundw
        case rel => exact ⟨m + 1, by omega, by go_num, HK3⟩
        case measure => simp [intOf]; omega
      · rw [hwt] at c5 cw hch
        have C22 := hid (fun q => f22_any e.b true (wr.drewN q) c5)
        have C23 := hid (fun q => f23_any e.b e.a.nxt (wr.drewN q) c4)
        clear hnil c10 c11 c3 hch
        go_wp2_with fail
        go_quiet ((first | (go_at_call 22; exact Calls.quiet_of_same (C22.out _)) | (go_at_call 23; exact Calls.quiet_of_same (C23.out _))))
        have HK2 := hid (up_drewN hk.out nq)
        clear c0 c5 c4 cw cn C22 C23
        generalize wr.drewN nq = w2 at HK2 ⊢
        obtain ⟨gs', pl, pr, hgs, c0, c5, c4, c10, c11, hnil, c3, hch, cw, cn⟩ := HF.out w2 HK2.out m e HE.out
        cases hgs
        rw [hwt] at c5 cw hch
        have C32 := hid (fun q => closed_any e.b e.a.ch (!true) (w2.drewN q) c3 hch)
        simp only [Bool.not_true] at C32
        clear hnil c0 c5 c4 c10 c11 c3 hch cn
        go_wp2_with fail
        go_quiet ((go_at_call 32; exact Calls.quiet_of_same (C32.out _)))
        have HK3 := hid (up_drewN HK2.out nq)
        clear cw C32
        generalize w2.drewN nq = w3 at HK3 ⊢
        obtain ⟨gs', pl, pr, hgs, c0, c5, c4, c10, c11, hnil, c3, hch, cw, cn⟩ := HF.out w3 HK3.out m e HE.out
        cases hgs
        rw [hwt] at c5 cw hch
        clear hnil c0 c5 c4 c10 c11 c3 hch cn hwt
        go_wp2_with fail
        go_roundw
        case rel => exact ⟨m + 1, by omega, by go_num, HK3⟩
        case measure => simp [intOf]; omega
    · have i1 : ¬ (m : Int) < (n : Int) := by omega
      obtain ⟨av, cv, hv⟩ := own_slice HI.out.row
      rw [List.length_replicate] at hv
      have HV := hid hv
      have c2 : wr.cell? ⟨tb, 2, none⟩ = some (.slice av h cv) := (cell_of_row _ _ 2 _ _ _ (up_heap hk.out HI.out.tree)).trans (by rw [hv]; rfl)
      have C35 := hid (f35_any tb av h cv wr c2)
      clear hv c2
      go_wp2_with (go_at_call 35; refine C35.out.mono ?_; rintro e0 w' ⟨rfl, hw'⟩; rw [hw']; clear hw')
      go_loopw [16] (fun i wq => ∃ j : Nat, j ≤ h ∧ i = .int .i64 j ∧ Hid (Below w.heap.size w wq)) (fun i _ => h - (intOf i).toNat)
      case atStart => exact ⟨0, Nat.zero_le _, rfl, hk⟩
      case round =>
        obtain ⟨j, hj, rfl, hk2⟩ := hrel
        clear C35
        by_cases hlt2 : j < h
        · have i2 : (j : Int) < (h : Int) := by omega
          have hrv : ∃ gv, av = some ⟨gv, 0, none⟩ ∧ wr.cell? ⟨gv, j, none⟩ = some (.pointer none) := by
            have ho := up_own hk2.out HI.out.row
            rw [HV.out, List.length_replicate] at ho
            rcases ho.2 with ⟨h1, h2⟩ | ⟨g, cap', cur, h1, _, hh', _⟩
            · omega
            · cases h1
              refine ⟨g, rfl, ?_⟩
              rw [ho.cellAt j (by omega)]
              simp [hlt2]
          obtain ⟨gv, rfl, cv0⟩ := hrv
          go_wp2_with fail
          go_roundw
          case rel => exact ⟨j + 1, by omega, by go_num, hk2⟩
          case measure => simp [intOf]; omega
        · have i2 : ¬ (j : Int) < (h : Int) := by omega
          obtain ⟨p0, hp0⟩ := ptr_form T w HI.out.tin
          have HP0 := hid hp0
          have cr : wr.cell? ⟨tb, 0, none⟩ = some (.pointer p0) := (cell_of_row _ _ 0 _ _ _ (up_heap hk2.out HI.out.tree)).trans (by simp [hp0])
          have C37 := hid (f37_any tb p0 wr cr)
          have hsz : sizeT T ≤ n := by
            rw [← len_ino, HI.out.inot, List.length_map, ← hlen]; exact List.length_filter_le _ _
          have C36 := hid (f36_any T 0 n (.slice none 0 0) 0 [] wr (up_tin hk2.out HI.out.tin) ⟨rfl, .inl ⟨rfl, rfl⟩⟩ (by omega) (by omega) hn)
          rw [hp0] at C36
          have HEX : Hid (∀ (w' : World) (v' : Value), Ext wr w' (.slice none 0 0) v' → Below w.heap.size w w') := fun w' v' hx => up_trans hk2.out ⟨hx.os, hx.tape, hx.output, hx.size, fun k hk' => hx.block k hk' (by simp [Value.ownBlock])⟩
          clear cr hp0
          go_wp2_with (go_at_call 37; refine C37.out.mono ?_; rintro e0 w' ⟨rfl, hw'⟩; rw [hw']; clear hw')
          refine C36.out.mono ?_
          rintro e0 w5 ⟨v5, rfl, ho5, hx5⟩
          rw [Nat.zero_add, List.nil_append] at ho5
          obtain ⟨a5, cp5, rfl⟩ := own_slice ho5
          have HK5 := hid (HEX.out w5 _ hx5)
          have HO5 := hid ho5
          have HROW5 : Hid (∀ (wq : World), Below w5.heap.size w5 wq → ∀ (i : Nat) (p : Nat × Wt), (ino T)[i]? = some p → ∃ g5, a5 = some ⟨g5, 0, none⟩ ∧ wq.cell? ⟨g5, i, none⟩ = some (.pointer (some ⟨p.1, 0, none⟩)) ∧ i < sizeT T) := by
            intro wq hq i p hp
            have hi5 : i < sizeT T := by rw [← len_ino]; exact (List.getElem?_eq_some_iff.1 hp).1
            have ho := up_own hq ho5
            rcases ho.2 with ⟨h1, h2⟩ | ⟨g, cap', cur, h1, _⟩
            · omega
            · cases h1
              refine ⟨g, rfl, ?_, hi5⟩
              rw [ho.cellAt i (by omega), List.getElem?_map, hp]
              rfl
          clear C37 C36 ho5 hx5 HEX
          go_wp2_with fail
          go_loopw [19, 20] (fun j i wq => ∃ m : Nat, m ≤ n ∧ i = .int .i64 m ∧ j = .int .i64 (((L.take m).filter (·.wt)).length : Int) ∧ Hid (Below w5.heap.size w5 wq)) (fun _ i _ => n - (intOf i).toNat)
          case atStart => exact ⟨0, Nat.zero_le _, rfl, by simp, Below.refl _ _⟩
          case round =>
            obtain ⟨m, hm, rfl, rfl, hk3⟩ := hrel
            by_cases hlt3 : m < n
            · have hlt' : m < L.length := by omega
              obtain ⟨e, he⟩ : ∃ e, L[m]? = some e := ⟨_, List.getElem?_eq_getElem hlt'⟩
              have HE := hid he
              have HFL := hid (filt_len he)
              have HFG := hid (fun hw => filt_get he hw)
              obtain ⟨gs, pl, pr, rfl, c0, c5, c4, c10, c11, hnil, c3, hch, cw, cn⟩ := HF.out wr (up_trans HK5.out hk3.out) m e he
              have i3 : (m : Int) < (n : Int) := by omega
              clear he hlt' c5 c4 c10 c11 hnil c3 hch cn
              cases hwt : e.wt
              · rw [hwt] at cw
                have HC : Hid (((L.take (m + 1)).filter (·.wt)).length = ((L.take m).filter (·.wt)).length) := by show _ = _; rw [HFL.out]; simp [hwt]
                clear hwt HFG
                go_wp2_with fail
                go_roundw
                case rel => exact ⟨m + 1, by omega, by go_num, by rw [HC.out], hk3⟩
                case measure => simp [intOf]; omega
              · rw [hwt] at cw
                have HC : Hid (((L.take (m + 1)).filter (·.wt)).length = ((L.take m).filter (·.wt)).length + 1) := by show _ = _; rw [HFL.out]; simp [hwt]
                have hp : (ino T)[((L.take m).filter (·.wt)).length]? = some (e.b, e.a) := by rw [HI.out.inot, List.getElem?_map, HFG.out hwt]; rfl
                obtain ⟨g5, rfl, c6, hj5⟩ := HROW5.out wr hk3.out _ _ hp
                have hj6 : ((L.take m).filter (·.wt)).length ≤ 20000 := by omega
                have i4 : ¬ (sizeT T : Int) ≤ (((L.take m).filter (·.wt)).length : Int) := by omega
                have i5 : (((L.take m).filter (·.wt)).length : Int) < (sizeT T : Int) := by omega
                have i6 : IntKind.i64.wrap ((((L.take m).filter (·.wt)).length : Int) + 1) = (((L.take m).filter (·.wt)).length : Int) + 1 := by
                  have := wrap_small (((L.take m).filter (·.wt)).length + 1) (by omega)
                  simpa using this
                simp only at c6
                have es := fun (w : World) => ptr_neq_same w ⟨e.b, 0, none⟩
                clear hwt HFG hp
                generalize hcnt : ((L.take m).filter (·.wt)).length = cnt at *
                go_wp2_with fail
                go_quiet (fail)
                have HK6 := hid (up_drewN hk3.out nq)
                clear c0 cw c6
                generalize wr.drewN nq = w6 at HK6 ⊢
                go_wp2_with fail
                go_roundw
                case rel => exact ⟨m + 1, by omega, by go_num, by rw [HC.out]; go_num, HK6⟩
                case measure => simp [intOf]; omega
            · have i3 : ¬ (m : Int) < (n : Int) := by omega
              have hcc : ((L.take m).filter (·.wt)).length = sizeT T := by
                rw [List.take_of_length_le (by omega), ← len_ino, HI.out.inot, List.length_map]
              rw [hcc]
              clear hcc HSS HR HF
              go_wp2_with fail
              go_loopw [21] (fun i wq => ∃ j4 : Nat, j4 ≤ sizeT T ∧ i = .int .i64 j4 ∧ Hid (Below w5.heap.size w5 wq)) (fun i _ => sizeT T - (intOf i).toNat)
              case atStart => exact ⟨0, Nat.zero_le _, rfl, hk3⟩
              case round =>
                obtain ⟨j4, hj4, rfl, hk4⟩ := hrel
                by_cases hlt4 : j4 < sizeT T
                · have hlt' : j4 < (ino T).length := by rw [len_ino]; exact hlt4
                  obtain ⟨⟨pb, pa⟩, hp⟩ : ∃ p, (ino T)[j4]? = some p := ⟨_, List.getElem?_eq_getElem hlt'⟩
                  obtain ⟨g5, rfl, c6, _⟩ := HROW5.out wr hk4.out j4 _ hp
                  obtain ⟨l, r, hb, hl, hr⟩ := (up_tin (up_trans HK5.out hk4.out) HI.out.tin).mem2 _ (List.mem_of_getElem? hp)
                  have i4 : (j4 : Int) < (sizeT T : Int) := by omega
                  simp only at c6 hb
                  clear hlt'
                  cases l with
                  | nil =>
                    cases r with
                    | nil =>
                        simp only [BT.ptr, orLater] at hb
                        obtain ⟨_, d2, _, _, _, _, _, d10, d11, d12, _⟩ := wcell hb
                        have C38 := hid (f38_any pb _ wr d2)
                        have C33 := hid (f33_any pb _ wr d10)
                        have C34 := hid (f34_any pb _ wr d11)
                        have C40 := hid (f40_any pb _ wr d12)
                        clear hb d2 d10 d11 d12 hp
                        go_wp2_with (first | (go_at_call 38; refine C38.out.mono ?_; rintro e0 w' ⟨rfl, hw'⟩; rw [hw']; clear hw') | (go_at_call 33; refine C33.out.mono ?_; rintro e0 w' ⟨rfl, hw'⟩; rw [hw']; clear hw') | (go_at_call 34; refine C34.out.mono ?_; rintro e0 w' ⟨rfl, hw'⟩; rw [hw']; clear hw') | (go_at_call 39; refine (f39_any _ _ _).mono ?_; rintro e0 w' ⟨rfl, hw'⟩; rw [hw']; clear hw') | (go_at_call_of 40 (Value.pointer (some ⟨pb, 0, none⟩)); refine C40.out.mono ?_; rintro e0 w' ⟨rfl, hw'⟩; rw [hw']; clear hw'))
                        go_roundw
                        case rel => exact ⟨j4 + 1, by omega, by go_num, hk4⟩
                        case measure => simp [intOf]; omega
                    | node rb ro ra rl rr =>
                        obtain ⟨hro, hrb, _, _⟩ := hr
                        subst hro
                        have C40r := hid (f40_any rb _ wr (wcell hrb).2.2.2.2.2.2.2.2.2.1)
                        clear hrb
                        simp only [BT.ptr, orLater] at hb
                        obtain ⟨_, d2, _, _, _, _, _, d10, d11, d12, _⟩ := wcell hb
                        have C38 := hid (f38_any pb _ wr d2)
                        have C33 := hid (f33_any pb _ wr d10)
                        have C34 := hid (f34_any pb _ wr d11)
                        have C40 := hid (f40_any pb _ wr d12)
                        clear hb d2 d10 d11 d12 hp
                        go_wp2_with (first | (go_at_call 38; refine C38.out.mono ?_; rintro e0 w' ⟨rfl, hw'⟩; rw [hw']; clear hw') | (go_at_call 33; refine C33.out.mono ?_; rintro e0 w' ⟨rfl, hw'⟩; rw [hw']; clear hw') | (go_at_call 34; refine C34.out.mono ?_; rintro e0 w' ⟨rfl, hw'⟩; rw [hw']; clear hw') | (go_at_call 39; refine (f39_any _ _ _).mono ?_; rintro e0 w' ⟨rfl, hw'⟩; rw [hw']; clear hw') | (go_at_call_of 40 (Value.pointer (some ⟨pb, 0, none⟩)); refine C40.out.mono ?_; rintro e0 w' ⟨rfl, hw'⟩; rw [hw']; clear hw') | (go_at_call_of 40 (Value.pointer (some ⟨rb, 0, none⟩)); refine C40r.out.mono ?_; rintro e0 w' ⟨rfl, hw'⟩; rw [hw']; clear hw'))
                        go_roundw
                        case rel => exact ⟨j4 + 1, by omega, by go_num, hk4⟩
                        case measure => simp [intOf]; omega
                  | node lb lo la ll lr =>
                    cases r with
                    | nil =>
                        obtain ⟨hlo, hlb, _, _⟩ := hl
                        subst hlo
                        have C40l := hid (f40_any lb _ wr (wcell hlb).2.2.2.2.2.2.2.2.2.1)
                        clear hlb
                        simp only [BT.ptr, orLater] at hb
                        obtain ⟨_, d2, _, _, _, _, _, d10, d11, d12, _⟩ := wcell hb
                        have C38 := hid (f38_any pb _ wr d2)
                        have C33 := hid (f33_any pb _ wr d10)
                        have C34 := hid (f34_any pb _ wr d11)
                        have C40 := hid (f40_any pb _ wr d12)
                        clear hb d2 d10 d11 d12 hp
                        go_wp2_with (first | (go_at_call 38; refine C38.out.mono ?_; rintro e0 w' ⟨rfl, hw'⟩; rw [hw']; clear hw') | (go_at_call 33; refine C33.out.mono ?_; rintro e0 w' ⟨rfl, hw'⟩; rw [hw']; clear hw') | (go_at_call 34; refine C34.out.mono ?_; rintro e0 w' ⟨rfl, hw'⟩; rw [hw']; clear hw') | (go_at_call 39; refine (f39_any _ _ _).mono ?_; rintro e0 w' ⟨rfl, hw'⟩; rw [hw']; clear hw') | (go_at_call_of 40 (Value.pointer (some ⟨pb, 0, none⟩)); refine C40.out.mono ?_; rintro e0 w' ⟨rfl, hw'⟩; rw [hw']; clear hw') | (go_at_call_of 40 (Value.pointer (some ⟨lb, 0, none⟩)); refine C40l.out.mono ?_; rintro e0 w' ⟨rfl, hw'⟩; rw [hw']; clear hw'))
                        go_roundw
                        case rel => exact ⟨j4 + 1, by omega, by go_num, hk4⟩
                        case measure => simp [intOf]; omega
                    | node rb ro ra rl rr =>
                        obtain ⟨hlo, hlb, _, _⟩ := hl
                        subst hlo
                        have C40l := hid (f40_any lb _ wr (wcell hlb).2.2.2.2.2.2.2.2.2.1)
                        clear hlb
                        obtain ⟨hro, hrb, _, _⟩ := hr
                        subst hro
                        have C40r := hid (f40_any rb _ wr (wcell hrb).2.2.2.2.2.2.2.2.2.1)
                        clear hrb
                        simp only [BT.ptr, orLater] at hb
                        obtain ⟨_, d2, _, _, _, _, _, d10, d11, d12, _⟩ := wcell hb
                        have C38 := hid (f38_any pb _ wr d2)
                        have C33 := hid (f33_any pb _ wr d10)
                        have C34 := hid (f34_any pb _ wr d11)
                        have C40 := hid (f40_any pb _ wr d12)
                        clear hb d2 d10 d11 d12 hp
                        go_wp2_with (first | (go_at_call 38; refine C38.out.mono ?_; rintro e0 w' ⟨rfl, hw'⟩; rw [hw']; clear hw') | (go_at_call 33; refine C33.out.mono ?_; rintro e0 w' ⟨rfl, hw'⟩; rw [hw']; clear hw') | (go_at_call 34; refine C34.out.mono ?_; rintro e0 w' ⟨rfl, hw'⟩; rw [hw']; clear hw') | (go_at_call 39; refine (f39_any _ _ _).mono ?_; rintro e0 w' ⟨rfl, hw'⟩; rw [hw']; clear hw') | (go_at_call_of 40 (Value.pointer (some ⟨pb, 0, none⟩)); refine C40.out.mono ?_; rintro e0 w' ⟨rfl, hw'⟩; rw [hw']; clear hw') | (go_at_call_of 40 (Value.pointer (some ⟨lb, 0, none⟩)); refine C40l.out.mono ?_; rintro e0 w' ⟨rfl, hw'⟩; rw [hw']; clear hw') | (go_at_call_of 40 (Value.pointer (some ⟨rb, 0, none⟩)); refine C40r.out.mono ?_; rintro e0 w' ⟨rfl, hw'⟩; rw [hw']; clear hw'))
                        go_roundw
                        case rel => exact ⟨j4 + 1, by omega, by go_num, hk4⟩
                        case measure => simp [intOf]; omega
                · have i4 : ¬ (j4 : Int) < (sizeT T : Int) := by omega
                  go_wp2_with fail
                  go_ret
                  exact ⟨rfl, up_trans HK5.out hk4.out⟩
end Go.Proofs.Qxb6614547a
