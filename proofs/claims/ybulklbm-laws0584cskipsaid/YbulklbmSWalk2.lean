/- LawS0584CSkip, LawS0584CIdem: zzs0584cbuild (15), skipSpace (16). -/
import Derived.Test.YbulklbmSWalk1
namespace Go.Proofs.Ybulklbm.Skip
open Go.RowKit
set_option linter.unusedVariables false

set_option maxHeartbeats 1000000 in
theorem build_any (x : Option Addr) (b off n cap : Nat) (z : Nat → Int) (start line col : Int) (w : World) (hn : n ≤ 4096) (hx : 0 < n → x = some ⟨b, off, none⟩ ∧ b < w.heap.size)
    (hz : ∀ j, j < n → w.cell? ⟨b, off + j, none⟩ = some (.int .u8 (z j))) (hzb : ∀ j, j < n → 0 ≤ z j ∧ z j ≤ 255) (hst : 0 ≤ start ∧ start ≤ 65535) :
    Calls Yba.prog 15 #[.slice x n cap, .int .u16 start, .int .i32 line, .int .i32 col] w
      fun e w' => ∃ (S g : Nat) (R : Nat → Int) (i0 : Nat), e = .returned (.tuple #[.pointer (some ⟨S, 0, none⟩), .int .i64 i0]) ∧ i0 ≤ n ∧ Hid (Sc w w' S g n R i0 line col w') := by
  obtain ⟨st1, st2⟩ := hst
  have hmk := fun wx => run_make_row' (P := Yba.prog) 47 21 (.int .i32 0) 4 Yba.underlying47 info21 rfl .i64 .i64 n (by omega) (by omega) wx
  have hpos : (0 : Int) < (n : Int) + 1 := by omega
  obtain ⟨i0, hi0⟩ : ∃ i0 : Nat, start % ((n : Int) + 1) = i0 := ⟨(start % ((n : Int) + 1)).toNat, by have := Int.emod_nonneg start (show (n : Int) + 1 ≠ 0 by omega); omega⟩
  have hi0n : i0 ≤ n := by have := Int.emod_lt_of_pos start hpos; omega
  have HX : Hid (0 < n → x = some ⟨b, off, none⟩ ∧ b < w.heap.size) := hx
  have HZ : Hid (∀ j, j < n → w.cell? ⟨b, off + j, none⟩ = some (.int .u8 (z j))) := hz
  have HZb : Hid (∀ j, j < n → 0 ≤ z j ∧ z j ≤ 255) := hzb
  clear hx hz hzb
  go_enter Yba.func15, Yba.ntmps15
  go_wp2
  go_loopw [19] (fun k wr => ∃ (j : Nat) (R : Nat → Int), j ≤ n ∧ k = .int .i64 j ∧ wr.rowIs w.heap.size 21 n (fun t => .int .i32 (R t)) ∧ Below w.heap.size w wr) (fun k _ => n - (intOf k).toNat)
  case atStart => exact ⟨0, fun _ => 0, Nat.zero_le _, rfl, World.rowIs_made w _ n 21, (Below.refl _ _).alloc (Nat.le_refl _) _⟩
  case round =>
    clear hmk
    obtain ⟨j, R, hj, rfl, hrow, hbel⟩ := hrel
    by_cases hlt : j < n
    · obtain ⟨rfl, hb⟩ := HX.out (by omega)
      have hc : wr.cell? ⟨b, off + j, none⟩ = some (.int .u8 (z j)) := (hbel.cell hb).trans (HZ.out j hlt)
      have hd := hrow.cell hlt
      have hf := hrow.frozen j
      have hji : (j : Int) < (n : Int) := by omega
      have HR : Hid (wr.rowIs w.heap.size 21 n (fun t => .int .i32 (R t))) := hrow
      have HB : Hid (Below w.heap.size w wr) := hbel
      clear hrow hbel
      go_wp2_with fail
      refine Calls.mono (pick_any (z j) (HZb.out j hlt) _) ?_
      rintro e w' ⟨r, rfl, hw⟩
      rw [hw]
      clear hw
      go_wp2
      go_roundw
      case rel =>
        refine ⟨j + 1, fun t => if t = j then r else R t, by omega, by go_num, ?_, HB.out.setCell (Nat.le_refl _) _⟩
        exact (World.rowIs.set HR.out j (.int .i32 r)).congr (fun t _ => by split <;> simp_all)
      case measure => simp [intOf]; omega
    · have hsz := hbel.size
      have hgl := hrow.lt
      have HR : Hid (wr.rowIs w.heap.size 21 n (fun t => .int .i32 (R t))) := hrow
      have HB : Hid (Below w.heap.size w wr) := hbel
      clear hrow hbel
      go_wp2
      go_ret2
      refine ⟨wr.heap.size, w.heap.size, R, i0, by simp [hi0], hi0n, ?_⟩
      have hc : ∀ t, (wr.alloc (.cells #[.slice (some ⟨w.heap.size, 0, none⟩) n n, .int .i64 i0, .int .i32 line, .int .i32 col] 51)).cell? ⟨wr.heap.size, t, none⟩ = (#[.slice (some ⟨w.heap.size, 0, none⟩) n n, .int .i64 i0, .int .i32 line, .int .i32 col] : Array Value)[t]? := fun t => World.cell?_alloc_at _ _ _ _ rfl
      exact ⟨hc 0, hc 1, hc 2, hc 3, fun t => World.frozen?_alloc_at _ _ _ _ rfl, fun t ht => ((World.cell?_alloc_past _ _ _ hgl).trans (World.rowIs.cell HR.out ht)), by omega, hsz, HB.out.alloc hsz _, fun _ _ _ hv => hv⟩

/-- the scanner's place, off the world -/
def posOf (S : Nat) (w : World) : Nat := (intOf ((w.cell? ⟨S, 1, none⟩).getD (.int .i64 0))).toNat
theorem posOf_eq {w0 wb : World} {S g n : Nat} {R : Nat → Int} {i : Nat} {l c : Int} {wr : World} (h : Sc w0 wb S g n R i l c wr) : posOf S wr = i := by
  unfold posOf
  rw [h.c1]
  simp [intOf]

set_option maxHeartbeats 2000000 in
theorem skip_any (w0 wb : World) (S g n : Nat) (R : Nat → Int) (i0 : Nat) (l0 c0 : Int) (w : World) (hn : n ≤ 4096) (hi : i0 ≤ n) (h : Sc w0 wb S g n R i0 l0 c0 w) :
    Calls Yba.prog 16 #[.pointer (some ⟨S, 0, none⟩)] w fun e w' => e = .returned (.tuple #[]) ∧ Hid (Sc w0 wb S g n R (rs R n false i0 l0 c0).1 (rs R n false i0 l0 c0).2.1 (rs R n false i0 l0 c0).2.2 w') := by
  obtain ⟨T, hT⟩ : ∃ T, T = rs R n false i0 l0 c0 := ⟨_, rfl⟩
  rw [← hT]
  have HT : Hid (T = rs R n false i0 l0 c0) := hT
  have H : Hid (Sc w0 wb S g n R i0 l0 c0 w) := h
  clear hT h
  go_enter Yba.func16, Yba.ntmps16
  go_wp2
  go_loopw [2] (fun _ wr => ∃ (i : Nat) (l c : Int), i ≤ n ∧ rs R n false i l c = T ∧ Sc w0 wb S g n R i l c wr) (fun _ wr => n - posOf S wr)
  case atStart => exact ⟨i0, l0, c0, hi, HT.out.symm, H.out⟩
  case round =>
    clear HT H
    obtain ⟨i, l, c, hin, hT, hSc⟩ := hrel
    have HP := (show Hid _ from peek_any w0 wb S g n R i l c wr hn hin hSc)
    have HPos : Hid (posOf S wr = i) := posOf_eq hSc
    have HT : Hid (rs R n false i l c = T) := hT
    clear hT hSc
    by_cases hlt : i < n
    · have hpk : pk R n i = R i := if_pos hlt
      rw [hpk] at HP
      clear hpk
      obtain ⟨r, hr⟩ : ∃ r, r = R i := ⟨_, rfl⟩
      rw [← hr] at HP
      have HRi : Hid (r = R i) := hr
      clear hr
      by_cases h37 : r = 37
      · have e37 : (r == 37) = true := by simpa using h37
        have HI : Hid (rs R n true i l c = T) := by
          show rs R n true i l c = T
          rw [← HT.out, rs_pct hlt (by rw [← HRi.out]; exact h37)]
        have HR37 : Hid (R i = 37) := by
          show R i = 37
          rw [← HRi.out]; exact h37
        clear h37 HRi
        go_wp2_with fail
        refine Calls.mono HP.out ?_
        rintro e w1 ⟨rfl, HS1⟩
        clear HP
        go_wp2_with fail
        go_loopw [17] (fun _ wi => ∃ (j : Nat) (l' c' : Int), i ≤ j ∧ j ≤ n ∧ rs R n true j l' c' = T ∧ Sc w0 wb S g n R j l' c' wi) (fun _ wi => n - posOf S wi)
        case atStart => exact ⟨i, l, c, Nat.le_refl _, hin, HI.out, HS1.out⟩
        case round =>
          clear HI HS1
          obtain ⟨j, l', c', hij, hjn, hT', hSc'⟩ := hrel
          have HP := (show Hid _ from peek_any w0 wb S g n R j l' c' _ hn hjn hSc')
          have HPj : Hid (posOf S _ = j) := posOf_eq hSc'
          have HTj : Hid (rs R n true j l' c' = T) := hT'
          clear hT' hSc'
          by_cases hjl : j < n
          · have hpk : pk R n j = R j := if_pos hjl
            rw [hpk] at HP
            clear hpk
            obtain ⟨q, hq⟩ : ∃ q, q = R j := ⟨_, rfl⟩
            rw [← hq] at HP
            have HQ : Hid (q = R j) := hq
            clear hq
            by_cases hstop : 0 ≤ q ∧ q ≠ 10
            · obtain ⟨hq0, hq10⟩ := hstop
              have e10 : (q == 10) = false := by simpa using hq10
              go_wp2_with fail
              refine Calls.mono HP.out ?_
              rintro e w2 ⟨rfl, HS2⟩
              have HP2 := (show Hid _ from peek_any w0 wb S g n R j l' c' _ hn hjn HS2.out)
              rw [show pk R n j = q by rw [HQ.out]; exact if_pos hjl] at HP2
              clear HP
              go_wp2_with fail
              refine Calls.mono HP2.out ?_
              rintro e w3 ⟨rfl, HS3⟩
              clear HP2 HS2
              go_wp2_with fail
              refine Calls.mono (advance_any w0 wb S g n R j l' c' w3 hn hjl HS3.out) ?_
              rintro e w4 ⟨rfl, HS4⟩
              go_wp2
              refine ⟨⟨j + 1, _, _, by omega, by omega, ?_, HS4.out⟩, ?_⟩
              · rw [← HTj.out, rs_in hjl (by rw [← HQ.out]; exact hq0) (by rw [← HQ.out]; exact hq10)]
              · rw [posOf_eq HS4.out, HPj.out]; omega
            · have hout : R j < 0 ∨ R j = 10 := by rw [← HQ.out]; omega
              have HF : Hid (rs R n false j l' c' = T) := by
                show rs R n false j l' c' = T
                rw [← HTj.out, rs_out hjl hout]
              have hne : i ≠ j := fun h => by subst h; have := HR37.out; omega
              clear hout
              by_cases hq0 : 0 ≤ q
              · have e10 : (q == 10) = true := by simp; omega
                clear hstop
                go_wp2_with fail
                refine Calls.mono HP.out ?_
                rintro e w2 ⟨rfl, HS2⟩
                have HP2 := (show Hid _ from peek_any w0 wb S g n R j l' c' _ hn hjn HS2.out)
                rw [show pk R n j = q by rw [HQ.out]; exact if_pos hjl] at HP2
                clear HP
                go_wp2_with fail
                refine Calls.mono HP2.out ?_
                rintro e w3 ⟨rfl, HS3⟩
                clear HP2 HS2
                go_wp2
                refine ⟨⟨j, l', c', hjn, HF.out, HS3.out⟩, ?_⟩
                rw [posOf_eq HS3.out, HPos.out]; omega
              · have hq0' : decide (0 ≤ q) = false := by simpa using hq0
                clear hstop
                go_wp2_with fail
                refine Calls.mono HP.out ?_
                rintro e w2 ⟨rfl, HS2⟩
                clear HP
                go_wp2
                refine ⟨⟨j, l', c', hjn, HF.out, HS2.out⟩, ?_⟩
                rw [posOf_eq HS2.out, HPos.out]; omega
          · have hpk : pk R n j = -1 := if_neg hjl
            rw [hpk] at HP
            have HF : Hid (rs R n false j l' c' = T) := by
              show rs R n false j l' c' = T
              rw [← HTj.out, rs_end (by omega), rs_end (by omega)]
            clear hpk
            go_wp2_with fail
            refine Calls.mono HP.out ?_
            rintro e w2 ⟨rfl, HS2⟩
            clear HP
            go_wp2
            refine ⟨⟨j, l', c', hjn, HF.out, HS2.out⟩, ?_⟩
            rw [posOf_eq HS2.out, HPos.out]; omega
      · have e37 : (r == 37) = false := by simpa using h37
        by_cases hsp : isSp r = true
        · have hr0 : 0 ≤ r := by simp [isSp] at hsp; omega
          go_wp2_with fail
          refine Calls.mono HP.out ?_
          rintro e w1 ⟨rfl, HS1⟩
          clear HP
          go_wp2_with fail
          refine Calls.mono (space_any r _) ?_
          rintro e w2 ⟨rfl, hw2⟩
          rw [hw2]
          clear hw2
          go_wp2_with fail
          refine Calls.mono (advance_any w0 wb S g n R i l c w1 hn hlt HS1.out) ?_
          rintro e w3 ⟨rfl, HS3⟩
          go_wp2
          refine ⟨⟨i + 1, _, _, by omega, ?_, HS3.out⟩, ?_⟩
          · rw [← HT.out, rs_sp hlt (by rw [← HRi.out]; exact h37) (by rw [← HRi.out]; exact hsp)]
          · rw [posOf_eq HS3.out, HPos.out]; omega
        · have hsp' : isSp r = false := by simpa using hsp
          have HE : Hid (T = (i, l, c)) := by
            show T = _
            rw [← HT.out, rs_stop hlt (by rw [← HRi.out]; exact h37) (by rw [← HRi.out]; exact hsp')]
          clear hsp
          by_cases hr0 : 0 ≤ r
          · go_wp2_with fail
            refine Calls.mono HP.out ?_
            rintro e w1 ⟨rfl, HS1⟩
            clear HP
            go_wp2_with fail
            refine Calls.mono (space_any r _) ?_
            rintro e w2 ⟨rfl, hw2⟩
            rw [hw2]
            clear hw2
            go_wp2
            refine bodyPost_ret (results_none rfl _ _ _) rfl ⟨rfl, ?_⟩
            rw [HE.out]
            exact HS1
          · have hr0' : decide (0 ≤ r) = false := by simpa using hr0
            go_wp2_with fail
            refine Calls.mono HP.out ?_
            rintro e w1 ⟨rfl, HS1⟩
            clear HP
            go_wp2
            refine bodyPost_ret (results_none rfl _ _ _) rfl ⟨rfl, ?_⟩
            rw [HE.out]
            exact HS1
    · have hpk : pk R n i = -1 := if_neg hlt
      rw [hpk] at HP
      have HE : Hid (T = (i, l, c)) := by
        show T = _
        rw [← HT.out, rs_end (by omega)]
      clear hpk
      go_wp2_with fail
      refine Calls.mono HP.out ?_
      rintro e w1 ⟨rfl, HS1⟩
      clear HP
      go_wp2
      refine bodyPost_ret (results_none rfl _ _ _) rfl ⟨rfl, ?_⟩
      rw [HE.out]
      exact HS1

end Go.Proofs.Ybulklbm.Skip
