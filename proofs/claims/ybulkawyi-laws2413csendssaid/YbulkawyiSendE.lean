import Derived.Test.YbulkawyiSendD
import Derived.LaidEqlPtr
namespace Go.Proofs.Ybulkawyi
open Go.RowKit
attribute [local go_sem] run_store_float

theorem wrap_i32 (n : Int) (h : -2147483648 ≤ n) (h' : n ≤ 2147483647) :  IntKind.wrap .i32 n = n := by
  have e1 : ((2 : Int) ^ IntKind.i32.bits) = 4294967296 := by decide
  have e2 : ((2 : Int) ^ (IntKind.i32.bits - 1)) = 2147483648 := by decide
  have e3 : IntKind.i32.signed = true := rfl
  unfold IntKind.wrap
  rw [e1, e2, e3]
  simp only [Bool.true_and, decide_eq_true_eq]
  split <;> omega

theorem some40 : (Yba.prog.info? 40).isSome = true := by kernel_rfl
theorem some3 : (Yba.prog.info? 3).isSome = true := by kernel_rfl
theorem eql28 (wx : World) (a : Addr) : (binOp .eql 28 (.pointer (some a)) (.pointer (some a))).run Yba.prog wx = .ok (.bool true) wx := by
  obtain ⟨j, hj⟩ := Option.isSome_iff_exists.1 some40
  exact run_eql_ptr_same wx a Yba.underlying28 hj
theorem eql125 (wx : World) (a : Addr) : (binOp .eql 125 (.pointer (some a)) (.pointer (some a))).run Yba.prog wx = .ok (.bool true) wx := by
  obtain ⟨j, hj⟩ := Option.isSome_iff_exists.1 some3
  exact run_eql_ptr_same wx a Yba.underlying125 hj

set_option maxRecDepth 100000 in
set_option maxHeartbeats 2000000 in
theorem law_walk (b off len : Nat) (ad : Option Addr) (cap : Nat) (zs : List Int) (a1 a2 a3 a4 : Int) (w : World) (hlen : len ≤ 1024) (hz : len ≤ zs.length)
    (hc : ∀ i, i < len → ad = some ⟨b, off, none⟩ ∧ b < w.heap.size ∧ w.cell? ⟨b, off + i, none⟩ = some (.int .u8 (zs.getD i 0)) ∧ 0 ≤ zs.getD i 0)
    (w1 : 0 ≤ a1) (w1' : a1 ≤ 255) (w2 : -2147483648 ≤ a2) (w2' : a2 ≤ 2147483647) (w3 : -2147483648 ≤ a3) (w3' : a3 ≤ 2147483647) :
    Calls Yba.prog 6 #[.slice ad len cap, .int .u8 a1, .int .i32 a2, .int .i32 a3, .int .u64 a4] w fun e w' => e = .returned (.bool true) ∧ Below w.heap.size w w' := by
  obtain ⟨i63, hi63, hz63, hs63, hb63⟩ := info_parts info63
  obtain ⟨i3, hi3, hz3, hs3, hb3⟩ := info_parts info3
  obtain ⟨i33, hi33, hz33, hs33, hb33⟩ := info_parts info33
  have hdl : decide ((1024 : Int) < (len : Int)) = false := by simp; omega
  have hW : w.heap.size < w.heap.size + 1 := by omega
  go_enter Yba.func6, Yba.ntmps6
  go_wp2_with (at_make; refine wpList_make_full _ rfl (.tmp 33) (.tmp 33) 84 rfl w.heap.size 63 i63 _ 1 Yba.underlying84 hi63 hz63 hs63 _ _ _ _ (len + 1) rfl rfl (by omega) (by omega) (by rw [hb63]; omega) (by unfold maxLen; omega) (Nat.le_refl _) ?_; intro wa howna hga)
  have S0 : ∃ xs, wa.ownsRow w.heap.size 63 1 (.slice (some ⟨w.heap.size, 0, none⟩) (len + 1) (len + 1)) (len + 1) xs ∧ AdjTo zs (len + 1) 0 xs ∧ Below w.heap.size w wa ∧ w.heap.size < wa.heap.size := by
    refine ⟨_, howna, ?_, (Below.refl _ w).grown hga (Nat.le_refl _) (by simp), ?_⟩
    · have e : (madeCells (Value.slice none 0 0).cells ((len + 1) * 1)).toList = List.replicate (len + 1) (.slice none 0 0) := by rw [Nat.mul_one]; exact toList_madeCells_one _ _
      rw [e]
      exact AdjTo.start zs (len + 1)
    · exact (howna.lt _ rfl).2
  clear howna hga
  go_loopw [13] (fun i wr => ∃ k : Nat, k ≤ len ∧ i = .int .i64 k ∧ ∃ xs, wr.ownsRow w.heap.size 63 1 (.slice (some ⟨w.heap.size, 0, none⟩) (len + 1) (len + 1)) (len + 1) xs ∧ AdjTo zs (len + 1) k xs ∧ Below w.heap.size w wr ∧ w.heap.size < wr.heap.size)
    (fun i _ => len - (intOf i).toNat)
  case atStart =>
    exact ⟨0, Nat.zero_le _, rfl, S0⟩
  case round =>
    obtain ⟨k, hk, rfl, xs, hown, hadj, hbel, hsz⟩ := hrel
    by_cases hlt : k < len
    · obtain ⟨rfl, hbk, hck, hz0⟩ := hc k hlt
      have hck' : wr.cell? ⟨b, off + k, none⟩ = some (.int .u8 (zs.getD k 0)) := (hbel.cell (p := ⟨b, off + k, none⟩) hbk).trans hck
      generalize hzk : zs.getD k 0 = z at *
      have Hzk : Hid (zs.getD k 0 = z) := hzk
      clear hzk
      have hm1 : 0 ≤ z % 8 := by omega
      have hm2 : z % 8 < 8 := by omega
      go_wp2_with (at_make; refine wpList_make_full _ rfl (.tmp 47) (.tmp 47) 63 rfl wr.heap.size 3 i3 _ 1 Yba.underlying63 hi3 hz3 hs3 _ _ _ _ (z % 8).toNat rfl rfl (by omega) (by omega) (by rw [hb3]; omega) (by unfold maxLen; omega) (Nat.le_refl _) ?_; intro w0 hown0 hg0)
      have S1 : ∃ ys, w0.ownsRow wr.heap.size 3 1 (.slice (some ⟨wr.heap.size, 0, none⟩) (z % 8).toNat (z % 8).toNat) (z % 8).toNat ys ∧ Below wr.heap.size w0 w0 := ⟨_, hown0, Below.refl _ _⟩
      clear hown0
      generalize wr = wo at *
      go_loopw [16] (fun j wq => ∃ m : Nat, (m : Int) ≤ z % 8 ∧ j = .int .i64 m ∧ ∃ ys, wq.ownsRow wo.heap.size 3 1 (.slice (some ⟨wo.heap.size, 0, none⟩) (z % 8).toNat (z % 8).toNat) (z % 8).toNat ys ∧ Below wo.heap.size w0 wq)
        (fun j _ => (z % 8).toNat - (intOf j).toNat)
      case atStart => exact ⟨0, by omega, rfl, S1⟩
      case round =>
        obtain ⟨m, hm, rfl, ys, hwo, hwb⟩ := hrel
        by_cases hml : (m : Int) < z % 8
        · have hmn : (m : Int) < ((z % 8).toNat : Int) := by omega
          have hyl := hwo.1
          have hcm : wr.cell? ⟨wo.heap.size, m, none⟩ = some (ys[m]'(by omega)) := by rw [hwo.cellAt m (by omega)]; simp
          have hfm : wr.frozen? ⟨wo.heap.size, m, none⟩ = false := hwo.frozenAt m
          have hst := fun u => (hwo.stored m u).1
          go_wp2
          go_roundw
          case rel => exact ⟨m + 1, by omega, by go_num, _, hst _, hwb.setCell (Nat.le_refl _) _⟩
          case measure => simp [intOf]; omega
        · have R := adj_round hown hbel hsz hg0 rfl hwb
          have hcA : wr.cell? ⟨w.heap.size, k, none⟩ = some (.slice none 0 0) := by rw [R.1.cellAt k (by omega)]; exact hadj.2.2 k (Nat.le_refl _) (by omega)
          have hfA : wr.frozen? ⟨w.heap.size, k, none⟩ = false := R.1.frozenAt k
          have hst := (R.1.stored k (.slice (some ⟨wo.heap.size, 0, none⟩) (z % 8).toNat (z % 8).toNat)).1
          have hk2 : (k : Int) < ((len + 1 : Nat) : Int) := by omega
          go_wp2
          go_roundw
          case rel => exact ⟨k + 1, by omega, by go_num, _, hst, by have := hadj.step (by omega) wo.heap.size; rw [Hzk.out] at this; exact this, R.2.1.setCell (Nat.le_refl _) _, by simpa using R.2.2⟩
          case measure => simp [intOf]; omega
    · have hkl : k = len := by omega
      subst hkl
      clear hlt hk hc
      obtain ⟨f, hf⟩ : ∃ f : Nat, a1 % ((k : Int) + 1) = (f : Int) := ⟨(a1 % ((k : Int) + 1)).toNat, by rw [Int.toNat_of_nonneg (Int.emod_nonneg _ (by omega))]⟩
      have hfk : f < k + 1 := by have := Int.emod_lt_of_pos a1 (show (0 : Int) < (k : Int) + 1 by omega); omega
      generalize wr = wo at *
      go_wp2_with (at_make; refine wpList_make_full _ rfl (.tmp 67) (.tmp 67) 60 rfl wo.heap.size 33 i33 _ 1 Yba.underlying60 hi33 hz33 hs33 _ _ _ _ (k + 1) rfl rfl (by omega) (by omega) (by rw [hb33]; omega) (by unfold maxLen; omega) (Nat.le_refl _) ?_; intro w0 hown0 hg0)
      have S1 : ∃ ss, w0.ownsRow wo.heap.size 33 1 (.slice (some ⟨wo.heap.size, 0, none⟩) (k + 1) (k + 1)) (k + 1) ss ∧ (∀ j, j < 0 → ss[j]? = some (.float .f64 13830554455654793216)) ∧ Below wo.heap.size w0 w0 := ⟨_, hown0, fun j hj => by omega, Below.refl _ _⟩
      clear hown0
      go_loopw [18] (fun j wq => ∃ m : Nat, m ≤ k + 1 ∧ j = .int .i64 m ∧ ∃ ss, wq.ownsRow wo.heap.size 33 1 (.slice (some ⟨wo.heap.size, 0, none⟩) (k + 1) (k + 1)) (k + 1) ss ∧ (∀ j, j < m → ss[j]? = some (.float .f64 13830554455654793216)) ∧ Below wo.heap.size w0 wq)
        (fun j _ => k + 1 - (intOf j).toNat)
      case atStart => exact ⟨0, by omega, rfl, S1⟩
      case round =>
        obtain ⟨m, hm, rfl, ss, hso, hsm, hsb⟩ := hrel
        by_cases hml : m < k + 1
        · have hyl := hso.1
          have hcm : wr.cell? ⟨wo.heap.size, m, none⟩ = some (ss[m]'(by omega)) := by rw [hso.cellAt m (by omega)]; simp
          have hfm : wr.frozen? ⟨wo.heap.size, m, none⟩ = false := hso.frozenAt m
          have hst := (hso.stored m (.float .f64 13830554455654793216)).1
          have hmn : (m : Int) < ((k + 1 : Nat) : Int) := by omega
          have hsm' : ∀ j, j < m + 1 → (ss.set m (.float .f64 13830554455654793216))[j]? = some (.float .f64 13830554455654793216) := by
            intro j hj
            by_cases e : j = m
            · subst e; rw [List.getElem?_set_self (by omega)]
            · rw [List.getElem?_set_ne (by omega)]; exact hsm j (by omega)
          have HS := (show Hid _ from hsm')
          clear hsm hsm'
          go_wp2
          go_roundw
          case rel => exact ⟨m + 1, by omega, by go_num, _, hst, HS.out, hsb.setCell (Nat.le_refl _) _⟩
          case measure => simp [intOf]; omega
        · have hmk : m = k + 1 := by omega
          subst hmk
          have R := adj_round hown hbel hsz hg0 rfl hsb
          have hS := (hso.lt _ rfl).2
          have hWS : w.heap.size < wo.heap.size := hsz
          clear hg0 hsb hbel hown hsz
          obtain ⟨r, hr, hrr⟩ := add_ints a2 a3 (by omega) (by omega)
          have hadd : ∀ w, (binOp .add 33 (.float .f64 (floatOfInt .f64 a2)) (.float .f64 (floatOfInt .f64 a3))).run Yba.prog w = .ok (.float .f64 r) w := fun w => run_float_arith w .add 33 .f64 _ _ r hr
          have hxf := hsm f hfk
          have hxf' : wr.cell? ⟨wo.heap.size, f, none⟩ = some (.float .f64 13830554455654793216) := by rw [hso.cellAt f (by omega)]; exact hxf
          rcases adj_pick hadj hfk with ⟨rb, d, hd, hpf⟩ | ⟨ra, rc, hpf⟩
          · have ha : wr.cell? ⟨w.heap.size, f, none⟩ = some (.slice (some ⟨rb, 0, none⟩) d d) := by rw [R.1.cellAt f (by omega)]; exact hpf
            have HB := bc_has w wr a4 (floatOfInt .f64 a2) (floatOfInt .f64 a3) w.heap.size wo.heap.size (k + 1) f d r 13830554455654793216 rb hfk hd hr R.2.2 hS (by have := hWS; omega) (Nat.le_refl _) (by have := hWS; omega) R.2.1 ha hxf' (hso.frozenAt f)
            have HB' : Hid _ := HB
            clear HB
            go_wp2_with fail
            refine Calls.mono (Hid.out HB') ?_
            rintro e w4 ⟨rfl, hseen, n19, n21, n22, g, gc, n20, hev⟩
            have m1 := hseen.sent
            have m2 : w4.cell? ⟨w.heap.size, f, none⟩ = some (.slice (some ⟨rb, 0, none⟩) d d) := (hseen.adj f).trans ha
            have m3 := hseen.mark
            have hdd : (0 : Int) < (d : Int) := by omega
            have hfz : (f : Int) < ((k + 1 : Nat) : Int) := by omega
            have hS4 : ∀ j, j ≠ f → j < k + 1 → w4.cell? ⟨wo.heap.size, j, none⟩ = some (.float .f64 13830554455654793216) := fun j hj hk => by rw [hseen.rest j hj, hso.cellAt j (by omega)]; exact hsm j hk
            have v0 : w4.cell? ⟨g, 0, none⟩ = some (.float .f64 r) := hev 0 (by omega)
            have v1 : w4.cell? ⟨g, 1, none⟩ = some (.int .u64 1) := hev 1 (by omega)
            have v2 : w4.cell? ⟨g, 2, none⟩ = some (.float .f64 (floatOfInt .f64 a2)) := hev 2 (by omega)
            have v3 : w4.cell? ⟨g, 3, none⟩ = some (.slice (some ⟨rb, 0, none⟩) d d) := hev 3 (by omega)
            have v4 : w4.cell? ⟨g, 4, none⟩ = some (.pointer (some ⟨wr.heap.size + 1, 0, none⟩)) := hev 4 (by omega)
            have hwf : IntKind.wrap .i32 (f : Int) = (f : Int) := wrap_i32 _ (by omega) (by omega)
            have v5 : w4.cell? ⟨g, 5, none⟩ = some (.int .i32 (f : Int)) := by rw [← hwf]; exact hev 5 (by omega)
            have v6 : w4.cell? ⟨g, 6, none⟩ = some (.bool false) := hev 6 (by omega)
            have hb4 := hseen.below
            have hA4 : w.heap.size < w4.heap.size := by
              rcases Nat.lt_or_ge w.heap.size w4.heap.size with h | h
              · exact h
              · rw [World.cell?, Array.getElem?_eq_none h] at m2; cases m2
            have HS4 : Hid (∀ j, j ≠ f → j < k + 1 → w4.cell? ⟨wo.heap.size, j, none⟩ = some (.float .f64 13830554455654793216)) := hS4
            clear HB' hS4 hev hseen hso hsm hS R ha hpf hadj hxf hxf' hr
            have hm1 : FloatKind.f64.format.order 13830554455654793216 13830554455654793216 = some .eq := by kernel_rfl
            have hp1 := eql28
            have hp2 := eql125
            have hoo : FloatKind.f64.format.order (floatOfInt .f64 a2) (floatOfInt .f64 a2) = some .eq := order_refl_nearest _ _ _
            go_wp2
            go_loop [25] (fun i => ∃ m : Nat, m ≤ k + 1 ∧ i = .int .i64 m) (fun i => k + 1 - (intOf i).toNat)
            case atStart => exact ⟨0, by omega, rfl⟩
            case round =>
              obtain ⟨m, hm, rfl⟩ := hrel
              by_cases hml : m < k + 1
              · have hmi : (m : Int) < ((k + 1 : Nat) : Int) := by omega
                by_cases hmf : m = f
                · subst hmf
                  go_wp2
                  go_round
                  case rel => exact ⟨m + 1, by omega, by go_num⟩
                  case measure => simp [intOf]; omega
                · have hmf' : ((m : Int) == (f : Int)) = false := by rw [beq_eq_false_iff_ne]; omega
                  have hcm := HS4.out m hmf hml
                  go_wp2
                  go_round
                  case rel => exact ⟨m + 1, by omega, by go_num⟩
                  case measure => simp [intOf]; omega
              · go_wp2
                go_quiet (fail)
                go_wp2
                go_ret
                exact ⟨rfl, bdrew (hb4.alloc (by omega) _) _⟩
          · have ha : wr.cell? ⟨w.heap.size, f, none⟩ = some (.slice ra 0 rc) := by rw [R.1.cellAt f (by omega)]; exact hpf
            have HB := bc_none w wr a4 (floatOfInt .f64 a2) (floatOfInt .f64 a3) w.heap.size wo.heap.size (k + 1) f (.float .f64 13830554455654793216) ra rc hfk R.2.2 hS (Nat.le_refl _) R.2.1 ha hxf'
            have HB' : Hid _ := HB
            clear HB
            go_wp2_with fail
            refine Calls.mono (Hid.out HB') ?_
            rintro e w4 ⟨rfl, hseen, n19, n20, n22⟩
            have m1 := hseen.sent
            have m2 : w4.cell? ⟨w.heap.size, f, none⟩ = some (.slice ra 0 rc) := (hseen.adj f).trans ha
            have hfz : (f : Int) < ((k + 1 : Nat) : Int) := by omega
            have hS4 : ∀ j, j < k + 1 → w4.cell? ⟨wo.heap.size, j, none⟩ = some (.float .f64 13830554455654793216) := fun j hk => by
              by_cases hj : j = f
              · subst hj; exact hseen.mark
              · rw [hseen.rest j hj, hso.cellAt j (by omega)]; exact hsm j hk
            have hb4 := hseen.below
            have HS4 : Hid (∀ j, j < k + 1 → w4.cell? ⟨wo.heap.size, j, none⟩ = some (.float .f64 13830554455654793216)) := hS4
            clear HB' hS4 hseen hso hsm hS R ha hpf hadj hxf hxf' hr
            have hm1 : FloatKind.f64.format.order 13830554455654793216 13830554455654793216 = some .eq := by kernel_rfl
            go_wp2
            go_loop [25] (fun i => ∃ m : Nat, m ≤ k + 1 ∧ i = .int .i64 m) (fun i => k + 1 - (intOf i).toNat)
            case atStart => exact ⟨0, by omega, rfl⟩
            case round =>
              obtain ⟨m, hm, rfl⟩ := hrel
              by_cases hml : m < k + 1
              · have hmi : (m : Int) < ((k + 1 : Nat) : Int) := by omega
                have hcm := HS4.out m hml
                by_cases hmf : m = f
                · subst hmf
                  go_wp2
                  go_round
                  case rel => exact ⟨m + 1, by omega, by go_num⟩
                  case measure => simp [intOf]; omega
                · have hmf' : ((m : Int) == (f : Int)) = false := by rw [beq_eq_false_iff_ne]; omega
                  go_wp2
                  go_round
                  case rel => exact ⟨m + 1, by omega, by go_num⟩
                  case measure => simp [intOf]; omega
              · go_wp2
                go_ret
                exact ⟨rfl, hb4⟩
end Go.Proofs.Ybulkawyi
