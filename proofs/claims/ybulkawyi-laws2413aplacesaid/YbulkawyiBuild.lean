import Derived.Test.YbulkawyiBuildA
namespace Go.Proofs.Ybulkawyi
open Go.RowKit
set_option linter.unusedVariables false
attribute [local go_sem] run_store_float

/-- One entry in memory. -/
structure EntAt (w : World) (b o : Nat) (id p : Int) (st : Bool) (h s n : Int) : Prop where
  c0 : w.cell? ⟨b, o, none⟩ = some (.int .u8 id)
  c1 : w.cell? ⟨b, o + 1, none⟩ = some (.int .i8 p)
  c2 : w.cell? ⟨b, o + 2, none⟩ = some (.bool st)
  c3 : w.cell? ⟨b, o + 3, none⟩ = some (.int .u8 h)
  c4 : w.cell? ⟨b, o + 4, none⟩ = some (.int .u8 s)
  c5 : w.cell? ⟨b, o + 5, none⟩ = some (.int .u8 n)
  r : (0 ≤ id ∧ id ≤ 255) ∧ (-128 ≤ p ∧ p ≤ 127) ∧ (0 ≤ h ∧ h ≤ 255) ∧ (0 ≤ s ∧ s ≤ 255) ∧ (0 ≤ n ∧ n ≤ 255)

def entNb (id p : Int) (st : Bool) (h s n : Int) : Nb := ⟨id % 8, rk p, st, h % 4, s % 8, n⟩
theorem entNb_ok (id p : Int) (st : Bool) (h s n : Int) : (entNb id p st h s n).Ok := by
  have r1 := rk_range p
  exact ⟨by show 0 ≤ id % 8; omega, by show id % 8 ≤ 7; omega, r1.1, r1.2, by show -3 ≤ h % 4; omega, by show h % 4 ≤ 3; omega⟩

theorem Grows.below {w wr w2 : World} {a : Option Addr} {n c : Nat} {L : List Nb} (h : Grows w wr a n c L) (hb : Below wr.heap.size wr w2) : Grows w w2 a n c L :=
  ⟨h.good, h.len, own_any h.own (fun g hg => hb.block g (World.ownsRow.lt h.own g hg).2), h.bel.trans (hb.mono h.bel.size), h.nil⟩
theorem Grows.base {w wz : World} {a : Option Addr} {n c : Nat} {L : List Nb} (h : Grows w wz a n c L) (o1 : Obj) {B : Nat} (hB : B < wz.heap.size) :
    ∃ base, base ≤ (wz.alloc o1).heap.size ∧ w.heap.size ≤ base ∧ (n = 0 → B < base) ∧ (wz.alloc o1).ownsRow base 48 6 (.slice a n c) n (flat L) := by
  have hs : (wz.alloc o1).heap.size = wz.heap.size + 1 := by simp
  have ho := own_any h.own (fun g hg => Below.heap_alloc wz o1 g (World.ownsRow.lt h.own g hg).2)
  have hb := h.bel.size
  by_cases hn : n = 0
  · refine ⟨wz.heap.size + 1, by omega, by omega, fun _ => by omega, ho.1, .inl ?_⟩
    rcases ho.2 with h2 | ⟨g', cap', cur, e1, _⟩
    · exact h2
    · have := h.nil hn
      subst this
      cases e1
  · exact ⟨w.heap.size, by omega, Nat.le_refl _, fun e => absurd e hn, ho⟩
theorem two_block (wr : World) (o1 o2 : Obj) (q : Nat) : (((wr.alloc o1).alloc o2).drewN q).heap[wr.heap.size + 1]? = some o2 := by
  show ((wr.heap.push o1).push o2)[wr.heap.size + 1]? = _
  rw [show wr.heap.size + 1 = (wr.heap.push o1).size from by simp]
  exact Array.getElem?_push_size
theorem Grows.two {w wr : World} {a : Option Addr} {n c : Nat} {L : List Nb} (h : Grows w wr a n c L) (o1 o2 : Obj) (q : Nat) : Grows w (((wr.alloc o1).alloc o2).drewN q) a n c L :=
  h.below (bdrew (((Below.refl _ wr).alloc (Nat.le_refl _) o1).alloc (by simp) o2) q)

set_option maxRecDepth 100000 in
set_option maxHeartbeats 4000000 in
theorem build_calls (b off len cap : Nat) (ad : Option Addr) (w : World) (hlen : len ≤ 1024)
    (hes : ∀ k, k < len → ad = some ⟨b, off, none⟩ ∧ b < w.heap.size ∧ ∃ id p st h s n, EntAt w b (off + k * 6) id p st h s n) :
    Calls Yba.prog 7 #[.slice ad len cap] w fun e w' => ∃ L a c, e = .returned (.slice a L.length c) ∧ Grows w w' a L.length c L := by
  have HES : Hid _ := hes
  clear hes
  go_enter Yba.func7, Yba.ntmps7
  go_wp2
  go_loopw [3, 12] (fun l i wr => ∃ k n c : Nat, k ≤ len ∧ i = .int .i64 k ∧ ∃ L a, l = .slice a n c ∧ Grows w wr a n c L) (fun _ i _ => len - (intOf i).toNat)
  case atStart => exact ⟨0, 0, 0, by omega, rfl, [], none, rfl, ⟨by simp, List.Pairwise.nil, List.Pairwise.nil, by simp⟩, rfl, ⟨rfl, .inl ⟨rfl, rfl⟩⟩, Below.refl _ _, fun _ => rfl⟩
  case round =>
    obtain ⟨k, n, c, hk, rfl, L, a, rfl, hG⟩ := hrel
    have hn6 : n ≤ 6 := by rw [← hG.len]; exact hG.good.len
    by_cases hkl : k < len
    · have hkl' : (k : Int) < (len : Int) := by omega
      obtain ⟨rfl, hbl, id, p, st, h, s, nm, hE⟩ := HES.out k hkl
      have hc : ∀ o', wr.cell? ⟨b, o', none⟩ = w.cell? ⟨b, o', none⟩ := fun o' => hG.bel.cell (p := ⟨b, o', none⟩) hbl
      have hblr : b < wr.heap.size := Nat.lt_of_lt_of_le hbl hG.bel.size
      have c0 := (hc _).trans hE.c0
      have c1 := (hc _).trans hE.c1
      have c2 := (hc _).trans hE.c2
      have c3 := (hc _).trans hE.c3
      have c4 := (hc _).trans hE.c4
      have c5 := (hc _).trans hE.c5
      have hr := hE.r
      clear hc hE
      by_cases h6 : n = 6
      · have h6' : ((n : Int) == 6) = true := by subst h6; rfl
        have HR : Hid (∀ o1, Grows w (wr.alloc o1) a L.length c L) := by
          intro o1
          refine ⟨hG.good, rfl, ?_, hG.bel.alloc hG.bel.size o1, fun h => hG.nil (by rw [← hG.len]; exact h)⟩
          rw [hG.len]
          exact own_any hG.own (fun g hg => Below.heap_alloc wr o1 g (World.ownsRow.lt hG.own g hg).2)
        have HL : Hid (L.length = n) := hG.len
        clear hG
        go_wp2
        go_ret
        exact ⟨L, a, c, by rw [HL.out, h6]; rfl, HR.out _⟩
      · have h6' : ((n : Int) == 6) = false := by rw [beq_eq_false_iff_ne]; omega
        have HC : Hid _ := fun w => apri_calls p hr.2.1.1 hr.2.1.2 w
        obtain ⟨o, ho⟩ : ∃ o, o = entNb id p st h s nm := ⟨_, rfl⟩
        have hok : o.Ok := by rw [ho]; exact entNb_ok id p st h s nm
        obtain ⟨B, hB⟩ : ∃ B, B = wr.heap.size + 1 := ⟨_, rfl⟩
        have HNB : Hid (∀ g, (Value.slice a n c).ownBlock = some g → g < B) := by
          intro g hg
          have := (World.ownsRow.lt hG.own g hg).2
          omega
        have HNIL : Hid (n = 0 → a = none) := hG.nil
        have HO : Hid _ := ho
        have HB : Hid _ := hB
        have HGR : Hid _ := hG
        clear ho hB hG
        go_upto_region 6 with (fail)
        go_cut [6] (fun s6 wx => s6 = .pointer (some ⟨B, 0, none⟩) ∧ Grows w wx a n c L ∧ B < wx.heap.size ∧ wx.heap[B]? = some (.cells #[.int .u64 o.id, .float .f64 (pb o.pr), .bool o.st, .int .i64 o.hops, .int .u64 o.seq, .int .u64 o.named] 48 (0, 0)))
        case first =>
          as_aux_lemma =>
            have k0 : (wr.alloc (.cells #[.int .u8 id, .int .i8 p, .bool st, .int .u8 h, .int .u8 s, .int .u8 nm] 128)).cell? ⟨wr.heap.size, 0, none⟩ = some (.int .u8 id) := by rw [World.cell?_alloc_new]; rfl
            have k1 : (wr.alloc (.cells #[.int .u8 id, .int .i8 p, .bool st, .int .u8 h, .int .u8 s, .int .u8 nm] 128)).cell? ⟨wr.heap.size, 1, none⟩ = some (.int .i8 p) := by rw [World.cell?_alloc_new]; rfl
            have k2 : (wr.alloc (.cells #[.int .u8 id, .int .i8 p, .bool st, .int .u8 h, .int .u8 s, .int .u8 nm] 128)).cell? ⟨wr.heap.size, 2, none⟩ = some (.bool st) := by rw [World.cell?_alloc_new]; rfl
            have k3 : (wr.alloc (.cells #[.int .u8 id, .int .i8 p, .bool st, .int .u8 h, .int .u8 s, .int .u8 nm] 128)).cell? ⟨wr.heap.size, 3, none⟩ = some (.int .u8 h) := by rw [World.cell?_alloc_new]; rfl
            have k4 : (wr.alloc (.cells #[.int .u8 id, .int .i8 p, .bool st, .int .u8 h, .int .u8 s, .int .u8 nm] 128)).cell? ⟨wr.heap.size, 4, none⟩ = some (.int .u8 s) := by rw [World.cell?_alloc_new]; rfl
            have k5 : (wr.alloc (.cells #[.int .u8 id, .int .i8 p, .bool st, .int .u8 h, .int .u8 s, .int .u8 nm] 128)).cell? ⟨wr.heap.size, 5, none⟩ = some (.int .u8 nm) := by rw [World.cell?_alloc_new]; rfl
            refine wp_mono (build_r6 (wr.alloc (.cells #[.int .u8 id, .int .i8 p, .bool st, .int .u8 h, .int .u8 s, .int .u8 nm] 128)) wr.heap.size id p st h s nm hr (by simp) k0 k1 k2 k3 k4 k5 _ _ _ _ _ _ _ _ _ _ _ _ _ _ _ _ _ _ _ _ _ _ _ _ _ _ _ _ _ _ _ _ _ _ _ _ _ _ _ _ _ _ _ _ _ _ _ _ _ _ _ _ _ _ _ _ _ _ _ _ _ _ _ _ _ _ _ _ _ _ _ _ _ _ _ _ _ _ _ _ _ _ _ _ _ _ _ _ _) ?_
            rintro e a' w' ⟨rfl, ⟨q, rfl⟩, v19, v20, v21, v22, v23, v24, v25, v26, v27, v28, v29, v30, v31, v32, v33, v34, v35, v36, v37, v38, v39, v40, rfl⟩
            clear k0 k1 k2 k3 k4 k5
            go_wp2
            go_meet
            case rel =>
              have e1 : o.id = id % 8 := by rw [HO.out]; rfl
              have e2 : o.pr = rk p := by rw [HO.out]; rfl
              have e3 : o.st = st := by rw [HO.out]; rfl
              have e4 : o.hops = h % 4 := by rw [HO.out]; rfl
              have e5 : o.seq = s % 8 := by rw [HO.out]; rfl
              have e6 : o.named = nm := by rw [HO.out]; rfl
              rw [e1, e2, e3, e4, e5, e6, HB.out]
              exact ⟨by simp, Grows.two HGR.out _ _ q, by simp, two_block _ _ _ q⟩
        case rest =>
          obtain ⟨rfl, hGx, hBx, hBo⟩ := hcut
          generalize wc = wx at *
          have hcB : ∀ wz, Below wx.heap.size wx wz → wz.cell? ⟨B, 0, none⟩ = some (.int .u64 o.id) ∧ wz.cell? ⟨B, 1, none⟩ = some (.float .f64 (pb o.pr)) ∧ wz.cell? ⟨B, 2, none⟩ = some (.bool o.st) ∧ wz.cell? ⟨B, 3, none⟩ = some (.int .i64 o.hops) ∧ wz.cell? ⟨B, 4, none⟩ = some (.int .u64 o.seq) ∧ wz.cell? ⟨B, 5, none⟩ = some (.int .u64 o.named) := by
            intro wz hbz
            have hbl := (hbz.block B hBx).trans hBo
            refine ⟨?_, ?_, ?_, ?_, ?_, ?_⟩ <;> simp [World.cell?, hbl]
          have HOB : Hid _ := hcB
          have hel : ∀ k b wz, Below wx.heap.size wx wz → L[k]? = some b → ∃ g, a = some ⟨g, 0, none⟩ ∧ g < wz.heap.size ∧ k < n ∧ b.Ok ∧ ∀ j, j < 6 → wz.cell? ⟨g, k * 6 + j, none⟩ = b.cells[j]? := by
            intro k b wz hbz hb
            obtain ⟨g, e1, e2, e3, e4⟩ := own_elem hGx.own hGx.len hb
            exact ⟨g, e1, Nat.lt_of_lt_of_le e2 hbz.size, e3, hGx.good.ok b (List.mem_of_getElem? hb), fun j hj => (hbz.cell (p := ⟨g, k * 6 + j, none⟩) e2).trans (e4 j hj)⟩
          have HEL : Hid _ := hel
          have HGX : Hid _ := hGx
          have HBO : Hid _ := hBo
          have HLEN : Hid (L.length = n) := hGx.len
          clear hcB hel hGx hBo HO HB HGR c0 c1 c2 c3 c4 c5 hr HC
          generalize wr = wo at *
          go_upto_block 2 with (fail)
          go_cut [7] (fun s7 wy => ∃ d : Bool, s7 = .bool d ∧ (d = false → ∀ y, y < n → ∀ b, L[y]? = some b → b.id ≠ o.id) ∧ Below wx.heap.size wx wy)
          case first =>
            as_aux_lemma =>
              go_wp2
              go_loopw [7, 43] (fun d i wr => ∃ (x : Nat) (t : Bool), x ≤ n ∧ i = .int .i64 x ∧ d = .bool t ∧ (t = false → ∀ y, y < x → ∀ b, L[y]? = some b → b.id ≠ o.id) ∧ Below wx.heap.size wx wr) (fun _ i _ => n - (intOf i).toNat)
              case atStart => exact ⟨0, false, by omega, rfl, rfl, fun _ y hy => by omega, Below.refl _ _⟩
              case round =>
                obtain ⟨x, t, hx, rfl, rfl, ht, hbr⟩ := hrel
                by_cases hxn : x < n
                · have hxn' : (x : Int) < (n : Int) := by omega
                  have hxl : x < L.length := by rw [HLEN.out]; exact hxn
                  obtain ⟨b, hLb⟩ : ∃ b, L[x]? = some b := ⟨_, List.getElem?_eq_getElem hxl⟩
                  obtain ⟨g, rfl, hgl, _, hbo, hcells⟩ := HEL.out x b wr hbr hLb
                  have c0 : wr.cell? ⟨g, x * 6, none⟩ = some (.int .u64 b.id) := hcells 0 (by omega)
                  have q0 := (HOB.out wr hbr).1
                  have HT : Hid _ := ht
                  have HLB : Hid _ := hLb
                  clear hcells hLb ht
                  by_cases hid : b.id = o.id
                  · have hid' : (b.id == o.id) = true := by simpa using hid
                    go_wp2
                    go_quiet (fail)
                    go_wp2
                    go_roundw
                    case rel => exact ⟨x + 1, true, by omega, by go_num, rfl, fun h => (by cases h), bdrew hbr _⟩
                    case measure => simp [intOf]; omega
                  · have hid' : (b.id == o.id) = false := by simpa using hid
                    go_wp2
                    go_quiet (fail)
                    go_wp2
                    go_roundw
                    case rel =>
                      refine ⟨x + 1, t, by omega, by go_num, rfl, fun h y hy b' hb' => ?_, bdrew hbr _⟩
                      by_cases hyx : y = x
                      · subst hyx
                        have := HLB.out.symm.trans hb'
                        cases this
                        exact hid
                      · exact HT.out h y (by omega) b' hb'
                    case measure => simp [intOf]; omega
                · have hxn' : x = n := by omega
                  subst hxn'
                  go_wp2
                  go_meet
                  case rel => exact ⟨t, rfl, ht, hbr⟩
          case rest =>
            obtain ⟨d, rfl, hd, hxy⟩ := hcut
            generalize wc = wy at *
            cases d with
            | true =>
              go_wp2
              go_roundw
              case rel => exact ⟨k + 1, n, c, by omega, by go_num, L, a, rfl, Grows.below HGX.out hxy⟩
              case measure => simp [intOf]; omega
            | false =>
              have HID : Hid (∀ b, b ∈ L → b.id ≠ o.id) := by
                intro b hb
                obtain ⟨y, hy⟩ := List.mem_iff_getElem?.1 hb
                have hyl : y < L.length := by
                  rcases Nat.lt_or_ge y L.length with h' | h'
                  · exact h'
                  · rw [List.getElem?_eq_none h'] at hy; cases hy
                exact hd rfl y (by rw [← HLEN.out]; exact hyl) b hy
              clear hd
              obtain ⟨P, hP⟩ : ∃ P, P = pos L o := ⟨_, rfl⟩
              have hPn : P ≤ n := by have := pos_le L o; rw [hP, ← HLEN.out]; exact this
              have HP : Hid _ := hP
              clear hP
              have hbf : ∀ (b : Nb) (r : Bool), b.Ok → (b.key < o.key ↔ r = true) → ∀ wz : World, Calls Yba.prog 10 #[.agg #[.int .u64 b.id, .float .f64 (pb b.pr), .bool b.st, .int .i64 b.hops, .int .u64 b.seq, .int .u64 b.named], .agg #[.int .u64 o.id, .float .f64 (pb o.pr), .bool o.st, .int .i64 o.hops, .int .u64 o.seq, .int .u64 o.named]] wz fun e w' => e = .returned (.bool r) ∧ Below wz.heap.size wz w' := by
                intro b r hbo hr wz
                have h := before_calls hbo hok wz
                unfold Nb.val at h
                have : decide (b.key < o.key) = r := by rw [Bool.eq_iff_iff, decide_eq_true_iff]; exact hr
                rw [this] at h
                exact h
              have HBF : Hid _ := hbf
              clear hbf
              go_upto_block 4 with (fail)
              go_cut [9] (fun s9 wz => s9 = .int .i64 P ∧ Below wx.heap.size wx wz)
              case first =>
                as_aux_lemma =>
                  go_wp2
                  go_loopw [9] (fun i wr => ∃ x : Nat, x ≤ P ∧ i = .int .i64 x ∧ Below wx.heap.size wx wr) (fun i _ => n - (intOf i).toNat)
                  case atStart => exact ⟨0, by omega, rfl, hxy⟩
                  case round =>
                    obtain ⟨x, hx, rfl, hbr⟩ := hrel
                    by_cases hxn : x < n
                    · have hxn' : (x : Int) < (n : Int) := by omega
                      have hxl : x < L.length := by rw [HLEN.out]; exact hxn
                      obtain ⟨b, hLb⟩ : ∃ b, L[x]? = some b := ⟨_, List.getElem?_eq_getElem hxl⟩
                      obtain ⟨g, rfl, hgl, _, hbo, hcells⟩ := HEL.out x b wr hbr hLb
                      have c0 : wr.cell? ⟨g, x * 6, none⟩ = some (.int .u64 b.id) := hcells 0 (by omega)
                      have c1 : wr.cell? ⟨g, x * 6 + 1, none⟩ = some (.float .f64 (pb b.pr)) := hcells 1 (by omega)
                      have c2 : wr.cell? ⟨g, x * 6 + 2, none⟩ = some (.bool b.st) := hcells 2 (by omega)
                      have c3 : wr.cell? ⟨g, x * 6 + 3, none⟩ = some (.int .i64 b.hops) := hcells 3 (by omega)
                      have c4 : wr.cell? ⟨g, x * 6 + 4, none⟩ = some (.int .u64 b.seq) := hcells 4 (by omega)
                      have c5 : wr.cell? ⟨g, x * 6 + 5, none⟩ = some (.int .u64 b.named) := hcells 5 (by omega)
                      obtain ⟨q0, q1, q2, q3, q4, q5⟩ := HOB.out wr hbr
                      have hBr : B < wr.heap.size := Nat.lt_of_lt_of_le hBx hbr.size
                      have HKEEP : Hid (∀ (q : Nat) (w2 : World), Below wr.heap.size (wr.drewN q) w2 → Hid (Below wx.heap.size wx w2) ∧ (w2.cell? ⟨g, x * 6, none⟩ = some (.int .u64 b.id) ∧ w2.cell? ⟨g, x * 6 + 1, none⟩ = some (.float .f64 (pb b.pr)) ∧ w2.cell? ⟨g, x * 6 + 2, none⟩ = some (.bool b.st) ∧ w2.cell? ⟨g, x * 6 + 3, none⟩ = some (.int .i64 b.hops) ∧ w2.cell? ⟨g, x * 6 + 4, none⟩ = some (.int .u64 b.seq) ∧ w2.cell? ⟨g, x * 6 + 5, none⟩ = some (.int .u64 b.named) ∧ w2.cell? ⟨B, 0, none⟩ = some (.int .u64 o.id) ∧ w2.cell? ⟨B, 1, none⟩ = some (.float .f64 (pb o.pr)) ∧ w2.cell? ⟨B, 2, none⟩ = some (.bool o.st) ∧ w2.cell? ⟨B, 3, none⟩ = some (.int .i64 o.hops) ∧ w2.cell? ⟨B, 4, none⟩ = some (.int .u64 o.seq) ∧ w2.cell? ⟨B, 5, none⟩ = some (.int .u64 o.named))) := by
                        intro q w2 hb2
                        have k2 : ∀ b' o', b' < wr.heap.size → w2.cell? ⟨b', o', none⟩ = wr.cell? ⟨b', o', none⟩ := fun b' o' h => hb2.cell (p := ⟨b', o', none⟩) h
                        exact ⟨(bdrew hbr q).trans (hb2.mono hbr.size), (k2 _ _ hgl).trans c0, (k2 _ _ hgl).trans c1, (k2 _ _ hgl).trans c2, (k2 _ _ hgl).trans c3, (k2 _ _ hgl).trans c4, (k2 _ _ hgl).trans c5, (k2 _ _ hBr).trans q0, (k2 _ _ hBr).trans q1, (k2 _ _ hBr).trans q2, (k2 _ _ hBr).trans q3, (k2 _ _ hBr).trans q4, (k2 _ _ hBr).trans q5⟩
                      by_cases hxP : x < P
                      · have hcall := fun wz => HBF.out b true hbo (by simp; exact pos_before (L := L) (k := x) (by rw [← HP.out]; exact hxP) hLb) wz
                        have HC : Hid _ := hcall
                        clear hcall hLb hcells hbo
                        go_wp2
                        go_region_held3 (fun w' => w'.cell? ⟨g, x * 6, none⟩ = some (.int .u64 b.id) ∧ w'.cell? ⟨g, x * 6 + 1, none⟩ = some (.float .f64 (pb b.pr)) ∧ w'.cell? ⟨g, x * 6 + 2, none⟩ = some (.bool b.st) ∧ w'.cell? ⟨g, x * 6 + 3, none⟩ = some (.int .i64 b.hops) ∧ w'.cell? ⟨g, x * 6 + 4, none⟩ = some (.int .u64 b.seq) ∧ w'.cell? ⟨g, x * 6 + 5, none⟩ = some (.int .u64 b.named) ∧ w'.cell? ⟨B, 0, none⟩ = some (.int .u64 o.id) ∧ w'.cell? ⟨B, 1, none⟩ = some (.float .f64 (pb o.pr)) ∧ w'.cell? ⟨B, 2, none⟩ = some (.bool o.st) ∧ w'.cell? ⟨B, 3, none⟩ = some (.int .i64 o.hops) ∧ w'.cell? ⟨B, 4, none⟩ = some (.int .u64 o.seq) ∧ w'.cell? ⟨B, 5, none⟩ = some (.int .u64 o.named))
                          (first | exact ⟨c0, c1, c2, c3, c4, c5, q0, q1, q2, q3, q4, q5⟩ | assumption) ((go_at_call 10; refine Calls.mono (HC.out _) ?_; rintro e w2 ⟨rfl, hb2⟩; have hS2 := HKEEP.out 1 w2 hb2; clear hb2; have HB3 := hS2.1; have hS3 := hS2.2; clear hS2))
                        go_wp2
                        go_roundw
                        case rel => exact ⟨x + 1, by omega, by go_num, HB3.out⟩
                        case measure => simp [intOf]; omega
                      · have hxP' : x = P := by omega
                        subst hxP'
                        have hcall := fun wz => HBF.out b false hbo (by simp; exact Int.not_lt.1 (pos_at (L := L) (o := o) (by rw [← HP.out]; exact hLb))) wz
                        have HC : Hid _ := hcall
                        clear hcall hLb hcells hbo
                        go_wp2
                        go_region_held3 (fun w' => w'.cell? ⟨g, x * 6, none⟩ = some (.int .u64 b.id) ∧ w'.cell? ⟨g, x * 6 + 1, none⟩ = some (.float .f64 (pb b.pr)) ∧ w'.cell? ⟨g, x * 6 + 2, none⟩ = some (.bool b.st) ∧ w'.cell? ⟨g, x * 6 + 3, none⟩ = some (.int .i64 b.hops) ∧ w'.cell? ⟨g, x * 6 + 4, none⟩ = some (.int .u64 b.seq) ∧ w'.cell? ⟨g, x * 6 + 5, none⟩ = some (.int .u64 b.named) ∧ w'.cell? ⟨B, 0, none⟩ = some (.int .u64 o.id) ∧ w'.cell? ⟨B, 1, none⟩ = some (.float .f64 (pb o.pr)) ∧ w'.cell? ⟨B, 2, none⟩ = some (.bool o.st) ∧ w'.cell? ⟨B, 3, none⟩ = some (.int .i64 o.hops) ∧ w'.cell? ⟨B, 4, none⟩ = some (.int .u64 o.seq) ∧ w'.cell? ⟨B, 5, none⟩ = some (.int .u64 o.named))
                          (first | exact ⟨c0, c1, c2, c3, c4, c5, q0, q1, q2, q3, q4, q5⟩ | assumption) ((go_at_call 10; refine Calls.mono (HC.out _) ?_; rintro e w2 ⟨rfl, hb2⟩; have hS2 := HKEEP.out 1 w2 hb2; clear hb2; have HB3 := hS2.1; have hS3 := hS2.2; clear hS2))
                        go_wp2
                        go_meet
                        case rel => exact ⟨rfl, HB3.out⟩
                    · have hxn' : x = n := by omega
                      have hPx : P = x := by omega
                      subst hxn'
                      have hd : decide ((x : Int) < (x : Int)) = false := by simp
                      go_wp2
                      go_quiet (fail)
                      go_wp2
                      go_meet
                      case rel => exact ⟨by rw [hPx], bdrew hbr _⟩
              case rest =>
                obtain ⟨rfl, hxz⟩ := hcut
                generalize wc = wz at *
                have hGz := Grows.below HGX.out hxz
                have hBz : B < wz.heap.size := Nat.lt_of_lt_of_le hBx hxz.size
                have HBz : Hid _ := (hxz.block B hBx).trans HBO.out
                obtain ⟨i0, hi, hz0, hz1, hz2⟩ := info_parts info48
                obtain ⟨base, hb1, hb2, hb3, hown1⟩ := hGz.base (.cells #[.int .u64 0, .float .f64 0, .bool false, .int .i64 0, .int .u64 0, .int .u64 0] 48) hBz
                have hlw := hGz.bel.size
                have HGZ : Hid _ := hGz
                have hc1 : ∀ j u, zeros6[j]? = some u → (wz.alloc (.cells #[.int .u64 0, .float .f64 0, .bool false, .int .i64 0, .int .u64 0, .int .u64 0] 48)).cell? ((⟨wz.heap.size, 0, none⟩ : Addr).add j) = some u := by
                  intro j u hj
                  rw [Go.WideShapes.add_plain, Nat.zero_add]
                  exact (World.cell?_alloc_at _ _ _ _ rfl).trans (by simpa [zeros6] using hj)
                clear hGz
                go_wp2_with (at_builtin; refine wpList_append_own _ rfl (.tmp 72) (.tmp 74) 26 rfl base 48 i0 _ 6 48 Yba.underlying26 hi hz0 hz1 hz2 rfl (by decide) _ n (flat L) rfl hown1 ⟨wz.heap.size, 0, none⟩ 1 1 zeros6 rfl rfl hc1 zeros6_one (by unfold maxLen; omega) (by omega) hb1 ?_; intro v' w1 hown' hgrow _)
                have hgrow' : (wz.alloc (.cells #[.int .u64 0, .float .f64 0, .bool false, .int .i64 0, .int .u64 0, .int .u64 0] 48)).grownBy w1 (Value.slice a n c).ownBlock := hgrow
                clear hgrow
                have hs1 : (wz.alloc (.cells #[.int .u64 0, .float .f64 0, .bool false, .int .i64 0, .int .u64 0, .int .u64 0] 48)).heap.size = wz.heap.size + 1 := by simp
                obtain ⟨g, cp, cur, rfl, hbg, hrow, hle, hcm, hsz, htk⟩ : ∃ g cp cur, v' = .slice (some ⟨g, 0, none⟩) (n + 1) cp ∧ base ≤ g ∧ w1.heap[g]? = some (.cells cur 48 (0, 0)) ∧ n + 1 ≤ cp ∧ cp ≤ maxLen ∧ cur.size = cp * 6 ∧ cur.toList.take ((n + 1) * 6) = flat L ++ zeros6 := by
                  rcases hown'.2 with ⟨_, h0⟩ | ⟨g, cp, cur, e1, e2, e3, e4, e5, e6, e7⟩
                  · omega
                  · exact ⟨g, cp, cur, e1, e2, e3, e4, e5, e6, e7⟩
                have hBw1 := (hgrow'.block B (by omega) (by intro e; have := HNB.out B e.symm; omega)).trans ((Below.heap_alloc wz _ B hBz).trans HBz.out)
                have hBg : B ≠ g := by
                  intro e
                  rw [← e, hBw1] at hrow
                  cases hrow
                  simp at hsz
                  have := hb3 (by omega)
                  omega
                have hB1 : Below w.heap.size w w1 := by
                  have hbz := HGZ.out.bel
                  refine ⟨hgrow'.os.trans hbz.os, hgrow'.tape.trans hbz.tape, hgrow'.output.trans hbz.output, by have := hgrow'.size; omega, fun k hk => ?_⟩
                  rw [hgrow'.block k (by omega) (by intro e; have := (World.ownsRow.lt HGZ.out.own k e.symm).1; omega), Below.heap_alloc wz _ k (by omega)]
                  exact hbz.block k hk
                have hxl : (flat L).length = n * 6 := by rw [flat_length, HLEN.out]
                have hyl : ((flat L).drop (P * 6)).length = (n - P) * 6 := by rw [List.length_drop, hxl]; omega
                have hy1 : ∀ u ∈ (flat L).drop (P * 6), u.oneCell' = true := fun u hu => flat_one L u (List.mem_of_mem_drop hu)
                have HY : Hid (∀ j u, ((flat L).drop (P * 6))[j]? = some u → w1.cell? ((⟨g, P * 6, none⟩ : Addr).add j) = some u) := by
                  intro j u hj
                  have hj' : P * 6 + j < n * 6 := by
                    rcases Nat.lt_or_ge (P * 6 + j) (n * 6) with h | h
                    · exact h
                    · rw [List.getElem?_drop, List.getElem?_eq_none (by omega)] at hj; cases hj
                  rw [Go.WideShapes.add_plain, hown'.cellAt _ (by omega), List.getElem?_append_left (by omega)]
                  rw [List.getElem?_drop] at hj
                  exact hj
                have hBl1 : B < w1.heap.size := (Array.getElem?_eq_some_iff.1 hBw1).1
                have hgl1 : g < w1.heap.size := (Array.getElem?_eq_some_iff.1 hrow).1
                have HFIN : Hid (∀ (w3 : World) (o' : Nat), (P < n → o' = (P + 1) * 6) → o' ≤ cur.size → Hid (w3.heap[g]? = some (.cells (cur.toList.take o' ++ (flat L).drop (P * 6) ++ cur.toList.drop (o' + ((flat L).drop (P * 6)).length)).toArray 48 (0, 0))) → w1.grownBy w3 (some g) →
                    Hid (∀ q, Grows w (set6 (w3.drewN q) g (P * 6) (.int .u64 o.id) (.float .f64 (pb o.pr)) (.bool o.st) (.int .i64 o.hops) (.int .u64 o.seq) (.int .u64 o.named)) (some ⟨g, 0, none⟩) (n + 1) cp (ins L o)) ∧ w3.cell? ⟨B, 0, none⟩ = some (.int .u64 o.id) ∧ w3.cell? ⟨B, 1, none⟩ = some (.float .f64 (pb o.pr)) ∧ w3.cell? ⟨B, 2, none⟩ = some (.bool o.st) ∧ w3.cell? ⟨B, 3, none⟩ = some (.int .i64 o.hops) ∧ w3.cell? ⟨B, 4, none⟩ = some (.int .u64 o.seq) ∧ w3.cell? ⟨B, 5, none⟩ = some (.int .u64 o.named) ∧ (∃ v, w3.cell? ⟨g, P * 6, none⟩ = some v) ∧ (∃ v, w3.cell? ⟨g, P * 6 + 1, none⟩ = some v) ∧ (∃ v, w3.cell? ⟨g, P * 6 + 2, none⟩ = some v) ∧ (∃ v, w3.cell? ⟨g, P * 6 + 3, none⟩ = some v) ∧ (∃ v, w3.cell? ⟨g, P * 6 + 4, none⟩ = some v) ∧ (∃ v, w3.cell? ⟨g, P * 6 + 5, none⟩ = some v) ∧ ∀ o', w3.frozen? ⟨g, o', none⟩ = false) := by
                  intro w3 o' ho' ho2 hrow3 hgr3
                  exact ins_fin HGZ.out.good hok HID.out HLEN.out (by omega) HP.out hPn hB1 (by omega) hle hcm hsz htk hBg hBl1 hBw1 ho' ho2 hrow3.out hgr3
                obtain ⟨i1, hi1⟩ : ∃ i1 : Nat, i1 = P + 1 := ⟨_, rfl⟩
                have hwi : IntKind.wrap .i64 ((P : Int) + 1) = (i1 : Int) := by rw [wrap_i64 _ (by omega) (by omega)]; omega
                have hb3' : (i1 : Int) ≤ (n : Int) + 1 := by omega
                have hb5' : (P : Int) ≤ (n : Int) + 1 := by omega
                have hb6' : ¬ cp = P := by omega
                have HM : Hid (n - P = Nat.min (n + 1 - P) (n + 1 - i1)) := by show n - P = min _ _; omega
                have HROW : Hid _ := hrow
                have HI1 : Hid _ := hi1
                have HSZ : Hid _ := hsz
                by_cases hcp : cp = i1
                · have HF : Hid (0 + ((flat L).drop (P * 6)).length ≤ cur.size) := by show _ ≤ _; omega
                  have HPN : Hid (P = n) := by show _ = _; omega
                  subst hcp
                  clear hrow htk hsz hcm hle hown' hi1 hBw1
                  go_region_held3 (fun _ => True) (trivial) ((refine step_copied rfl (.tmp 79) (.tmp 82) 26 26 rfl 48 i0 6 (n - P) Yba.underlying26 hi hz1 g 0 0 (n + 1 - cp) _ ⟨g, P * 6, none⟩ (n + 1 - P) _ rfl rfl rfl cur 48 (by exact HROW.out) ((flat L).drop (P * 6)) HM.out hyl (by exact HY.out) HF.out hy1 ?_; intro w3 hrow3 hgr3))
                  obtain ⟨HG3, q0, q1, q2, q3, q4, q5, ⟨z0, z0'⟩, ⟨z1, z1'⟩, ⟨z2, z2'⟩, ⟨z3, z3'⟩, ⟨z4, z4'⟩, ⟨z5, z5'⟩, fz⟩ := HFIN.out w3 0 (fun h => by have := HPN.out; omega) (by omega) hrow3 ⟨hgr3.os, hgr3.tape, hgr3.output, hgr3.size, hgr3.block⟩
                  clear hgr3 hrow3
                  go_wp2
                  go_roundw
                  case rel => exact ⟨k + 1, n + 1, cp, by omega, by go_num, ins L o, _, rfl, HG3.out 0⟩
                  case measure => simp [intOf]; omega
                · have HF : Hid (i1 * 6 + ((flat L).drop (P * 6)).length ≤ cur.size) := by show _ ≤ _; omega
                  clear hrow htk hsz hcm hle hown' hi1 hBw1
                  go_region_held3 (fun _ => True) (trivial) ((refine step_copied rfl (.tmp 79) (.tmp 82) 26 26 rfl 48 i0 6 (n - P) Yba.underlying26 hi hz1 g (i1 * 6) (i1 * 6) (n + 1 - i1) _ ⟨g, P * 6, none⟩ (n + 1 - P) _ rfl rfl rfl cur 48 (by exact HROW.out) ((flat L).drop (P * 6)) HM.out hyl (by exact HY.out) HF.out hy1 ?_; intro w3 hrow3 hgr3))
                  obtain ⟨HG3, q0, q1, q2, q3, q4, q5, ⟨z0, z0'⟩, ⟨z1, z1'⟩, ⟨z2, z2'⟩, ⟨z3, z3'⟩, ⟨z4, z4'⟩, ⟨z5, z5'⟩, fz⟩ := HFIN.out w3 (i1 * 6) (fun _ => by rw [HI1.out]) (by have := HF.out; omega) hrow3 ⟨hgr3.os, hgr3.tape, hgr3.output, hgr3.size, hgr3.block⟩
                  clear hgr3 hrow3
                  go_wp2
                  go_roundw
                  case rel => exact ⟨k + 1, n + 1, cp, by omega, by go_num, ins L o, _, rfl, HG3.out 0⟩
                  case measure => simp [intOf]; omega
    · go_wp2
      go_ret
      exact ⟨L, a, c, by rw [hG.len]; rfl, by rw [hG.len]; exact hG⟩
end Go.Proofs.Ybulkawyi
