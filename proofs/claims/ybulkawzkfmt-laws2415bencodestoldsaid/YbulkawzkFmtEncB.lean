import Derived.Test.YbulkawzkFmtEncA
namespace Go.Proofs.YbulkawzkFmt
open Go.RowKit Go.Extern.Stop Go.Stop Go.Extern
set_option linter.unusedVariables false

/-- A vote: the cells, and the signature's bytes. -/
abbrev Vt := Sg × List Value
def encV (V : List Vt) : List Value := V.flatMap fun p => be64 (IntKind.u64.wrap p.1.who) ++ p.2
/-- The votes' row and all signatures, out of the buffer's way. -/
structure Votes (B : Nat) (r : Option Nat) (w : World) (a : Option Addr) (n : Nat) (V : List Vt) : Prop where
  row : RowS w a n (V.map Prod.fst)
  len : V.length = n
  away : ∀ g, a = some ⟨g, 0, none⟩ → 0 < n → g < B ∧ some g ≠ r
  sig : ∀ p ∈ V, p.1.len = 64 ∧ SrcK B r w (.slice p.1.ad 64 p.1.cap) 64 p.2
theorem Votes.kept {B : Nat} {r : Option Nat} {w w' : World} {a : Option Addr} {n : Nat} {V : List Vt} (h : Votes B r w a n V) (hk : Kept B r w w') : Votes B r w' a n V := by
  refine ⟨fun k e he => ?_, h.len, h.away, fun p hp => ⟨(h.sig p hp).1, (h.sig p hp).2.kept hk⟩⟩
  obtain ⟨g, e1, e2, e3, e4, e5⟩ := h.row k e he
  have := h.away g e1 (by omega)
  exact ⟨g, e1, Nat.lt_of_lt_of_le e2 hk.size, e3, (hk.cell (p := ⟨g, k * 2, none⟩) this.1 this.2).trans e4, (hk.cell (p := ⟨g, k * 2 + 1, none⟩) this.1 this.2).trans e5⟩
theorem Votes.at {B : Nat} {r : Option Nat} {w : World} {a : Option Addr} {n : Nat} {V : List Vt} (h : Votes B r w a n V) {k : Nat} (hk : k < n) :
    ∃ who ad cap bs g, V[k]? = some (⟨who, ad, 64, cap⟩, bs) ∧ a = some ⟨g, 0, none⟩ ∧ g < w.heap.size ∧ w.cell? ⟨g, k * 2, none⟩ = some (.int .i64 who) ∧ w.cell? ⟨g, k * 2 + 1, none⟩ = some (.slice ad 64 cap) ∧ SrcK B r w (.slice ad 64 cap) 64 bs := by
  obtain ⟨⟨⟨who, ad, len, cap⟩, bs⟩, hV⟩ : ∃ p, V[k]? = some p := ⟨_, List.getElem?_eq_getElem (by rw [h.len]; exact hk)⟩
  have hs := h.sig _ (List.mem_of_getElem? hV)
  have hl : len = 64 := hs.1
  subst hl
  obtain ⟨g, e1, e2, _, e4, e5⟩ := h.row k ⟨who, ad, 64, cap⟩ (by rw [List.getElem?_map, hV]; rfl)
  exact ⟨who, ad, cap, bs, g, hV, e1, e2, e4, e5, hs.2⟩
theorem encV_take {V : List Vt} {k : Nat} {p : Vt} (h : V[k]? = some p) : encV (V.take (k + 1)) = encV (V.take k) ++ (be64 (IntKind.u64.wrap p.1.who) ++ p.2) := by
  rw [List.take_add_one, h]
  simp [encV]

set_option maxRecDepth 100000 in
set_option maxHeartbeats 4000000 in
theorem sigs_calls (B : Nat) (r : Option Nat) (v : Value) (n : Nat) (xs : List Value) (a : Option Addr) (m cm : Nat) (V : List Vt) (w : World) (h : Buf B r w v n xs) (hB : B ≤ w.heap.size) (hn : n ≤ 20000) (hm : m ≤ 256) (hv : Votes B r w a m V) :
    Calls Ybaf.prog 13 #[v, .slice a m cm] w fun e w' => ∃ v', e = .returned v' ∧ Buf B r w' v' (n + 4 + m * 72) (xs ++ be32 m ++ encV V) ∧ Kept B r w w' := by
  obtain ⟨a0, c0, rfl⟩ := h.shape
  have HC : Hid _ := be32_calls B r _ n xs (m : Int) w (by omega) (by omega) h hB (by omega)
  have HV : Hid _ := hv
  clear h hv
  go_enter Ybaf.func13, Ybaf.ntmps13
  go_wp2_with fail
  refine Calls.mono (HC.out) ?_
  rintro e w2 ⟨v2, rfl, hb, hk⟩
  have HB : Hid _ := hb
  have HK : Hid _ := hk
  clear hb hk
  go_wp2
  go_loopw [0, 15] (fun b i wr => ∃ (k : Nat) (a1 : Option Addr) (c1 : Nat), k ≤ m ∧ i = .int .i64 k ∧ b = .slice a1 (n + 4 + k * 72) c1 ∧ Buf B r wr b (n + 4 + k * 72) (xs ++ be32 m ++ encV (V.take k)) ∧ Kept B r w wr) (fun _ i _ => m - (intOf i).toNat)
  case atStart =>
    obtain ⟨a1, c1, e⟩ := HB.out.shape
    exact ⟨0, a1, c1, by omega, rfl, e, by simpa [encV] using HB.out, HK.out⟩
  case round =>
    obtain ⟨k, a1, c1, hk, rfl, rfl, hbuf, hkept⟩ := hrel
    have hB' : B ≤ wr.heap.size := Nat.le_trans hB hkept.size
    by_cases hkm : k < m
    · have hkm' : (k : Int) < (m : Int) := by omega
      obtain ⟨who, ad, cap, bs, g, hVk, rfl, hgl, q0, q1, hsrc⟩ := (Votes.kept HV.out hkept).at hkm
      have hb1 : Below wr.heap.size wr (wr.alloc (.cells #[.int .i64 who, .slice ad 64 cap] 31)) := (Below.refl _ _).alloc (Nat.le_refl _) _
      have hka : Kept B r wr (wr.alloc (.cells #[.int .i64 who, .slice ad 64 cap] 31)) := Kept.of_below hb1 hB'
      have HC1 : Hid _ := one_calls B r _ _ _ who ad 64 cap bs (wr.alloc (.cells #[.int .i64 who, .slice ad 64 cap] 31)) (hbuf.below hb1) (Nat.le_trans hB' hb1.size) (by omega) (by omega) (hsrc.kept hka)
      have HKA : Hid _ := hkept.trans hka
      have HVK : Hid _ := hVk
      clear hb1 hka hsrc hVk hbuf hkept
      go_wp2_with (go_at_call 16; refine Calls.mono (HC1.out) ?_; rintro e w3 ⟨v3, rfl, hb3, hk3⟩)
      obtain ⟨a3, c3, rfl⟩ := hb3.shape
      go_roundw
      case rel =>
        refine ⟨k + 1, a3, c3, by omega, by go_num, ?_, ?_, HKA.out.trans hk3⟩
        · rw [show n + 4 + (k + 1) * 72 = n + 4 + k * 72 + 8 + 64 by omega]
        · rw [show n + 4 + (k + 1) * 72 = n + 4 + k * 72 + 8 + 64 by omega, encV_take HVK.out]
          simpa [List.append_assoc] using hb3
      case measure => simp [intOf]; omega
    · have hkm' : k = m := by omega
      subst hkm'
      have hd : decide ((k : Int) < (k : Int)) = false := by simp
      have HB2 : Hid _ := hbuf
      have HK2 : Hid _ := hkept
      clear hbuf hkept
      go_wp2
      go_ret
      refine ⟨_, rfl, ?_, HK2.out⟩
      have := HB2.out
      rw [← HV.out.len, List.take_length, HV.out.len] at this
      exact this
end Go.Proofs.YbulkawzkFmt
