import Derived.Test.YbulkawzkFmtBuf
import Derived.Lib.AppendZeros
namespace Go.Proofs.YbulkawzkFmt
open Go.RowKit Go.Extern.Stop Go.Stop Go.Extern
set_option linter.unusedVariables false

def be64 (x : Int) : List Value := [.int .u8 (x / 72057594037927936), .int .u8 (x / 281474976710656 % 256), .int .u8 (x / 1099511627776 % 256), .int .u8 (x / 4294967296 % 256), .int .u8 (x / 16777216 % 256), .int .u8 (x / 65536 % 256), .int .u8 (x / 256 % 256), .int .u8 (x % 256)]
def be32 (x : Int) : List Value := [.int .u8 (x / 16777216), .int .u8 (x / 65536 % 256), .int .u8 (x / 256 % 256), .int .u8 (x % 256)]
theorem be64_one (x : Int) : ∀ u ∈ be64 x, u.oneCell' = true := by
  intro u hu
  simp [be64] at hu
  rcases hu with rfl | rfl | rfl | rfl | rfl | rfl | rfl | rfl <;> rfl
theorem be32_one (x : Int) : ∀ u ∈ be32 x, u.oneCell' = true := by
  intro u hu
  simp [be32] at hu
  rcases hu with rfl | rfl | rfl | rfl <;> rfl
theorem src_new {w : World} {W : World} {l : List Value} (hW : W = w.alloc (.cells l.toArray 5)) (h1 : ∀ u ∈ l, u.oneCell' = true) (m : Nat) (hm : l.length = m) (g : Nat) (hg : g = w.heap.size) : Src W (.slice (some ⟨g, 0, none⟩) m m) m l := by
  subst hW hm hg
  refine .inr ⟨_, _, rfl, rfl, fun j u hj => ?_, h1⟩
  rw [Go.WideShapes.add_plain, Nat.zero_add]
  exact (World.cell?_alloc_at _ _ _ _ rfl).trans (by simpa using hj)

set_option maxRecDepth 100000 in
set_option maxHeartbeats 4000000 in
theorem be64_calls (B : Nat) (r : Option Nat) (v : Value) (n : Nat) (xs : List Value) (x : Int) (w : World) (hx0 : 0 ≤ x) (hx1 : x < 18446744073709551616) (h : Buf B r w v n xs) (hB : B ≤ w.heap.size) (hn : n ≤ 90000) :
    Calls Ybaf.prog 11 #[.agg #[], v, .int .u64 x] w fun e w' => ∃ v', e = .returned v' ∧ Buf B r w' v' (n + 8) (xs ++ be64 x) ∧ Kept B r w w' := by
  obtain ⟨a, c, rfl⟩ := h.shape
  have hb2 : Below w.heap.size w ((w.alloc (.cells #[] 51)).alloc (.cells (be64 x).toArray 5)) := ((Below.refl _ _).alloc (Nat.le_refl _) _).alloc (by simp) _
  obtain ⟨v', w', hr, hb, hk⟩ := buf_append (h.below hb2) (Nat.le_trans hB hb2.size) (src_new (w := w.alloc (.cells #[] 51)) rfl (be64_one x) 8 rfl (w.heap.size + 1) (by simp)) (by omega)
  have HB : Hid _ := hb
  have HK : Hid _ := (Kept.of_below (r := r) hb2 hB).trans hk
  unfold be64 at hr
  clear hb2 hb hk h
  go_enter Ybaf.func11, Ybaf.ntmps11
  go_wp2_with (at_builtin; refine Lib.wpList_append_run _ rfl _ _ _ _ rfl _ _ rfl rfl v' w' hr ?_)
  go_ret
  exact ⟨v', rfl, HB.out, HK.out⟩

set_option maxRecDepth 100000 in
set_option maxHeartbeats 4000000 in
theorem be32_calls (B : Nat) (r : Option Nat) (v : Value) (n : Nat) (xs : List Value) (x : Int) (w : World) (hx0 : 0 ≤ x) (hx1 : x < 4294967296) (h : Buf B r w v n xs) (hB : B ≤ w.heap.size) (hn : n ≤ 90000) :
    Calls Ybaf.prog 14 #[.agg #[], v, .int .u32 x] w fun e w' => ∃ v', e = .returned v' ∧ Buf B r w' v' (n + 4) (xs ++ be32 x) ∧ Kept B r w w' := by
  obtain ⟨a, c, rfl⟩ := h.shape
  have hb2 : Below w.heap.size w ((w.alloc (.cells #[] 51)).alloc (.cells (be32 x).toArray 5)) := ((Below.refl _ _).alloc (Nat.le_refl _) _).alloc (by simp) _
  obtain ⟨v', w', hr, hb, hk⟩ := buf_append (h.below hb2) (Nat.le_trans hB hb2.size) (src_new (w := w.alloc (.cells #[] 51)) rfl (be32_one x) 4 rfl (w.heap.size + 1) (by simp)) (by omega)
  have HB : Hid _ := hb
  have HK : Hid _ := (Kept.of_below (r := r) hb2 hB).trans hk
  unfold be32 at hr
  clear hb2 hb hk h
  go_enter Ybaf.func14, Ybaf.ntmps14
  go_wp2_with (at_builtin; refine Lib.wpList_append_run _ rfl _ _ _ _ rfl _ _ rfl rfl v' w' hr ?_)
  go_ret
  exact ⟨v', rfl, HB.out, HK.out⟩

set_option maxRecDepth 100000 in
set_option maxHeartbeats 8000000 in
theorem u64_calls (B : Nat) (r : Option Nat) (v : Value) (n : Nat) (xs : List Value) (x : Int) (w : World) (hx0 : 0 ≤ x) (hx1 : x < 18446744073709551616) (h : Buf B r w v n xs) (hB : B ≤ w.heap.size) (hn : n ≤ 90000) :
    Calls Ybaf.prog 7 #[v, .int .u64 x] w fun e w' => ∃ v', e = .returned v' ∧ Buf B r w' v' (n + 8) (xs ++ be64 x) ∧ Kept B r w w' := by
  have H0 : Hid _ := h
  clear h
  go_enter Ybaf.func7, Ybaf.ntmps7
  go_wp2
  go_loopw [0, 5] (fun b i wr => ∃ j : Nat, j ≤ 8 ∧ i = .int .i64 (56 - 8 * (j : Int)) ∧ Buf B r wr b (n + j) (xs ++ (be64 x).take j) ∧ Kept B r w wr) (fun _ i _ => ((intOf i) + 8).toNat)
  case atStart => exact ⟨0, by omega, by simp, by simpa using H0.out, Kept.refl _ _ _⟩
  case round =>
    obtain ⟨j, hj, rfl, hbuf, hkept⟩ := hrel
    have hB' : B ≤ wr.heap.size := Nat.le_trans hB hkept.size
    have hj2 : j = 0 ∨ j = 1 ∨ j = 2 ∨ j = 3 ∨ j = 4 ∨ j = 5 ∨ j = 6 ∨ j = 7 ∨ j = 8 := by omega
    rcases hj2 with rfl | rfl | rfl | rfl | rfl | rfl | rfl | rfl | rfl
    · have hb2 : Below wr.heap.size wr (wr.alloc (.cells [.int .u8 (x / 72057594037927936)].toArray 5)) := (Below.refl _ _).alloc (Nat.le_refl _) _
      obtain ⟨a, c, rfl⟩ := hbuf.shape
      obtain ⟨v', w', hr, hb, hk⟩ := buf_append (hbuf.below hb2) (Nat.le_trans hB' hb2.size) (src_new (w := wr) (l := [.int .u8 (x / 72057594037927936)]) rfl (fun u hu => by simp at hu; subst hu; rfl) 1 rfl wr.heap.size rfl) (by omega)
      have HB : Hid _ := hb
      have HK : Hid _ := hkept.trans ((Kept.of_below (r := r) hb2 hB').trans hk)
      clear hb2 hb hk hbuf hkept
      go_wp2_with (at_builtin; refine Lib.wpList_append_run _ rfl _ _ _ _ rfl _ _ rfl rfl v' w' hr ?_)
      go_roundw
      case rel => exact ⟨0 + 1, by omega, by simp, by have := HB.out; rw [List.append_assoc] at this; exact this, HK.out⟩
      case measure => simp [intOf]
    · have hb2 : Below wr.heap.size wr (wr.alloc (.cells [.int .u8 (x / 281474976710656 % 256)].toArray 5)) := (Below.refl _ _).alloc (Nat.le_refl _) _
      obtain ⟨a, c, rfl⟩ := hbuf.shape
      obtain ⟨v', w', hr, hb, hk⟩ := buf_append (hbuf.below hb2) (Nat.le_trans hB' hb2.size) (src_new (w := wr) (l := [.int .u8 (x / 281474976710656 % 256)]) rfl (fun u hu => by simp at hu; subst hu; rfl) 1 rfl wr.heap.size rfl) (by omega)
      have HB : Hid _ := hb
      have HK : Hid _ := hkept.trans ((Kept.of_below (r := r) hb2 hB').trans hk)
      clear hb2 hb hk hbuf hkept
      go_wp2_with (at_builtin; refine Lib.wpList_append_run _ rfl _ _ _ _ rfl _ _ rfl rfl v' w' hr ?_)
      go_roundw
      case rel => exact ⟨1 + 1, by omega, by simp, by have := HB.out; rw [List.append_assoc] at this; exact this, HK.out⟩
      case measure => simp [intOf]
    · have hb2 : Below wr.heap.size wr (wr.alloc (.cells [.int .u8 (x / 1099511627776 % 256)].toArray 5)) := (Below.refl _ _).alloc (Nat.le_refl _) _
      obtain ⟨a, c, rfl⟩ := hbuf.shape
      obtain ⟨v', w', hr, hb, hk⟩ := buf_append (hbuf.below hb2) (Nat.le_trans hB' hb2.size) (src_new (w := wr) (l := [.int .u8 (x / 1099511627776 % 256)]) rfl (fun u hu => by simp at hu; subst hu; rfl) 1 rfl wr.heap.size rfl) (by omega)
      have HB : Hid _ := hb
      have HK : Hid _ := hkept.trans ((Kept.of_below (r := r) hb2 hB').trans hk)
      clear hb2 hb hk hbuf hkept
      go_wp2_with (at_builtin; refine Lib.wpList_append_run _ rfl _ _ _ _ rfl _ _ rfl rfl v' w' hr ?_)
      go_roundw
      case rel => exact ⟨2 + 1, by omega, by simp, by have := HB.out; rw [List.append_assoc] at this; exact this, HK.out⟩
      case measure => simp [intOf]
    · have hb2 : Below wr.heap.size wr (wr.alloc (.cells [.int .u8 (x / 4294967296 % 256)].toArray 5)) := (Below.refl _ _).alloc (Nat.le_refl _) _
      obtain ⟨a, c, rfl⟩ := hbuf.shape
      obtain ⟨v', w', hr, hb, hk⟩ := buf_append (hbuf.below hb2) (Nat.le_trans hB' hb2.size) (src_new (w := wr) (l := [.int .u8 (x / 4294967296 % 256)]) rfl (fun u hu => by simp at hu; subst hu; rfl) 1 rfl wr.heap.size rfl) (by omega)
      have HB : Hid _ := hb
      have HK : Hid _ := hkept.trans ((Kept.of_below (r := r) hb2 hB').trans hk)
      clear hb2 hb hk hbuf hkept
      go_wp2_with (at_builtin; refine Lib.wpList_append_run _ rfl _ _ _ _ rfl _ _ rfl rfl v' w' hr ?_)
      go_roundw
      case rel => exact ⟨3 + 1, by omega, by simp, by have := HB.out; rw [List.append_assoc] at this; exact this, HK.out⟩
      case measure => simp [intOf]
    · have hb2 : Below wr.heap.size wr (wr.alloc (.cells [.int .u8 (x / 16777216 % 256)].toArray 5)) := (Below.refl _ _).alloc (Nat.le_refl _) _
      obtain ⟨a, c, rfl⟩ := hbuf.shape
      obtain ⟨v', w', hr, hb, hk⟩ := buf_append (hbuf.below hb2) (Nat.le_trans hB' hb2.size) (src_new (w := wr) (l := [.int .u8 (x / 16777216 % 256)]) rfl (fun u hu => by simp at hu; subst hu; rfl) 1 rfl wr.heap.size rfl) (by omega)
      have HB : Hid _ := hb
      have HK : Hid _ := hkept.trans ((Kept.of_below (r := r) hb2 hB').trans hk)
      clear hb2 hb hk hbuf hkept
      go_wp2_with (at_builtin; refine Lib.wpList_append_run _ rfl _ _ _ _ rfl _ _ rfl rfl v' w' hr ?_)
      go_roundw
      case rel => exact ⟨4 + 1, by omega, by simp, by have := HB.out; rw [List.append_assoc] at this; exact this, HK.out⟩
      case measure => simp [intOf]
    · have hb2 : Below wr.heap.size wr (wr.alloc (.cells [.int .u8 (x / 65536 % 256)].toArray 5)) := (Below.refl _ _).alloc (Nat.le_refl _) _
      obtain ⟨a, c, rfl⟩ := hbuf.shape
      obtain ⟨v', w', hr, hb, hk⟩ := buf_append (hbuf.below hb2) (Nat.le_trans hB' hb2.size) (src_new (w := wr) (l := [.int .u8 (x / 65536 % 256)]) rfl (fun u hu => by simp at hu; subst hu; rfl) 1 rfl wr.heap.size rfl) (by omega)
      have HB : Hid _ := hb
      have HK : Hid _ := hkept.trans ((Kept.of_below (r := r) hb2 hB').trans hk)
      clear hb2 hb hk hbuf hkept
      go_wp2_with (at_builtin; refine Lib.wpList_append_run _ rfl _ _ _ _ rfl _ _ rfl rfl v' w' hr ?_)
      go_roundw
      case rel => exact ⟨5 + 1, by omega, by simp, by have := HB.out; rw [List.append_assoc] at this; exact this, HK.out⟩
      case measure => simp [intOf]
    · have hb2 : Below wr.heap.size wr (wr.alloc (.cells [.int .u8 (x / 256 % 256)].toArray 5)) := (Below.refl _ _).alloc (Nat.le_refl _) _
      obtain ⟨a, c, rfl⟩ := hbuf.shape
      obtain ⟨v', w', hr, hb, hk⟩ := buf_append (hbuf.below hb2) (Nat.le_trans hB' hb2.size) (src_new (w := wr) (l := [.int .u8 (x / 256 % 256)]) rfl (fun u hu => by simp at hu; subst hu; rfl) 1 rfl wr.heap.size rfl) (by omega)
      have HB : Hid _ := hb
      have HK : Hid _ := hkept.trans ((Kept.of_below (r := r) hb2 hB').trans hk)
      clear hb2 hb hk hbuf hkept
      go_wp2_with (at_builtin; refine Lib.wpList_append_run _ rfl _ _ _ _ rfl _ _ rfl rfl v' w' hr ?_)
      go_roundw
      case rel => exact ⟨6 + 1, by omega, by simp, by have := HB.out; rw [List.append_assoc] at this; exact this, HK.out⟩
      case measure => simp [intOf]
    · have hb2 : Below wr.heap.size wr (wr.alloc (.cells [.int .u8 (x % 256)].toArray 5)) := (Below.refl _ _).alloc (Nat.le_refl _) _
      obtain ⟨a, c, rfl⟩ := hbuf.shape
      obtain ⟨v', w', hr, hb, hk⟩ := buf_append (hbuf.below hb2) (Nat.le_trans hB' hb2.size) (src_new (w := wr) (l := [.int .u8 (x % 256)]) rfl (fun u hu => by simp at hu; subst hu; rfl) 1 rfl wr.heap.size rfl) (by omega)
      have HB : Hid _ := hb
      have HK : Hid _ := hkept.trans ((Kept.of_below (r := r) hb2 hB').trans hk)
      clear hb2 hb hk hbuf hkept
      go_wp2_with (at_builtin; refine Lib.wpList_append_run _ rfl _ _ _ _ rfl _ _ rfl rfl v' w' hr ?_)
      go_roundw
      case rel => exact ⟨7 + 1, by omega, by simp, by have := HB.out; rw [List.append_assoc] at this; exact this, HK.out⟩
      case measure => simp [intOf]
    · have HB : Hid _ := hbuf
      have HK : Hid _ := hkept
      clear hbuf hkept
      go_wp2
      go_ret
      exact ⟨_, rfl, HB.out, HK.out⟩

set_option maxRecDepth 100000 in
set_option maxHeartbeats 8000000 in
theorem u32_calls (B : Nat) (r : Option Nat) (v : Value) (n : Nat) (xs : List Value) (x : Int) (w : World) (hx0 : 0 ≤ x) (hx1 : x < 4294967296) (h : Buf B r w v n xs) (hB : B ≤ w.heap.size) (hn : n ≤ 90000) :
    Calls Ybaf.prog 8 #[v, .int .u32 x] w fun e w' => ∃ v', e = .returned v' ∧ Buf B r w' v' (n + 4) (xs ++ be32 x) ∧ Kept B r w w' := by
  have H0 : Hid _ := h
  clear h
  go_enter Ybaf.func8, Ybaf.ntmps8
  go_wp2
  go_loopw [0, 5] (fun b i wr => ∃ j : Nat, j ≤ 4 ∧ i = .int .i64 (24 - 8 * (j : Int)) ∧ Buf B r wr b (n + j) (xs ++ (be32 x).take j) ∧ Kept B r w wr) (fun _ i _ => ((intOf i) + 8).toNat)
  case atStart => exact ⟨0, by omega, by simp, by simpa using H0.out, Kept.refl _ _ _⟩
  case round =>
    obtain ⟨j, hj, rfl, hbuf, hkept⟩ := hrel
    have hB' : B ≤ wr.heap.size := Nat.le_trans hB hkept.size
    have hj2 : j = 0 ∨ j = 1 ∨ j = 2 ∨ j = 3 ∨ j = 4 := by omega
    rcases hj2 with rfl | rfl | rfl | rfl | rfl
    · have hb2 : Below wr.heap.size wr (wr.alloc (.cells [.int .u8 (x / 16777216)].toArray 5)) := (Below.refl _ _).alloc (Nat.le_refl _) _
      obtain ⟨a, c, rfl⟩ := hbuf.shape
      obtain ⟨v', w', hr, hb, hk⟩ := buf_append (hbuf.below hb2) (Nat.le_trans hB' hb2.size) (src_new (w := wr) (l := [.int .u8 (x / 16777216)]) rfl (fun u hu => by simp at hu; subst hu; rfl) 1 rfl wr.heap.size rfl) (by omega)
      have HB : Hid _ := hb
      have HK : Hid _ := hkept.trans ((Kept.of_below (r := r) hb2 hB').trans hk)
      clear hb2 hb hk hbuf hkept
      go_wp2_with (at_builtin; refine Lib.wpList_append_run _ rfl _ _ _ _ rfl _ _ rfl rfl v' w' hr ?_)
      go_roundw
      case rel => exact ⟨0 + 1, by omega, by simp, by have := HB.out; rw [List.append_assoc] at this; exact this, HK.out⟩
      case measure => simp [intOf]
    · have hb2 : Below wr.heap.size wr (wr.alloc (.cells [.int .u8 (x / 65536 % 256)].toArray 5)) := (Below.refl _ _).alloc (Nat.le_refl _) _
      obtain ⟨a, c, rfl⟩ := hbuf.shape
      obtain ⟨v', w', hr, hb, hk⟩ := buf_append (hbuf.below hb2) (Nat.le_trans hB' hb2.size) (src_new (w := wr) (l := [.int .u8 (x / 65536 % 256)]) rfl (fun u hu => by simp at hu; subst hu; rfl) 1 rfl wr.heap.size rfl) (by omega)
      have HB : Hid _ := hb
      have HK : Hid _ := hkept.trans ((Kept.of_below (r := r) hb2 hB').trans hk)
      clear hb2 hb hk hbuf hkept
      go_wp2_with (at_builtin; refine Lib.wpList_append_run _ rfl _ _ _ _ rfl _ _ rfl rfl v' w' hr ?_)
      go_roundw
      case rel => exact ⟨1 + 1, by omega, by simp, by have := HB.out; rw [List.append_assoc] at this; exact this, HK.out⟩
      case measure => simp [intOf]
    · have hb2 : Below wr.heap.size wr (wr.alloc (.cells [.int .u8 (x / 256 % 256)].toArray 5)) := (Below.refl _ _).alloc (Nat.le_refl _) _
      obtain ⟨a, c, rfl⟩ := hbuf.shape
      obtain ⟨v', w', hr, hb, hk⟩ := buf_append (hbuf.below hb2) (Nat.le_trans hB' hb2.size) (src_new (w := wr) (l := [.int .u8 (x / 256 % 256)]) rfl (fun u hu => by simp at hu; subst hu; rfl) 1 rfl wr.heap.size rfl) (by omega)
      have HB : Hid _ := hb
      have HK : Hid _ := hkept.trans ((Kept.of_below (r := r) hb2 hB').trans hk)
      clear hb2 hb hk hbuf hkept
      go_wp2_with (at_builtin; refine Lib.wpList_append_run _ rfl _ _ _ _ rfl _ _ rfl rfl v' w' hr ?_)
      go_roundw
      case rel => exact ⟨2 + 1, by omega, by simp, by have := HB.out; rw [List.append_assoc] at this; exact this, HK.out⟩
      case measure => simp [intOf]
    · have hb2 : Below wr.heap.size wr (wr.alloc (.cells [.int .u8 (x % 256)].toArray 5)) := (Below.refl _ _).alloc (Nat.le_refl _) _
      obtain ⟨a, c, rfl⟩ := hbuf.shape
      obtain ⟨v', w', hr, hb, hk⟩ := buf_append (hbuf.below hb2) (Nat.le_trans hB' hb2.size) (src_new (w := wr) (l := [.int .u8 (x % 256)]) rfl (fun u hu => by simp at hu; subst hu; rfl) 1 rfl wr.heap.size rfl) (by omega)
      have HB : Hid _ := hb
      have HK : Hid _ := hkept.trans ((Kept.of_below (r := r) hb2 hB').trans hk)
      clear hb2 hb hk hbuf hkept
      go_wp2_with (at_builtin; refine Lib.wpList_append_run _ rfl _ _ _ _ rfl _ _ rfl rfl v' w' hr ?_)
      go_roundw
      case rel => exact ⟨3 + 1, by omega, by simp, by have := HB.out; rw [List.append_assoc] at this; exact this, HK.out⟩
      case measure => simp [intOf]
    · have HB : Hid _ := hbuf
      have HK : Hid _ := hkept
      clear hbuf hkept
      go_wp2
      go_ret
      exact ⟨_, rfl, HB.out, HK.out⟩

end Go.Proofs.YbulkawzkFmt
