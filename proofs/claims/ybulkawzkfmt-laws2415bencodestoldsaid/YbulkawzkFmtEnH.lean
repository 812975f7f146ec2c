import Derived.Test.YbulkawzkFmtEnG
namespace Go.Proofs.YbulkawzkFmt
open Go.RowKit Go.Extern.Stop Go.Stop Go.Extern
set_option linter.unusedVariables false

/-- The input, as it stands from the box on. -/
structure In0 (w : World) (X B0 : Nat) (rep inst view seed : Int) (hs : Bool) (blk : List Value) (sa am pa : Option Addr) (ns cs nm cm np cp : Nat) (zs zm : List Int) (pre : List Value) : Prop where
  lt : X < B0
  x0 : w.cell? ⟨X, 0, none⟩ = some (.int .i64 rep)
  x1 : w.cell? ⟨X, 1, none⟩ = some (.int .i64 inst)
  x2 : w.cell? ⟨X, 2, none⟩ = some (.int .u64 view)
  xb : ∀ j u, blk[j]? = some u → w.cell? ⟨X, 3 + j, none⟩ = some u
  x4 : w.cell? ⟨X, 35, none⟩ = some (.slice sa ns cs)
  x5 : w.cell? ⟨X, 36, none⟩ = some (.int .u8 seed)
  x6 : w.cell? ⟨X, 37, none⟩ = some (.slice am nm cm)
  x7 : w.cell? ⟨X, 38, none⟩ = some (.bool hs)
  x8 : w.cell? ⟨X, 39, none⟩ = some (.slice pa np cp)
  pfx : SrcK B0 none w (.slice pa np cp) np pre
  sgn : IntsK B0 w sa ns zs
  mis : IntsK B0 w am nm zm
  le : ns ≤ 256 ∧ nm ≤ 1024 ∧ np ≤ 1024 ∧ blk.length = 32
  rg : 0 ≤ view ∧ view < 18446744073709551616
  bB : AllB blk ∧ AllB pre
theorem In0.kept {w w' : World} {X B0 : Nat} {rep inst view seed : Int} {hs : Bool} {blk : List Value} {sa am pa : Option Addr} {ns cs nm cm np cp : Nat} {zs zm : List Int} {pre : List Value} (h : In0 w X B0 rep inst view seed hs blk sa am pa ns cs nm cm np cp zs zm pre) (hk : Kept B0 none w w') : In0 w' X B0 rep inst view seed hs blk sa am pa ns cs nm cm np cp zs zm pre := by
  have kc : ∀ j, w'.cell? ⟨X, j, none⟩ = w.cell? ⟨X, j, none⟩ := fun j => hk.cell (p := ⟨X, j, none⟩) h.lt (by simp)
  exact ⟨h.lt, (kc _).trans h.x0, (kc _).trans h.x1, (kc _).trans h.x2, fun j u hj => (kc _).trans (h.xb j u hj), (kc _).trans h.x4, (kc _).trans h.x5, (kc _).trans h.x6, (kc _).trans h.x7, (kc _).trans h.x8, h.pfx.kept hk, h.sgn.kept hk, h.mis.kept hk, h.le, h.rg, h.bB⟩
/-- What stands ahead of appendAggregate. -/
structure PreM (w : World) (X B0 g1 gv gm : Nat) (rep inst view seed : Int) (hs : Bool) (blk : List Value) (sa am pa a3 : Option Addr) (ns cs nm cm np cp n3 c3 : Nat) (V : List Vt) (zs zm : List Int) (pre bs : List Value) : Prop where
  inp : In0 w X B0 rep inst view seed hs blk sa am pa ns cs nm cm np cp zs zm pre
  b0 : B0 ≤ g1
  g1l : g1 < w.heap.size
  buf : w.ownsRow 0 5 1 (.slice (some ⟨g1, 0, none⟩) np np) np pre
  row : RowS w (some ⟨gv, 0, none⟩) ns (V.map Prod.fst)
  gvl : gv < w.heap.size ∧ gv ≠ g1
  vsig : ∀ p ∈ V, p.1.len = 64 ∧ SrcK w.heap.size (some g1) w (.slice p.1.ad 64 p.1.cap) 64 p.2
  vt : V.length = ns ∧ ∀ (k : Nat) (z : Int), zs[k]? = some z → ∃ ad, V[k]? = some (⟨z, ad, 64, 64⟩, sigL seed k)
  gml : gm < w.heap.size ∧ gm ≠ g1
  miss : ∀ k z, zm[k]? = some z → w.cell? ⟨gm, k, none⟩ = some (.int .i64 z)
  sig : SrcK w.heap.size (some g1) w (.slice a3 n3 c3) n3 bs
  n3 : ((nm = 0 ∧ n3 = 0) ∨ n3 = 64) ∧ n3 ≤ 64
  bbs : AllB bs
theorem SrcK.to {B B' : Nat} {r r' : Option Nat} {w w' : World} {sv : Value} {m : Nat} {news : List Value} (h : SrcK B r w sv m news) (hk : Kept B r w w') (hB : B ≤ B') (hr : r' = r ∨ r' = none) : SrcK B' r' w' sv m news := by
  rcases h.kept hk with h | ⟨ad, c, h1, h2, h3, h4, h5⟩
  · exact .inl h
  · refine .inr ⟨ad, c, h1, h2, fun h0 => ⟨by have := (h3 h0).1; omega, ?_⟩, h4, h5⟩
    rcases hr with rfl | rfl
    · exact (h3 h0).2
    · simp
theorem IntsK.to {B B' : Nat} {w : World} {a : Option Addr} {n : Nat} {zs : List Int} (h : IntsK B w a n zs) (hB : B ≤ B') : IntsK B' w a n zs := ⟨h.1, fun k z hz => by
  obtain ⟨b, off, e1, e2, e3, e4⟩ := h.2 k z hz
  exact ⟨b, off, e1, by omega, e3, e4⟩⟩
theorem Buf.srcK {B : Nat} {r : Option Nat} {w : World} {a : Option Addr} {n c : Nat} {xs : List Value} (h : Buf B r w (.slice a n c) n xs) (hb : AllB xs) : SrcK w.heap.size none w (.slice a n c) n xs ∧ a.all (fun x => x.off = 0 ∧ x.spot = none) := by
  rcases h.own.2 with ⟨e, h0⟩ | ⟨g, cp, cur, e1, _⟩
  · cases e
    exact ⟨.inl ⟨rfl, rfl, List.eq_nil_of_length_eq_zero (by have := h.len; omega)⟩, by simp⟩
  · cases e1
    refine ⟨.inr ⟨⟨g, 0, none⟩, c, rfl, h.len, fun _ => ⟨(World.ownsRow.lt h.own g rfl).2, by simp⟩, fun j u hj => ?_, hb.one⟩, by simp⟩
    have hjl := lt_of_get hj
    rw [h.len] at hjl
    rw [Go.WideShapes.add_plain, Nat.zero_add]
    exact (h.own.cellAt j (by omega)).trans hj

set_option maxRecDepth 100000 in
set_option maxHeartbeats 16000000 in
theorem pr10 (w0 wx : World) (X B0 g1 gv gm : Nat) (rep inst view seed : Int) (hs : Bool) (blk : List Value) (sa am pa a3 : Option Addr) (ns cs nm cm np cp n3 c3 : Nat) (V : List Vt) (zs zm : List Int) (pre bs : List Value) (hp : PreM wx X B0 g1 gv gm rep inst view seed hs blk sa am pa a3 ns cs nm cm np cp n3 c3 V zs zm pre bs) (hbel : Below w0.heap.size w0 wx) (hB0 : w0.heap.size ≤ B0) (F : Interp) (hF : F.answers wx.tape) (u0 u2 u5 u8 u9 u10 u11 u12 u13 u14 u15 u16 u17 u18 u19 u20 u21 u22 u23 u24 u25 u26 u27 u28 u29 u30 u31 u32 u33 u34 u35 u36 u37 u38 u39 u40 u41 u42 u43 u44 u45 u46 u47 u48 u49 u50 u51 u52 u53 u54 u55 u56 u57 u58 u59 u60 u61 u62 u63 u64 u65 u66 u67 u68 u69 u70 u71 u72 u73 u74 u75 u76 u77 u78 u79 u80 u81 u82 u83 u84 u85 u86 u87 u88 u89 u90 u91 u92 u93 u94 u95 u96 u97 u98 u99 u100 u101 u102 u103 u104 u105 u106 u107 u108 u109 u110 u111 u112 u113 u114 u115 u116 u117 u118 u119 u120 u121 u122 u123 u124 u125 u126 u127 u128 u129 u130 u131 u132 u133 u134 u135 u136 u137 u138 u139 u140 u141 u142 u143 u144 u145 u146 u147 u148 u149 u150 u151 u152 u153 u154 u155 u156 u157 u158 u159 u160 u161 u162 u163 u164 u165 u166 u167 u168 u169 u170 u171 u172 u173 u174 u175 u176 u177 u178 u179 u180 u181 u182 u183 u184 u185 u186 u187 u188 u189 u190 u191 u192 u193 u194 : Value) :
    Code.wp Ybaf.prog (secondOf (secondOf (secondOf (secondOf (secondOf (secondOf (secondOf (secondOf (secondOf (secondOf (Ybaf.f3.body.getD .skip))))))))))) (bodyPost Ybaf.prog Ybaf.f3 fun e w' => e = .returned (.bool true) ∧ Below w0.heap.size w0 w') { tmps := #[u0, .pointer (some ⟨X, 0, none⟩), u2, .slice (some ⟨g1, 0, none⟩) np np, .slice (some ⟨gv, 0, none⟩) ns ns, u5, .slice (some ⟨gm, 0, none⟩) nm nm, .slice a3 n3 c3, u8, u9, u10, u11, u12, u13, u14, u15, u16, u17, u18, u19, u20, u21, u22, u23, u24, u25, u26, u27, u28, u29, u30, u31, u32, u33, u34, u35, u36, u37, u38, u39, u40, u41, u42, u43, u44, u45, u46, u47, u48, u49, u50, u51, u52, u53, u54, u55, u56, u57, u58, u59, u60, u61, u62, u63, u64, u65, u66, u67, u68, u69, u70, u71, u72, u73, u74, u75, u76, u77, u78, u79, u80, u81, u82, u83, u84, u85, u86, u87, u88, u89, u90, u91, u92, u93, u94, u95, u96, u97, u98, u99, u100, u101, u102, u103, u104, u105, u106, u107, u108, u109, u110, u111, u112, u113, u114, u115, u116, u117, u118, u119, u120, u121, u122, u123, u124, u125, u126, u127, u128, u129, u130, u131, u132, u133, u134, u135, u136, u137, u138, u139, u140, u141, u142, u143, u144, u145, u146, u147, u148, u149, u150, u151, u152, u153, u154, u155, u156, u157, u158, u159, u160, u161, u162, u163, u164, u165, u166, u167, u168, u169, u170, u171, u172, u173, u174, u175, u176, u177, u178, u179, u180, u181, u182, u183, u184, u185, u186, u187, u188, u189, u190, u191, u192, u193, u194], defers := [] } wx := by
  obtain ⟨RS, hRS⟩ : ∃ RS, RS = (secondOf (secondOf (secondOf (secondOf (secondOf (secondOf (secondOf (secondOf (secondOf (secondOf (secondOf (secondOf (secondOf (Ybaf.f3.body.getD .skip)))))))))))))) := ⟨_, rfl⟩
  obtain ⟨T, hT⟩ : ∃ T, T = (Code.seq (firstOf (secondOf (secondOf (secondOf (secondOf (secondOf (secondOf (secondOf (secondOf (secondOf (secondOf (Ybaf.f3.body.getD .skip)))))))))))) (Code.seq (firstOf (secondOf (secondOf (secondOf (secondOf (secondOf (secondOf (secondOf (secondOf (secondOf (secondOf (secondOf (Ybaf.f3.body.getD .skip))))))))))))) (Code.seq (firstOf (secondOf (secondOf (secondOf (secondOf (secondOf (secondOf (secondOf (secondOf (secondOf (secondOf (secondOf (secondOf (Ybaf.f3.body.getD .skip)))))))))))))) RS))) := ⟨_, rfl⟩
  have hE : (secondOf (secondOf (secondOf (secondOf (secondOf (secondOf (secondOf (secondOf (secondOf (secondOf (Ybaf.f3.body.getD .skip))))))))))) = T := by rw [hT, hRS]; rfl
  rw [hE]
  have HRS : Hid _ := hRS
  clear hE hRS
  dsimp only [Ybaf.f3, Option.getD, secondOf, firstOf] at hT
  subst hT
  dsimp only
  obtain ⟨b0, b1, b2, b3, b4, b5, b6, b7, b8, b9, b10, b11, b12, b13, b14, b15, b16, b17, b18, b19, b20, b21, b22, b23, b24, b25, b26, b27, b28, b29, b30, b31, hbl⟩ : ∃ b0 b1 b2 b3 b4 b5 b6 b7 b8 b9 b10 b11 b12 b13 b14 b15 b16 b17 b18 b19 b20 b21 b22 b23 b24 b25 b26 b27 b28 b29 b30 b31 : Value, blk = [b0, b1, b2, b3, b4, b5, b6, b7, b8, b9, b10, b11, b12, b13, b14, b15, b16, b17, b18, b19, b20, b21, b22, b23, b24, b25, b26, b27, b28, b29, b30, b31] := by
    have hl := hp.inp.le.2.2.2
    refine ⟨blk[0], blk[1], blk[2], blk[3], blk[4], blk[5], blk[6], blk[7], blk[8], blk[9], blk[10], blk[11], blk[12], blk[13], blk[14], blk[15], blk[16], blk[17], blk[18], blk[19], blk[20], blk[21], blk[22], blk[23], blk[24], blk[25], blk[26], blk[27], blk[28], blk[29], blk[30], blk[31], ?_⟩
    apply List.ext_getElem
    · simpa using hl
    · intro i h1 h2
      simp at h2
      obtain h | h | h | h | h | h | h | h | h | h | h | h | h | h | h | h | h | h | h | h | h | h | h | h | h | h | h | h | h | h | h | h : i = 0 ∨ i = 1 ∨ i = 2 ∨ i = 3 ∨ i = 4 ∨ i = 5 ∨ i = 6 ∨ i = 7 ∨ i = 8 ∨ i = 9 ∨ i = 10 ∨ i = 11 ∨ i = 12 ∨ i = 13 ∨ i = 14 ∨ i = 15 ∨ i = 16 ∨ i = 17 ∨ i = 18 ∨ i = 19 ∨ i = 20 ∨ i = 21 ∨ i = 22 ∨ i = 23 ∨ i = 24 ∨ i = 25 ∨ i = 26 ∨ i = 27 ∨ i = 28 ∨ i = 29 ∨ i = 30 ∨ i = 31 := by omega
      all_goals (subst h; rfl)
  have x0 := hp.inp.x0
  have x1 := hp.inp.x1
  have x2 := hp.inp.x2
  have hrg : wx.rangeAt X 3 [b0, b1, b2, b3, b4, b5, b6, b7, b8, b9, b10, b11, b12, b13, b14, b15, b16, b17, b18, b19, b20, b21, b22, b23, b24, b25, b26, b27, b28, b29, b30, b31] := fun j u hj => hp.inp.xb j u (by rw [hbl]; exact hj)
  have hi23 : (Ybaf.prog.info? 23).map (·.size) = some ([b0, b1, b2, b3, b4, b5, b6, b7, b8, b9, b10, b11, b12, b13, b14, b15, b16, b17, b18, b19, b20, b21, b22, b23, b24, b25, b26, b27, b28, b29, b30, b31] : List Value).length := by kernel_rfl
  have HP : Hid _ := hp
  have HBL : Hid _ := hbl
  have HF : Hid _ := hF
  have HBEL : Hid _ := hbel
  clear hp hbl hF hbel
  have HC : Hid (Calls Ybaf.prog 6 #[.slice (some ⟨g1, 0, none⟩) np np, .pointer (some ⟨wx.heap.size, 0, none⟩)] (wx.alloc (.cells #[.int .i64 rep, .int .i64 inst, .int .u64 view, b0, b1, b2, b3, b4, b5, b6, b7, b8, b9, b10, b11, b12, b13, b14, b15, b16, b17, b18, b19, b20, b21, b22, b23, b24, b25, b26, b27, b28, b29, b30, b31, .slice (some ⟨gv, 0, none⟩) ns ns, .slice (some ⟨gm, 0, none⟩) nm nm, .slice a3 n3 c3] 35)) fun e w' => ∃ ga gc, e = .returned (.tuple #[.slice ga (np + 8 + 48 + (4 + ns * 72) + 4 + nm * 8 + 4 + n3) gc, .nilIface]) ∧ Hid (Inp w' w'.heap.size X rep inst view seed blk sa am pa a3 ga ns cs nm cm np cp n3 c3 (np + 8 + 48 + (4 + ns * 72) + 4 + nm * 8 + 4 + n3) gc V zs zm pre bs) ∧ Hid (∀ w'', Kept w'.heap.size none w' w'' → Below w0.heap.size w0 w'')) := by
    have hp := HP.out
    have hbel := HBEL.out
    have hsz : (wx.alloc (.cells #[.int .i64 rep, .int .i64 inst, .int .u64 view, b0, b1, b2, b3, b4, b5, b6, b7, b8, b9, b10, b11, b12, b13, b14, b15, b16, b17, b18, b19, b20, b21, b22, b23, b24, b25, b26, b27, b28, b29, b30, b31, .slice (some ⟨gv, 0, none⟩) ns ns, .slice (some ⟨gm, 0, none⟩) nm nm, .slice a3 n3 c3] 35)).heap.size = wx.heap.size + 1 := by simp
    have hbb : Below wx.heap.size wx (wx.alloc (.cells #[.int .i64 rep, .int .i64 inst, .int .u64 view, b0, b1, b2, b3, b4, b5, b6, b7, b8, b9, b10, b11, b12, b13, b14, b15, b16, b17, b18, b19, b20, b21, b22, b23, b24, b25, b26, b27, b28, b29, b30, b31, .slice (some ⟨gv, 0, none⟩) ns ns, .slice (some ⟨gm, 0, none⟩) nm nm, .slice a3 n3 c3] 35)) := (Below.refl _ _).alloc (Nat.le_refl _) _
    have hc : ∀ j, (wx.alloc (.cells #[.int .i64 rep, .int .i64 inst, .int .u64 view, b0, b1, b2, b3, b4, b5, b6, b7, b8, b9, b10, b11, b12, b13, b14, b15, b16, b17, b18, b19, b20, b21, b22, b23, b24, b25, b26, b27, b28, b29, b30, b31, .slice (some ⟨gv, 0, none⟩) ns ns, .slice (some ⟨gm, 0, none⟩) nm nm, .slice a3 n3 c3] 35)).cell? ⟨wx.heap.size, j, none⟩ = (#[.int .i64 rep, .int .i64 inst, .int .u64 view, b0, b1, b2, b3, b4, b5, b6, b7, b8, b9, b10, b11, b12, b13, b14, b15, b16, b17, b18, b19, b20, b21, b22, b23, b24, b25, b26, b27, b28, b29, b30, b31, .slice (some ⟨gv, 0, none⟩) ns ns, .slice (some ⟨gm, 0, none⟩) nm nm, .slice a3 n3 c3] : Array Value)[j]? := fun j => World.cell?_alloc_new _ _ _ _
    have hmb : ∀ j u, blk[j]? = some u → (wx.alloc (.cells #[.int .i64 rep, .int .i64 inst, .int .u64 view, b0, b1, b2, b3, b4, b5, b6, b7, b8, b9, b10, b11, b12, b13, b14, b15, b16, b17, b18, b19, b20, b21, b22, b23, b24, b25, b26, b27, b28, b29, b30, b31, .slice (some ⟨gv, 0, none⟩) ns ns, .slice (some ⟨gm, 0, none⟩) nm nm, .slice a3 n3 c3] 35)).cell? ⟨wx.heap.size, 3 + j, none⟩ = some u := by
      intro j u hj
      rw [hc, Nat.add_comm 3 j, ← Array.getElem?_toList]
      have hjl := lt_of_get hj
      rw [HBL.out] at hj hjl
      have : ([b0, b1, b2, b3, b4, b5, b6, b7, b8, b9, b10, b11, b12, b13, b14, b15, b16, b17, b18, b19, b20, b21, b22, b23, b24, b25, b26, b27, b28, b29, b30, b31] ++ [.slice (some ⟨gv, 0, none⟩) ns ns, .slice (some ⟨gm, 0, none⟩) nm nm, .slice a3 n3 c3] : List Value)[j]? = some u := by rw [List.getElem?_append_left hjl]; exact hj
      exact this
    have hkx : Kept wx.heap.size (some g1) wx (wx.alloc (.cells #[.int .i64 rep, .int .i64 inst, .int .u64 view, b0, b1, b2, b3, b4, b5, b6, b7, b8, b9, b10, b11, b12, b13, b14, b15, b16, b17, b18, b19, b20, b21, b22, b23, b24, b25, b26, b27, b28, b29, b30, b31, .slice (some ⟨gv, 0, none⟩) ns ns, .slice (some ⟨gm, 0, none⟩) nm nm, .slice a3 n3 c3] 35)) := Kept.of_below hbb (Nat.le_refl _)
    have m0 := hc 0
    have m1 := hc 1
    have m2 := hc 2
    have m4 := hc 35
    have m5 := hc 36
    have m6 := hc 37
    clear hc
    generalize hW1 : wx.alloc (.cells #[.int .i64 rep, .int .i64 inst, .int .u64 view, b0, b1, b2, b3, b4, b5, b6, b7, b8, b9, b10, b11, b12, b13, b14, b15, b16, b17, b18, b19, b20, b21, b22, b23, b24, b25, b26, b27, b28, b29, b30, b31, .slice (some ⟨gv, 0, none⟩) ns ns, .slice (some ⟨gm, 0, none⟩) nm nm, .slice a3 n3 c3] 35) = W1 at *
    have hg1 := hp.g1l
    have hle := hp.inp.le
    have hb0 := hp.b0
    have hmc : Mc W1 (wx.heap.size + 1) (some g1) wx.heap.size rep inst view blk (some ⟨gv, 0, none⟩) (some ⟨gm, 0, none⟩) a3 ns ns nm nm n3 c3 V zm bs := by
      refine ⟨by omega, by simp; omega, m0, m1, m2, hmb, m4, m5, m6, ⟨hp.row.below hbb, hp.vt.1, ?_, fun p hpV => ⟨(hp.vsig p hpV).1, (hp.vsig p hpV).2.to hkx (by omega) (.inl rfl)⟩⟩, hle.1, ?_, hp.inp.mis.1, hle.2.1, hp.sig.to hkx (by omega) (.inl rfl), hp.n3.2, hp.inp.rg, hle.2.2.2, hp.inp.bB.1.one⟩
      · intro g hg _
        cases hg
        have := hp.gvl
        exact ⟨by omega, by simp; omega⟩
      · intro k z hz
        have := hp.gml
        refine ⟨gm, rfl, by omega, by simp; omega, by omega, ?_⟩
        rw [hbb.cell (p := ⟨gm, k, none⟩) this.1]
        exact hp.miss k z hz
    have hbf : Buf (wx.heap.size + 1) (some g1) W1 (.slice (some ⟨g1, 0, none⟩) np np) np pre := ⟨own_val hp.buf (fun g hg => by cases hg; exact hbb.block g1 hg1), .inl rfl⟩
    refine (agg_calls F W1 (wx.heap.size + 1) (some g1) wx.heap.size rep inst view blk (some ⟨gv, 0, none⟩) (some ⟨gm, 0, none⟩) a3 ns ns nm nm n3 c3 V zm bs pre np hle.2.2.1 hmc (by omega) _ _ hbf (by rw [hbb.tape]; exact HF.out) hp.n3.1).mono ?_
    rintro e w' ⟨v', rfl, hb', hk'⟩
    obtain ⟨ga, gc, rfl⟩ := hb'.shape
    have hs' := hk'.size
    have hk0 : Kept B0 none wx w' := ⟨hk'.os.trans hbb.os, hk'.tape.trans hbb.tape, hk'.output.trans hbb.output, by omega, fun k hk _ => (hk'.block k (by omega) (by simp; omega)).trans (hbb.block k (by omega))⟩
    have hkw : Kept wx.heap.size (some g1) wx w' := ⟨hk0.os, hk0.tape, hk0.output, hk0.size, fun k hk hr => (hk'.block k (by omega) hr).trans (hbb.block k hk)⟩
    have hin := hp.inp.kept hk0
    have hall : AllB (pre ++ be64 (IntKind.u64.wrap rep) ++ (be64 (IntKind.u64.wrap inst) ++ be64 view ++ blk) ++ (be32 ns ++ encV V) ++ be32 nm ++ encI zm ++ be32 n3 ++ bs) := (((((((hp.inp.bB.2.append (allB64 _)).append (((allB64 _).append (allB64 _)).append hp.inp.bB.1)).append ((allB32 _).append (allBV _ (fun p hpV => by
      obtain ⟨k, hk⟩ := List.mem_iff_getElem?.1 hpV
      have hkl := lt_of_get hk
      rw [hp.vt.1] at hkl
      obtain ⟨z, hz⟩ : ∃ z, zs[k]? = some z := ⟨_, List.getElem?_eq_getElem (by rw [hp.inp.sgn.1]; exact hkl)⟩
      obtain ⟨ad, had⟩ := hp.vt.2 k z hz
      rw [hk] at had
      cases had
      exact allBsig _ _)))).append (allB32 _)).append (allBI _)).append (allB32 _)).append hp.bbs)
    obtain ⟨hgs, hgz⟩ := hb'.srcK hall
    refine ⟨ga, gc, rfl, ?_, ?_⟩
    · exact ⟨by have := hin.lt; omega, hin.x0, hin.x1, hin.x2, hin.xb, hin.x4, hin.x5, hin.x6, hin.x8, hin.pfx.to (Kept.refl _ _ _) (by omega) (.inl rfl), hin.sgn.to (by omega), hin.mis.to (by omega), hp.sig.to hkw (by omega) (.inr rfl), hgs, hgz, hp.vt, ⟨hle.1, hle.2.1, hle.2.2.1, hp.n3.2, rfl, hle.2.2.2⟩, hp.inp.rg, ⟨hp.inp.bB.1, hp.inp.bB.2, hp.bbs⟩⟩
    · intro w'' hk''
      have hl0 := hbel.size
      refine hbel.trans ⟨hk''.os.trans hk0.os, hk''.tape.trans hk0.tape, hk''.output.trans hk0.output, Nat.le_trans hk0.size hk''.size, fun k hk => ?_⟩
      rw [hk''.block k (by omega) (by simp)]
      exact hk0.block k (by omega) (by simp)
  have HGO : Hid (∀ ga gc w', Inp w' w'.heap.size X rep inst view seed blk sa am pa a3 ga ns cs nm cm np cp n3 c3 (np + 8 + 48 + (4 + ns * 72) + 4 + nm * 8 + 4 + n3) gc V zs zm pre bs → (∀ w'', Kept w'.heap.size none w' w'' → Below w0.heap.size w0 w'') → ∀ (u0 u2 u3 u4 u5 u6 u8 u10 u11 u12 u13 u14 u15 u16 u17 u18 u19 u20 u21 u22 u23 u24 u25 u26 u27 u28 u29 u30 u31 u32 u33 u34 u35 u36 u37 u38 u39 u40 u41 u42 u43 u44 u45 u46 u47 u48 u49 u50 u51 u52 u53 u54 u55 u56 u57 u58 u59 u60 u61 u62 u63 u64 u65 u66 u67 u68 u69 u70 u71 u72 u73 u74 u75 u76 u77 u78 u79 u80 u81 u82 u83 u84 u85 u86 u87 u88 u89 u90 u91 u92 u93 u94 u95 u96 u97 u98 u99 u100 u101 u102 u103 u104 u105 u106 u107 u108 u109 u110 u111 u112 u113 u114 u115 u116 u117 u118 u119 u120 u121 u122 u123 u124 u125 u126 u127 u128 u129 u130 u131 u132 u133 u134 u135 u136 u137 u138 u139 u140 u141 u142 u143 u144 u145 u146 u147 u148 u149 u150 u151 u152 u153 u154 u155 u156 u157 u158 u159 u160 u161 u162 u163 u164 u165 u166 u167 u168 u169 u170 u171 u172 u173 u174 u175 u176 u177 u178 u179 u180 u181 u182 u183 u184 u185 u186 u187 u188 u189 u190 u191 u192 u193 u194 : Value), Code.wp Ybaf.prog RS (bodyPost Ybaf.prog Ybaf.f3 fun e w' => e = .returned (.bool true) ∧ Below w0.heap.size w0 w') { tmps := #[u0, .pointer (some ⟨X, 0, none⟩), u2, u3, u4, u5, u6, .slice a3 n3 c3, u8, .slice ga (np + 8 + 48 + (4 + ns * 72) + 4 + nm * 8 + 4 + n3) gc, u10, u11, u12, u13, u14, u15, u16, u17, u18, u19, u20, u21, u22, u23, u24, u25, u26, u27, u28, u29, u30, u31, u32, u33, u34, u35, u36, u37, u38, u39, u40, u41, u42, u43, u44, u45, u46, u47, u48, u49, u50, u51, u52, u53, u54, u55, u56, u57, u58, u59, u60, u61, u62, u63, u64, u65, u66, u67, u68, u69, u70, u71, u72, u73, u74, u75, u76, u77, u78, u79, u80, u81, u82, u83, u84, u85, u86, u87, u88, u89, u90, u91, u92, u93, u94, u95, u96, u97, u98, u99, u100, u101, u102, u103, u104, u105, u106, u107, u108, u109, u110, u111, u112, u113, u114, u115, u116, u117, u118, u119, u120, u121, u122, u123, u124, u125, u126, u127, u128, u129, u130, u131, u132, u133, u134, u135, u136, u137, u138, u139, u140, u141, u142, u143, u144, u145, u146, u147, u148, u149, u150, u151, u152, u153, u154, u155, u156, u157, u158, u159, u160, u161, u162, u163, u164, u165, u166, u167, u168, u169, u170, u171, u172, u173, u174, u175, u176, u177, u178, u179, u180, u181, u182, u183, u184, u185, u186, u187, u188, u189, u190, u191, u192, u193, u194], defers := [] } w') := by
    intro ga gc w' h1 h2
    intros
    rw [HRS.out]
    exact en13 w0 w' w'.heap.size X rep inst view seed blk sa am pa a3 ga ns cs nm cm np cp n3 c3 (np + 8 + 48 + (4 + ns * 72) + 4 + nm * 8 + 4 + n3) gc V zs zm pre bs h1 (Nat.le_refl _) h2 _ _ _ _ _ _ _ _ _ _ _ _ _ _ _ _ _ _ _ _ _ _ _ _ _ _ _ _ _ _ _ _ _ _ _ _ _ _ _ _ _ _ _ _ _ _ _ _ _ _ _ _ _ _ _ _ _ _ _ _ _ _ _ _ _ _ _ _ _ _ _ _ _ _ _ _ _ _ _ _ _ _ _ _ _ _ _ _ _ _ _ _ _ _ _ _ _ _ _ _ _ _ _ _ _ _ _ _ _ _ _ _ _ _ _ _ _ _ _ _ _ _ _ _ _ _ _ _ _ _ _ _ _ _ _ _ _ _ _ _ _ _ _ _ _ _ _ _ _ _ _ _ _ _ _ _ _ _ _ _ _ _ _ _ _ _ _ _ _ _ _ _ _ _ _ _ _ _ _ _ _ _ _ _ _ _ _ _ _ _ _ _
  go_wp2_with (refine wpList_load_mid rfl 23 (.tmp 88) rfl X 3 rfl _ _ hrg Ybaf.underlying23 rfl hi23 ?_)
  refine Calls.mono (HC.out) ?_
  rintro e w' ⟨ga, gc, rfl, HI, HW⟩
  go_wp2
  exact HGO.out ga gc w' HI.out HW.out _ _ _ _ _ _ _ _ _ _ _ _ _ _ _ _ _ _ _ _ _ _ _ _ _ _ _ _ _ _ _ _ _ _ _ _ _ _ _ _ _ _ _ _ _ _ _ _ _ _ _ _ _ _ _ _ _ _ _ _ _ _ _ _ _ _ _ _ _ _ _ _ _ _ _ _ _ _ _ _ _ _ _ _ _ _ _ _ _ _ _ _ _ _ _ _ _ _ _ _ _ _ _ _ _ _ _ _ _ _ _ _ _ _ _ _ _ _ _ _ _ _ _ _ _ _ _ _ _ _ _ _ _ _ _ _ _ _ _ _ _ _ _ _ _ _ _ _ _ _ _ _ _ _ _ _ _ _ _ _ _ _ _ _ _ _ _ _ _ _ _ _ _ _ _ _ _ _ _ _ _ _ _ _ _ _ _ _ _ _ _ _

end Go.Proofs.YbulkawzkFmt
