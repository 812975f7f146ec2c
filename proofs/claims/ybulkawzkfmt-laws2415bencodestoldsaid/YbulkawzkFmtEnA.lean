import Derived.Test.YbulkawzkFmtAggC
namespace Go.Proofs.YbulkawzkFmt
open Go.RowKit Go.Extern.Stop Go.Stop Go.Extern
set_option linter.unusedVariables false

def AllB (xs : List Value) : Prop := ∀ u ∈ xs, ∃ i : Int, u = .int .u8 i
theorem AllB.append {a b : List Value} (h : AllB a) (h' : AllB b) : AllB (a ++ b) := fun u hu => by
  rcases List.mem_append.1 hu with h1 | h1
  · exact h u h1
  · exact h' u h1
theorem allB64 (x : Int) : AllB (be64 x) := by
  intro u hu
  simp [be64] at hu
  rcases hu with rfl | rfl | rfl | rfl | rfl | rfl | rfl | rfl <;> exact ⟨_, rfl⟩
theorem allB32 (x : Int) : AllB (be32 x) := by
  intro u hu
  simp [be32] at hu
  rcases hu with rfl | rfl | rfl | rfl <;> exact ⟨_, rfl⟩
theorem allBsig (s k : Int) : AllB (sigL s k) := by
  intro u hu
  simp only [sigL, List.mem_map] at hu
  obtain ⟨j, _, rfl⟩ := hu
  exact ⟨_, rfl⟩
theorem allBI (zs : List Int) : AllB (encI zs) := by
  intro u hu
  simp only [encI, List.mem_flatMap] at hu
  obtain ⟨z, _, h⟩ := hu
  exact allB64 _ u h
theorem allBV (V : List Vt) (h : ∀ p ∈ V, AllB p.2) : AllB (encV V) := by
  intro u hu
  simp only [encV, List.mem_flatMap] at hu
  obtain ⟨p, hp, h1⟩ := hu
  exact (AllB.append (allB64 _) (h p hp)) u h1
theorem AllB.one {xs : List Value} (h : AllB xs) : ∀ u ∈ xs, u.oneCell' = true := fun u hu => by
  obtain ⟨i, rfl⟩ := h u hu
  rfl

/-- Integers that came in, below B. -/
def IntsK (B : Nat) (w : World) (a : Option Addr) (n : Nat) (zs : List Int) : Prop := zs.length = n ∧ ∀ k z, zs[k]? = some z → ∃ b off, a = some ⟨b, off, none⟩ ∧ b < B ∧ b < w.heap.size ∧ w.cell? ⟨b, off + k, none⟩ = some (.int .i64 z)
/-- What the second half of the law reads. -/
structure Inp (w : World) (B X : Nat) (rep inst view seed : Int) (blk : List Value) (sa am pa a3 ga : Option Addr) (ns cs nm cm np cp n3 c3 gn gc : Nat) (V : List Vt) (zs zm : List Int) (pre bs : List Value) : Prop where
  lt : X < B
  x0 : w.cell? ⟨X, 0, none⟩ = some (.int .i64 rep)
  x1 : w.cell? ⟨X, 1, none⟩ = some (.int .i64 inst)
  x2 : w.cell? ⟨X, 2, none⟩ = some (.int .u64 view)
  xb : ∀ j u, blk[j]? = some u → w.cell? ⟨X, 3 + j, none⟩ = some u
  x4 : w.cell? ⟨X, 35, none⟩ = some (.slice sa ns cs)
  x5 : w.cell? ⟨X, 36, none⟩ = some (.int .u8 seed)
  x6 : w.cell? ⟨X, 37, none⟩ = some (.slice am nm cm)
  x8 : w.cell? ⟨X, 39, none⟩ = some (.slice pa np cp)
  pfx : SrcK B none w (.slice pa np cp) np pre
  sgn : IntsK B w sa ns zs
  mis : IntsK B w am nm zm
  sig : SrcK B none w (.slice a3 n3 c3) n3 bs
  got : SrcK B none w (.slice ga gn gc) gn (pre ++ be64 (IntKind.u64.wrap rep) ++ (be64 (IntKind.u64.wrap inst) ++ be64 view ++ blk) ++ (be32 ns ++ encV V) ++ be32 nm ++ encI zm ++ be32 n3 ++ bs)
  gz : ga.all (fun x => x.off = 0 ∧ x.spot = none)
  vt : V.length = ns ∧ ∀ (k : Nat) (z : Int), zs[k]? = some z → ∃ ad, V[k]? = some (⟨z, ad, 64, 64⟩, sigL seed k)
  le : ns ≤ 256 ∧ nm ≤ 1024 ∧ np ≤ 1024 ∧ n3 ≤ 64 ∧ gn = np + 8 + 48 + (4 + ns * 72) + 4 + nm * 8 + 4 + n3 ∧ blk.length = 32
  rg : 0 ≤ view ∧ view < 18446744073709551616
  bB : AllB blk ∧ AllB pre ∧ AllB bs
theorem IntsK.kept {B : Nat} {w w' : World} {a : Option Addr} {n : Nat} {zs : List Int} (h : IntsK B w a n zs) (hk : Kept B none w w') : IntsK B w' a n zs := ⟨h.1, fun k z hz => by
  obtain ⟨b, off, e1, e2, e3, e4⟩ := h.2 k z hz
  exact ⟨b, off, e1, e2, Nat.lt_of_lt_of_le e3 hk.size, (hk.cell (p := ⟨b, off + k, none⟩) e2 (by simp)).trans e4⟩⟩
theorem Inp.kept {w w' : World} {B X : Nat} {rep inst view seed : Int} {blk : List Value} {sa am pa a3 ga : Option Addr} {ns cs nm cm np cp n3 c3 gn gc : Nat} {V : List Vt} {zs zm : List Int} {pre bs : List Value} (h : Inp w B X rep inst view seed blk sa am pa a3 ga ns cs nm cm np cp n3 c3 gn gc V zs zm pre bs) (hk : Kept B none w w') : Inp w' B X rep inst view seed blk sa am pa a3 ga ns cs nm cm np cp n3 c3 gn gc V zs zm pre bs := by
  have kc : ∀ j, w'.cell? ⟨X, j, none⟩ = w.cell? ⟨X, j, none⟩ := fun j => hk.cell (p := ⟨X, j, none⟩) h.lt (by simp)
  exact ⟨h.lt, (kc _).trans h.x0, (kc _).trans h.x1, (kc _).trans h.x2, fun j u hj => (kc _).trans (h.xb j u hj), (kc _).trans h.x4, (kc _).trans h.x5, (kc _).trans h.x6, (kc _).trans h.x8, h.pfx.kept hk, h.sgn.kept hk, h.mis.kept hk, h.sig.kept hk, h.got.kept hk, h.gz, h.vt, h.le, h.rg, h.bB⟩
theorem rowB_buf {B : Nat} {r : Option Nat} {w : World} {v : Value} {n : Nat} {xs : List Value} (h : Buf B r w v n xs) (hb : AllB xs) : RowB w v n xs := by
  obtain ⟨a, c, rfl⟩ := h.shape
  refine ⟨h.len, a, c, rfl, fun k x hx => ?_⟩
  have hk := lt_of_get hx
  rw [h.len] at hk
  obtain ⟨i, rfl⟩ := hb x (List.mem_of_getElem? hx)
  rcases h.own.2 with ⟨_, h0⟩ | ⟨g, cp, cur, e1, _⟩
  · omega
  · cases e1
    exact ⟨g, i, rfl, (World.ownsRow.lt h.own g rfl).2, rfl, (h.own.cellAt k (by omega)).trans hx⟩

set_option maxRecDepth 100000 in
set_option maxHeartbeats 16000000 in
theorem en25 (w0 wx : World) (B X : Nat) (rep inst view seed : Int) (blk : List Value) (sa am pa a3 ga : Option Addr) (ns cs nm cm np cp n3 c3 gn gc : Nat) (V : List Vt) (zs zm : List Int) (pre bs : List Value) (hi : Inp wx B X rep inst view seed blk sa am pa a3 ga ns cs nm cm np cp n3 c3 gn gc V zs zm pre bs) (hB : B ≤ wx.heap.size) (hbel : ∀ w', Kept B none wx w' → Below w0.heap.size w0 w') (ab : Option Addr) (nb cb : Nat) (hnb : nb = np + 8 + 8 + 8 + 32 + 4 + ns * 72 + 4 + nm * 8 + 4 + n3) (hbuf : Buf B none wx (.slice ab nb cb) nb (pre ++ be64 (IntKind.u64.wrap rep) ++ be64 (IntKind.u64.wrap inst) ++ be64 view ++ blk ++ be32 ns ++ encV V ++ be32 nm ++ encI zm ++ be32 n3 ++ bs)) (u0 u2 u3 u4 u5 u6 u8 u10 u12 u13 u14 u15 u16 u17 u18 u19 u20 u21 u22 u23 u24 u25 u26 u27 u28 u29 u30 u31 u32 u33 u34 u35 u36 u37 u38 u39 u40 u41 u42 u43 u44 u45 u46 u47 u48 u49 u50 u51 u52 u53 u54 u55 u56 u57 u58 u59 u60 u61 u62 u63 u64 u65 u66 u67 u68 u69 u70 u71 u72 u73 u74 u75 u76 u77 u78 u79 u80 u81 u82 u83 u84 u85 u86 u87 u88 u89 u90 u91 u92 u93 u94 u95 u96 u97 u98 u99 u100 u101 u102 u103 u104 u105 u106 u107 u108 u109 u110 u111 u112 u113 u114 u115 u116 u117 u118 u119 u120 u121 u122 u123 u124 u125 u126 u127 u128 u129 u130 u131 u132 u133 u134 u135 u136 u137 u138 u139 u140 u141 u142 u143 u144 u145 u146 u147 u148 u149 u150 u151 u152 u153 u154 u155 u156 u157 u158 u159 u160 u161 u162 u163 u164 u165 u166 u167 u168 u169 u170 u171 u172 u173 u174 u175 u176 u177 u178 u179 u180 u181 u182 u183 u184 u185 u186 u187 u188 u189 u190 u191 u192 u193 u194 : Value) :
    Code.wp Ybaf.prog (secondOf (secondOf (secondOf (secondOf (secondOf (secondOf (secondOf (secondOf (secondOf (secondOf (secondOf (secondOf (secondOf (secondOf (secondOf (secondOf (secondOf (secondOf (secondOf (secondOf (secondOf (secondOf (secondOf (secondOf (secondOf (Ybaf.f3.body.getD .skip)))))))))))))))))))))))))) (bodyPost Ybaf.prog Ybaf.f3 fun e w' => e = .returned (.bool true) ∧ Below w0.heap.size w0 w') { tmps := #[u0, .pointer (some ⟨X, 0, none⟩), u2, u3, u4, u5, u6, .slice a3 n3 c3, u8, .slice ga gn gc, u10, .slice ab nb cb, u12, u13, u14, u15, u16, u17, u18, u19, u20, u21, u22, u23, u24, u25, u26, u27, u28, u29, u30, u31, u32, u33, u34, u35, u36, u37, u38, u39, u40, u41, u42, u43, u44, u45, u46, u47, u48, u49, u50, u51, u52, u53, u54, u55, u56, u57, u58, u59, u60, u61, u62, u63, u64, u65, u66, u67, u68, u69, u70, u71, u72, u73, u74, u75, u76, u77, u78, u79, u80, u81, u82, u83, u84, u85, u86, u87, u88, u89, u90, u91, u92, u93, u94, u95, u96, u97, u98, u99, u100, u101, u102, u103, u104, u105, u106, u107, u108, u109, u110, u111, u112, u113, u114, u115, u116, u117, u118, u119, u120, u121, u122, u123, u124, u125, u126, u127, u128, u129, u130, u131, u132, u133, u134, u135, u136, u137, u138, u139, u140, u141, u142, u143, u144, u145, u146, u147, u148, u149, u150, u151, u152, u153, u154, u155, u156, u157, u158, u159, u160, u161, u162, u163, u164, u165, u166, u167, u168, u169, u170, u171, u172, u173, u174, u175, u176, u177, u178, u179, u180, u181, u182, u183, u184, u185, u186, u187, u188, u189, u190, u191, u192, u193, u194], defers := [] } wx := by
  obtain ⟨T, hT⟩ : ∃ T, T = (secondOf (secondOf (secondOf (secondOf (secondOf (secondOf (secondOf (secondOf (secondOf (secondOf (secondOf (secondOf (secondOf (secondOf (secondOf (secondOf (secondOf (secondOf (secondOf (secondOf (secondOf (secondOf (secondOf (secondOf (secondOf (Ybaf.f3.body.getD .skip)))))))))))))))))))))))))) := ⟨_, rfl⟩
  rw [← hT]
  dsimp only [Ybaf.f3, Option.getD, secondOf, firstOf] at hT
  subst hT
  dsimp only
  have hx : (pre ++ be64 (IntKind.u64.wrap rep) ++ be64 (IntKind.u64.wrap inst) ++ be64 view ++ blk ++ be32 ns ++ encV V ++ be32 nm ++ encI zm ++ be32 n3 ++ bs) = pre ++ be64 (IntKind.u64.wrap rep) ++ (be64 (IntKind.u64.wrap inst) ++ be64 view ++ blk) ++ (be32 ns ++ encV V) ++ be32 nm ++ encI zm ++ be32 n3 ++ bs := by simp [List.append_assoc]
  have hab : AllB (pre ++ be64 (IntKind.u64.wrap rep) ++ (be64 (IntKind.u64.wrap inst) ++ be64 view ++ blk) ++ (be32 ns ++ encV V) ++ be32 nm ++ encI zm ++ be32 n3 ++ bs) := (((((((hi.bB.2.1.append (allB64 _)).append (((allB64 _).append (allB64 _)).append hi.bB.1)).append ((allB32 _).append (allBV _ (fun p hp => by
    obtain ⟨k, hk⟩ := List.mem_iff_getElem?.1 hp
    have hkl := lt_of_get hk
    rw [hi.vt.1] at hkl
    obtain ⟨z, hz⟩ : ∃ z, zs[k]? = some z := ⟨_, List.getElem?_eq_getElem (by rw [hi.sgn.1]; exact hkl)⟩
    obtain ⟨ad, had⟩ := hi.vt.2 k z hz
    rw [hk] at had
    cases had
    exact allBsig _ _)))).append (allB32 _)).append (allBI _)).append (allB32 _)).append hi.bB.2.2)
  rw [hx] at hbuf
  have ⟨hns, hnm, hnp, hn3, hgn, hblk⟩ := hi.le
  have hnn : nb = gn := by omega
  have h2 := rowB_buf hbuf hab
  have h1 : RowB wx (.slice ga gn gc) gn (pre ++ be64 (IntKind.u64.wrap rep) ++ (be64 (IntKind.u64.wrap inst) ++ be64 view ++ blk) ++ (be32 ns ++ encV V) ++ be32 nm ++ encI zm ++ be32 n3 ++ bs) := by
    rcases hi.got with ⟨e, e2, e3⟩ | ⟨ad, c', e, e2, e3, e4, e5⟩
    · cases e
      refine ⟨by rw [e3]; rfl, none, 0, rfl, fun k x hx => ?_⟩
      rw [e3] at hx
      simp at hx
    · cases e
      refine ⟨e2, some ad, gc, rfl, fun k x hx => ?_⟩
      obtain ⟨i, rfl⟩ := hab x (List.mem_of_getElem? hx)
      have hz := hi.gz
      simp at hz
      obtain ⟨b, o, sp⟩ := ad
      obtain ⟨rfl, rfl⟩ := hz
      have h6 := e4 k _ hx
      rw [Go.WideShapes.add_plain, Nat.zero_add] at h6
      have hk := lt_of_get hx
      exact ⟨b, i, rfl, by have := (e3 (by omega)).1; simp at this; omega, rfl, h6⟩
  rw [hnn] at h2
  have HC : Hid _ := eq_calls _ _ gn _ wx (by omega) h1 h2
  have HBEL : Hid _ := hbel
  clear hi hbuf hbel h1 h2 hx hab hgn hnb
  subst hnn
  go_wp2_with (go_at_call 9; refine Calls.mono (HC.out) ?_; rintro e w3 ⟨rfl, hb3⟩)
  go_ret
  exact ⟨rfl, HBEL.out _ (Kept.of_below hb3 hB)⟩

end Go.Proofs.YbulkawzkFmt
