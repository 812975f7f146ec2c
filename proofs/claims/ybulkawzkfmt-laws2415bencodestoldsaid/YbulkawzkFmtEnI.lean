import Derived.Test.YbulkawzkFmtEnH
namespace Go.Proofs.YbulkawzkFmt
open Go.RowKit Go.Extern.Stop Go.Stop Go.Extern
set_option linter.unusedVariables false

structure PreB (w : World) (X B0 : Nat) (rep inst view seed : Int) (hs : Bool) (blk : List Value) (sa am pa : Option Addr) (ns cs nm cm np cp : Nat) (zs zm : List Int) (pre : List Value) (g1 : Nat) : Prop where
  inp : In0 w X B0 rep inst view seed hs blk sa am pa ns cs nm cm np cp zs zm pre
  b0 : B0 ≤ g1
  g1l : g1 < w.heap.size
  buf : w.ownsRow 0 5 1 (.slice (some ⟨g1, 0, none⟩) np np) np pre
structure PreV (w : World) (X B0 : Nat) (rep inst view seed : Int) (hs : Bool) (blk : List Value) (sa am pa : Option Addr) (ns cs nm cm np cp : Nat) (zs zm : List Int) (pre : List Value) (g1 gv : Nat) (V : List Vt) : Prop where
  pb : PreB w X B0 rep inst view seed hs blk sa am pa ns cs nm cm np cp zs zm pre g1
  row : RowS w (some ⟨gv, 0, none⟩) ns (V.map Prod.fst)
  gvl : gv < w.heap.size ∧ gv ≠ g1
  vsig : ∀ p ∈ V, p.1.len = 64 ∧ SrcK w.heap.size (some g1) w (.slice p.1.ad 64 p.1.cap) 64 p.2
  vt : V.length = ns ∧ ∀ (k : Nat) (z : Int), zs[k]? = some z → ∃ ad, V[k]? = some (⟨z, ad, 64, 64⟩, sigL seed k)
structure PreS (w : World) (X B0 : Nat) (rep inst view seed : Int) (hs : Bool) (blk : List Value) (sa am pa : Option Addr) (ns cs nm cm np cp : Nat) (zs zm : List Int) (pre : List Value) (g1 gv gm : Nat) (V : List Vt) : Prop where
  pv : PreV w X B0 rep inst view seed hs blk sa am pa ns cs nm cm np cp zs zm pre g1 gv V
  gml : gm < w.heap.size ∧ gm ≠ g1
  miss : ∀ k z, zm[k]? = some z → w.cell? ⟨gm, k, none⟩ = some (.int .i64 z)
theorem PreB.below {w w' : World} {X B0 : Nat} {rep inst view seed : Int} {hs : Bool} {blk : List Value} {sa am pa : Option Addr} {ns cs nm cm np cp : Nat} {zs zm : List Int} {pre : List Value} {g1 : Nat} (h : PreB w X B0 rep inst view seed hs blk sa am pa ns cs nm cm np cp zs zm pre g1) (hb : Below w.heap.size w w') : PreB w' X B0 rep inst view seed hs blk sa am pa ns cs nm cm np cp zs zm pre g1 := by
  have h1 := h.b0
  have h2 := h.g1l
  exact ⟨h.inp.kept (Kept.of_below hb (by omega)), h.b0, Nat.lt_of_lt_of_le h.g1l hb.size, own_val h.buf (fun g hg => by cases hg; exact hb.block g1 h.g1l)⟩
theorem PreV.below {w w' : World} {X B0 : Nat} {rep inst view seed : Int} {hs : Bool} {blk : List Value} {sa am pa : Option Addr} {ns cs nm cm np cp : Nat} {zs zm : List Int} {pre : List Value} {g1 gv : Nat} {V : List Vt} (h : PreV w X B0 rep inst view seed hs blk sa am pa ns cs nm cm np cp zs zm pre g1 gv V) (hb : Below w.heap.size w w') : PreV w' X B0 rep inst view seed hs blk sa am pa ns cs nm cm np cp zs zm pre g1 gv V :=
  ⟨h.pb.below hb, h.row.below hb, ⟨Nat.lt_of_lt_of_le h.gvl.1 hb.size, h.gvl.2⟩, fun p hp => ⟨(h.vsig p hp).1, (h.vsig p hp).2.to (Kept.of_below hb (Nat.le_refl _)) hb.size (.inl rfl)⟩, h.vt⟩
theorem PreS.below {w w' : World} {X B0 : Nat} {rep inst view seed : Int} {hs : Bool} {blk : List Value} {sa am pa : Option Addr} {ns cs nm cm np cp : Nat} {zs zm : List Int} {pre : List Value} {g1 gv gm : Nat} {V : List Vt} (h : PreS w X B0 rep inst view seed hs blk sa am pa ns cs nm cm np cp zs zm pre g1 gv gm V) (hb : Below w.heap.size w w') : PreS w' X B0 rep inst view seed hs blk sa am pa ns cs nm cm np cp zs zm pre g1 gv gm V :=
  ⟨h.pv.below hb, ⟨Nat.lt_of_lt_of_le h.gml.1 hb.size, h.gml.2⟩, fun k z hz => (hb.cell (p := ⟨gm, k, none⟩) h.gml.1).trans (h.miss k z hz)⟩
theorem PreS.toM {w : World} {X B0 : Nat} {rep inst view seed : Int} {hs : Bool} {blk : List Value} {sa am pa : Option Addr} {ns cs nm cm np cp : Nat} {zs zm : List Int} {pre : List Value} {g1 gv gm : Nat} {V : List Vt} (h : PreS w X B0 rep inst view seed hs blk sa am pa ns cs nm cm np cp zs zm pre g1 gv gm V) {a3 : Option Addr} {n3 c3 : Nat} {bs : List Value} (hsr : SrcK w.heap.size (some g1) w (.slice a3 n3 c3) n3 bs) (h3 : ((nm = 0 ∧ n3 = 0) ∨ n3 = 64) ∧ n3 ≤ 64) (hb : AllB bs) : PreM w X B0 g1 gv gm rep inst view seed hs blk sa am pa a3 ns cs nm cm np cp n3 c3 V zs zm pre bs :=
  ⟨h.pv.pb.inp, h.pv.pb.b0, h.pv.pb.g1l, h.pv.pb.buf, h.pv.row, h.pv.gvl, h.pv.vsig, h.pv.vt, h.gml, h.miss, hsr, h3, hb⟩

set_option maxRecDepth 100000 in
set_option maxHeartbeats 16000000 in
theorem pr8 (w0 wx : World) (X B0 : Nat) (rep inst view seed : Int) (hs : Bool) (blk : List Value) (sa am pa : Option Addr) (ns cs nm cm np cp : Nat) (zs zm : List Int) (pre : List Value) (g1 gv gm : Nat) (V : List Vt) (hp : PreS wx X B0 rep inst view seed hs blk sa am pa ns cs nm cm np cp zs zm pre g1 gv gm V) (hbel : Below w0.heap.size w0 wx) (hB0 : w0.heap.size ≤ B0) (F : Interp) (hF : F.answers wx.tape) (u0 u2 u5 u7 u8 u9 u10 u11 u12 u13 u14 u15 u16 u17 u18 u19 u20 u21 u22 u23 u24 u25 u26 u27 u28 u29 u30 u31 u32 u33 u34 u35 u36 u37 u38 u39 u40 u41 u42 u43 u44 u45 u46 u47 u48 u49 u50 u51 u52 u53 u54 u55 u56 u57 u58 u59 u60 u61 u62 u63 u64 u65 u66 u67 u68 u69 u70 u71 u72 u73 u74 u75 u76 u77 u78 u79 u80 u81 u82 u83 u84 u85 u86 u87 u88 u89 u90 u91 u92 u93 u94 u95 u96 u97 u98 u99 u100 u101 u102 u103 u104 u105 u106 u107 u108 u109 u110 u111 u112 u113 u114 u115 u116 u117 u118 u119 u120 u121 u122 u123 u124 u125 u126 u127 u128 u129 u130 u131 u132 u133 u134 u135 u136 u137 u138 u139 u140 u141 u142 u143 u144 u145 u146 u147 u148 u149 u150 u151 u152 u153 u154 u155 u156 u157 u158 u159 u160 u161 u162 u163 u164 u165 u166 u167 u168 u169 u170 u171 u172 u173 u174 u175 u176 u177 u178 u179 u180 u181 u182 u183 u184 u185 u186 u187 u188 u189 u190 u191 u192 u193 u194 : Value) :
    Code.wp Ybaf.prog (secondOf (secondOf (secondOf (secondOf (secondOf (secondOf (secondOf (secondOf (Ybaf.f3.body.getD .skip))))))))) (bodyPost Ybaf.prog Ybaf.f3 fun e w' => e = .returned (.bool true) ∧ Below w0.heap.size w0 w') { tmps := #[u0, .pointer (some ⟨X, 0, none⟩), u2, .slice (some ⟨g1, 0, none⟩) np np, .slice (some ⟨gv, 0, none⟩) ns ns, u5, .slice (some ⟨gm, 0, none⟩) nm nm, u7, u8, u9, u10, u11, u12, u13, u14, u15, u16, u17, u18, u19, u20, u21, u22, u23, u24, u25, u26, u27, u28, u29, u30, u31, u32, u33, u34, u35, u36, u37, u38, u39, u40, u41, u42, u43, u44, u45, u46, u47, u48, u49, u50, u51, u52, u53, u54, u55, u56, u57, u58, u59, u60, u61, u62, u63, u64, u65, u66, u67, u68, u69, u70, u71, u72, u73, u74, u75, u76, u77, u78, u79, u80, u81, u82, u83, u84, u85, u86, u87, u88, u89, u90, u91, u92, u93, u94, u95, u96, u97, u98, u99, u100, u101, u102, u103, u104, u105, u106, u107, u108, u109, u110, u111, u112, u113, u114, u115, u116, u117, u118, u119, u120, u121, u122, u123, u124, u125, u126, u127, u128, u129, u130, u131, u132, u133, u134, u135, u136, u137, u138, u139, u140, u141, u142, u143, u144, u145, u146, u147, u148, u149, u150, u151, u152, u153, u154, u155, u156, u157, u158, u159, u160, u161, u162, u163, u164, u165, u166, u167, u168, u169, u170, u171, u172, u173, u174, u175, u176, u177, u178, u179, u180, u181, u182, u183, u184, u185, u186, u187, u188, u189, u190, u191, u192, u193, u194], defers := [] } wx := by
  obtain ⟨RS, hRS⟩ : ∃ RS, RS = (secondOf (secondOf (secondOf (secondOf (secondOf (secondOf (secondOf (secondOf (secondOf (secondOf (Ybaf.f3.body.getD .skip))))))))))) := ⟨_, rfl⟩
  obtain ⟨T, hT⟩ : ∃ T, T = (Code.seq (firstOf (secondOf (secondOf (secondOf (secondOf (secondOf (secondOf (secondOf (secondOf (Ybaf.f3.body.getD .skip)))))))))) (Code.seq (firstOf (secondOf (secondOf (secondOf (secondOf (secondOf (secondOf (secondOf (secondOf (secondOf (Ybaf.f3.body.getD .skip))))))))))) RS)) := ⟨_, rfl⟩
  have hE : (secondOf (secondOf (secondOf (secondOf (secondOf (secondOf (secondOf (secondOf (Ybaf.f3.body.getD .skip))))))))) = T := by rw [hT, hRS]; rfl
  rw [hE]
  have HRS : Hid _ := hRS
  clear hE hRS
  dsimp only [Ybaf.f3, Option.getD, secondOf, firstOf] at hT
  subst hT
  dsimp only
  have HALL : Hid (∀ w2, Below wx.heap.size wx w2 → ∀ a3 n3 c3 bs, SrcK w2.heap.size (some g1) w2 (.slice a3 n3 c3) n3 bs → ((nm = 0 ∧ n3 = 0) ∨ n3 = 64) ∧ n3 ≤ 64 → AllB bs → ∀ (u0 u2 u5 u8 u9 u10 u11 u12 u13 u14 u15 u16 u17 u18 u19 u20 u21 u22 u23 u24 u25 u26 u27 u28 u29 u30 u31 u32 u33 u34 u35 u36 u37 u38 u39 u40 u41 u42 u43 u44 u45 u46 u47 u48 u49 u50 u51 u52 u53 u54 u55 u56 u57 u58 u59 u60 u61 u62 u63 u64 u65 u66 u67 u68 u69 u70 u71 u72 u73 u74 u75 u76 u77 u78 u79 u80 u81 u82 u83 u84 u85 u86 u87 u88 u89 u90 u91 u92 u93 u94 u95 u96 u97 u98 u99 u100 u101 u102 u103 u104 u105 u106 u107 u108 u109 u110 u111 u112 u113 u114 u115 u116 u117 u118 u119 u120 u121 u122 u123 u124 u125 u126 u127 u128 u129 u130 u131 u132 u133 u134 u135 u136 u137 u138 u139 u140 u141 u142 u143 u144 u145 u146 u147 u148 u149 u150 u151 u152 u153 u154 u155 u156 u157 u158 u159 u160 u161 u162 u163 u164 u165 u166 u167 u168 u169 u170 u171 u172 u173 u174 u175 u176 u177 u178 u179 u180 u181 u182 u183 u184 u185 u186 u187 u188 u189 u190 u191 u192 u193 u194 : Value), Code.wp Ybaf.prog RS (bodyPost Ybaf.prog Ybaf.f3 fun e w' => e = .returned (.bool true) ∧ Below w0.heap.size w0 w') { tmps := #[u0, .pointer (some ⟨X, 0, none⟩), u2, .slice (some ⟨g1, 0, none⟩) np np, .slice (some ⟨gv, 0, none⟩) ns ns, u5, .slice (some ⟨gm, 0, none⟩) nm nm, .slice a3 n3 c3, u8, u9, u10, u11, u12, u13, u14, u15, u16, u17, u18, u19, u20, u21, u22, u23, u24, u25, u26, u27, u28, u29, u30, u31, u32, u33, u34, u35, u36, u37, u38, u39, u40, u41, u42, u43, u44, u45, u46, u47, u48, u49, u50, u51, u52, u53, u54, u55, u56, u57, u58, u59, u60, u61, u62, u63, u64, u65, u66, u67, u68, u69, u70, u71, u72, u73, u74, u75, u76, u77, u78, u79, u80, u81, u82, u83, u84, u85, u86, u87, u88, u89, u90, u91, u92, u93, u94, u95, u96, u97, u98, u99, u100, u101, u102, u103, u104, u105, u106, u107, u108, u109, u110, u111, u112, u113, u114, u115, u116, u117, u118, u119, u120, u121, u122, u123, u124, u125, u126, u127, u128, u129, u130, u131, u132, u133, u134, u135, u136, u137, u138, u139, u140, u141, u142, u143, u144, u145, u146, u147, u148, u149, u150, u151, u152, u153, u154, u155, u156, u157, u158, u159, u160, u161, u162, u163, u164, u165, u166, u167, u168, u169, u170, u171, u172, u173, u174, u175, u176, u177, u178, u179, u180, u181, u182, u183, u184, u185, u186, u187, u188, u189, u190, u191, u192, u193, u194], defers := [] } w2) := by
    intro w2 hb2 a3 n3 c3 bs h1 h2 h3
    intros
    rw [HRS.out]
    exact pr10 w0 w2 X B0 g1 gv gm rep inst view seed hs blk sa am pa a3 ns cs nm cm np cp n3 c3 V zs zm pre bs ((hp.below hb2).toM h1 h2 h3) (hbel.trans (hb2.mono hbel.size)) hB0 F (by rw [hb2.tape]; exact hF) _ _ _ _ _ _ _ _ _ _ _ _ _ _ _ _ _ _ _ _ _ _ _ _ _ _ _ _ _ _ _ _ _ _ _ _ _ _ _ _ _ _ _ _ _ _ _ _ _ _ _ _ _ _ _ _ _ _ _ _ _ _ _ _ _ _ _ _ _ _ _ _ _ _ _ _ _ _ _ _ _ _ _ _ _ _ _ _ _ _ _ _ _ _ _ _ _ _ _ _ _ _ _ _ _ _ _ _ _ _ _ _ _ _ _ _ _ _ _ _ _ _ _ _ _ _ _ _ _ _ _ _ _ _ _ _ _ _ _ _ _ _ _ _ _ _ _ _ _ _ _ _ _ _ _ _ _ _ _ _ _ _ _ _ _ _ _ _ _ _ _ _ _ _ _ _ _ _ _ _ _ _ _ _ _ _ _ _ _ _
  have HSG : Hid (∀ w2 (s : Int), w2.ownsRow wx.heap.size 5 1 (.slice (some ⟨wx.heap.size, 0, none⟩) 64 64) 64 (sigL s 300) → SrcK w2.heap.size (some g1) w2 (.slice (some ⟨wx.heap.size, 0, none⟩) 64 64) 64 (sigL s 300)) := by
    intro w2 s ho
    have hg1 := hp.pv.pb.g1l
    have hlt := (World.ownsRow.lt ho wx.heap.size rfl).2
    refine .inr ⟨⟨wx.heap.size, 0, none⟩, 64, rfl, sigL_length _ _, fun _ => ⟨hlt, by simp; omega⟩, fun j u hj => ?_, (allBsig _ _).one⟩
    have hjl := lt_of_get hj
    rw [sigL_length] at hjl
    rw [Go.WideShapes.add_plain, Nat.zero_add]
    exact (ho.cellAt j (by omega)).trans hj
  have x5 := hp.pv.pb.inp.x5
  have x7 := hp.pv.pb.inp.x7
  have HLEN : Hid _ := hp.pv.pb.inp.le
  clear hp hF hbel
  cases hs with
  | true =>
    go_wp2_with (go_at_call 5; refine Calls.mono (sig_calls _ _ _) ?_; rintro e w2 ⟨rfl, hso, hb2⟩)
    exact HALL.out w2 hb2 _ _ _ _ (HSG.out w2 _ hso) ⟨.inr rfl, by omega⟩ (allBsig _ _) _ _ _ _ _ _ _ _ _ _ _ _ _ _ _ _ _ _ _ _ _ _ _ _ _ _ _ _ _ _ _ _ _ _ _ _ _ _ _ _ _ _ _ _ _ _ _ _ _ _ _ _ _ _ _ _ _ _ _ _ _ _ _ _ _ _ _ _ _ _ _ _ _ _ _ _ _ _ _ _ _ _ _ _ _ _ _ _ _ _ _ _ _ _ _ _ _ _ _ _ _ _ _ _ _ _ _ _ _ _ _ _ _ _ _ _ _ _ _ _ _ _ _ _ _ _ _ _ _ _ _ _ _ _ _ _ _ _ _ _ _ _ _ _ _ _ _ _ _ _ _ _ _ _ _ _ _ _ _ _ _ _ _ _ _ _ _ _ _ _ _ _ _ _ _ _ _ _ _ _ _ _ _ _ _ _ _ _ _ _
  | false =>
    by_cases hnm : 0 < nm
    · have hnm' : (0 : Int) < (nm : Int) := by omega
      go_wp2_with (go_at_call 5; refine Calls.mono (sig_calls _ _ _) ?_; rintro e w2 ⟨rfl, hso, hb2⟩)
      exact HALL.out w2 hb2 _ _ _ _ (HSG.out w2 _ hso) ⟨.inr rfl, by omega⟩ (allBsig _ _) _ _ _ _ _ _ _ _ _ _ _ _ _ _ _ _ _ _ _ _ _ _ _ _ _ _ _ _ _ _ _ _ _ _ _ _ _ _ _ _ _ _ _ _ _ _ _ _ _ _ _ _ _ _ _ _ _ _ _ _ _ _ _ _ _ _ _ _ _ _ _ _ _ _ _ _ _ _ _ _ _ _ _ _ _ _ _ _ _ _ _ _ _ _ _ _ _ _ _ _ _ _ _ _ _ _ _ _ _ _ _ _ _ _ _ _ _ _ _ _ _ _ _ _ _ _ _ _ _ _ _ _ _ _ _ _ _ _ _ _ _ _ _ _ _ _ _ _ _ _ _ _ _ _ _ _ _ _ _ _ _ _ _ _ _ _ _ _ _ _ _ _ _ _ _ _ _ _ _ _ _ _ _ _ _ _ _ _ _ _
    · have hd : decide ((0 : Int) < (nm : Int)) = false := by simp; omega
      go_wp2
      exact HALL.out _ (Below.refl _ _) none 0 0 [] (.inl ⟨rfl, rfl, rfl⟩) ⟨.inl ⟨by omega, rfl⟩, by omega⟩ (fun u hu => by cases hu) _ _ _ _ _ _ _ _ _ _ _ _ _ _ _ _ _ _ _ _ _ _ _ _ _ _ _ _ _ _ _ _ _ _ _ _ _ _ _ _ _ _ _ _ _ _ _ _ _ _ _ _ _ _ _ _ _ _ _ _ _ _ _ _ _ _ _ _ _ _ _ _ _ _ _ _ _ _ _ _ _ _ _ _ _ _ _ _ _ _ _ _ _ _ _ _ _ _ _ _ _ _ _ _ _ _ _ _ _ _ _ _ _ _ _ _ _ _ _ _ _ _ _ _ _ _ _ _ _ _ _ _ _ _ _ _ _ _ _ _ _ _ _ _ _ _ _ _ _ _ _ _ _ _ _ _ _ _ _ _ _ _ _ _ _ _ _ _ _ _ _ _ _ _ _ _ _ _ _ _ _ _ _ _ _ _ _ _ _ _

set_option maxRecDepth 100000 in
set_option maxHeartbeats 16000000 in
theorem pr6 (w0 wx : World) (X B0 : Nat) (rep inst view seed : Int) (hs : Bool) (blk : List Value) (sa am pa : Option Addr) (ns cs nm cm np cp : Nat) (zs zm : List Int) (pre : List Value) (g1 gv : Nat) (V : List Vt) (hp : PreV wx X B0 rep inst view seed hs blk sa am pa ns cs nm cm np cp zs zm pre g1 gv V) (hbel : Below w0.heap.size w0 wx) (hB0 : w0.heap.size ≤ B0) (F : Interp) (hF : F.answers wx.tape) (hmi : IsRowI wx am nm cm zm) (u0 u2 u5 u6 u7 u8 u9 u10 u11 u12 u13 u14 u15 u16 u17 u18 u19 u20 u21 u22 u23 u24 u25 u26 u27 u28 u29 u30 u31 u32 u33 u34 u35 u36 u37 u38 u39 u40 u41 u42 u43 u44 u45 u46 u47 u48 u49 u50 u51 u52 u53 u54 u55 u56 u57 u58 u59 u60 u61 u62 u63 u64 u65 u66 u67 u68 u69 u70 u71 u72 u73 u74 u75 u76 u77 u78 u79 u80 u81 u82 u83 u84 u85 u86 u87 u88 u89 u90 u91 u92 u93 u94 u95 u96 u97 u98 u99 u100 u101 u102 u103 u104 u105 u106 u107 u108 u109 u110 u111 u112 u113 u114 u115 u116 u117 u118 u119 u120 u121 u122 u123 u124 u125 u126 u127 u128 u129 u130 u131 u132 u133 u134 u135 u136 u137 u138 u139 u140 u141 u142 u143 u144 u145 u146 u147 u148 u149 u150 u151 u152 u153 u154 u155 u156 u157 u158 u159 u160 u161 u162 u163 u164 u165 u166 u167 u168 u169 u170 u171 u172 u173 u174 u175 u176 u177 u178 u179 u180 u181 u182 u183 u184 u185 u186 u187 u188 u189 u190 u191 u192 u193 u194 : Value) :
    Code.wp Ybaf.prog (secondOf (secondOf (secondOf (secondOf (secondOf (secondOf (Ybaf.f3.body.getD .skip))))))) (bodyPost Ybaf.prog Ybaf.f3 fun e w' => e = .returned (.bool true) ∧ Below w0.heap.size w0 w') { tmps := #[u0, .pointer (some ⟨X, 0, none⟩), u2, .slice (some ⟨g1, 0, none⟩) np np, .slice (some ⟨gv, 0, none⟩) ns ns, u5, u6, u7, u8, u9, u10, u11, u12, u13, u14, u15, u16, u17, u18, u19, u20, u21, u22, u23, u24, u25, u26, u27, u28, u29, u30, u31, u32, u33, u34, u35, u36, u37, u38, u39, u40, u41, u42, u43, u44, u45, u46, u47, u48, u49, u50, u51, u52, u53, u54, u55, u56, u57, u58, u59, u60, u61, u62, u63, u64, u65, u66, u67, u68, u69, u70, u71, u72, u73, u74, u75, u76, u77, u78, u79, u80, u81, u82, u83, u84, u85, u86, u87, u88, u89, u90, u91, u92, u93, u94, u95, u96, u97, u98, u99, u100, u101, u102, u103, u104, u105, u106, u107, u108, u109, u110, u111, u112, u113, u114, u115, u116, u117, u118, u119, u120, u121, u122, u123, u124, u125, u126, u127, u128, u129, u130, u131, u132, u133, u134, u135, u136, u137, u138, u139, u140, u141, u142, u143, u144, u145, u146, u147, u148, u149, u150, u151, u152, u153, u154, u155, u156, u157, u158, u159, u160, u161, u162, u163, u164, u165, u166, u167, u168, u169, u170, u171, u172, u173, u174, u175, u176, u177, u178, u179, u180, u181, u182, u183, u184, u185, u186, u187, u188, u189, u190, u191, u192, u193, u194], defers := [] } wx := by
  obtain ⟨RS, hRS⟩ : ∃ RS, RS = (secondOf (secondOf (secondOf (secondOf (secondOf (secondOf (secondOf (secondOf (Ybaf.f3.body.getD .skip))))))))) := ⟨_, rfl⟩
  obtain ⟨T, hT⟩ : ∃ T, T = (Code.seq (firstOf (secondOf (secondOf (secondOf (secondOf (secondOf (secondOf (Ybaf.f3.body.getD .skip)))))))) (Code.seq (firstOf (secondOf (secondOf (secondOf (secondOf (secondOf (secondOf (secondOf (Ybaf.f3.body.getD .skip))))))))) RS)) := ⟨_, rfl⟩
  have hE : (secondOf (secondOf (secondOf (secondOf (secondOf (secondOf (Ybaf.f3.body.getD .skip))))))) = T := by rw [hT, hRS]; rfl
  rw [hE]
  have HRS : Hid _ := hRS
  clear hE hRS
  dsimp only [Ybaf.f3, Option.getD, secondOf, firstOf] at hT
  subst hT
  dsimp only
  have hnm := hp.pb.inp.le.2.1
  have hmk := mk3 nm hnm
  obtain ⟨W2, hcp, ho2, hb2⟩ := ints_copied hmi hnm
  have x6 := hp.pb.inp.x6
  have hX : X < wx.heap.size := by have := hp.pb.inp.lt; have := hp.pb.b0; have := hp.pb.g1l; omega
  have x6a : (wx.alloc (.cells (madeCells #[.int .i64 0] nm) 3)).cell? ⟨X, 37, none⟩ = some (.slice am nm cm) := (World.cell?_alloc_past _ _ _ hX).trans x6
  have HGO : Hid (∀ (u0 u2 u5 u7 u8 u9 u10 u11 u12 u13 u14 u15 u16 u17 u18 u19 u20 u21 u22 u23 u24 u25 u26 u27 u28 u29 u30 u31 u32 u33 u34 u35 u36 u37 u38 u39 u40 u41 u42 u43 u44 u45 u46 u47 u48 u49 u50 u51 u52 u53 u54 u55 u56 u57 u58 u59 u60 u61 u62 u63 u64 u65 u66 u67 u68 u69 u70 u71 u72 u73 u74 u75 u76 u77 u78 u79 u80 u81 u82 u83 u84 u85 u86 u87 u88 u89 u90 u91 u92 u93 u94 u95 u96 u97 u98 u99 u100 u101 u102 u103 u104 u105 u106 u107 u108 u109 u110 u111 u112 u113 u114 u115 u116 u117 u118 u119 u120 u121 u122 u123 u124 u125 u126 u127 u128 u129 u130 u131 u132 u133 u134 u135 u136 u137 u138 u139 u140 u141 u142 u143 u144 u145 u146 u147 u148 u149 u150 u151 u152 u153 u154 u155 u156 u157 u158 u159 u160 u161 u162 u163 u164 u165 u166 u167 u168 u169 u170 u171 u172 u173 u174 u175 u176 u177 u178 u179 u180 u181 u182 u183 u184 u185 u186 u187 u188 u189 u190 u191 u192 u193 u194 : Value), Code.wp Ybaf.prog RS (bodyPost Ybaf.prog Ybaf.f3 fun e w' => e = .returned (.bool true) ∧ Below w0.heap.size w0 w') { tmps := #[u0, .pointer (some ⟨X, 0, none⟩), u2, .slice (some ⟨g1, 0, none⟩) np np, .slice (some ⟨gv, 0, none⟩) ns ns, u5, .slice (some ⟨wx.heap.size, 0, none⟩) nm nm, u7, u8, u9, u10, u11, u12, u13, u14, u15, u16, u17, u18, u19, u20, u21, u22, u23, u24, u25, u26, u27, u28, u29, u30, u31, u32, u33, u34, u35, u36, u37, u38, u39, u40, u41, u42, u43, u44, u45, u46, u47, u48, u49, u50, u51, u52, u53, u54, u55, u56, u57, u58, u59, u60, u61, u62, u63, u64, u65, u66, u67, u68, u69, u70, u71, u72, u73, u74, u75, u76, u77, u78, u79, u80, u81, u82, u83, u84, u85, u86, u87, u88, u89, u90, u91, u92, u93, u94, u95, u96, u97, u98, u99, u100, u101, u102, u103, u104, u105, u106, u107, u108, u109, u110, u111, u112, u113, u114, u115, u116, u117, u118, u119, u120, u121, u122, u123, u124, u125, u126, u127, u128, u129, u130, u131, u132, u133, u134, u135, u136, u137, u138, u139, u140, u141, u142, u143, u144, u145, u146, u147, u148, u149, u150, u151, u152, u153, u154, u155, u156, u157, u158, u159, u160, u161, u162, u163, u164, u165, u166, u167, u168, u169, u170, u171, u172, u173, u174, u175, u176, u177, u178, u179, u180, u181, u182, u183, u184, u185, u186, u187, u188, u189, u190, u191, u192, u193, u194], defers := [] } W2) := by
    intro u0
    intros
    rw [HRS.out]
    have hg1 := hp.pb.g1l
    have hlt := (World.ownsRow.lt ho2 wx.heap.size rfl).2
    refine pr8 w0 W2 X B0 rep inst view seed hs blk sa am pa ns cs nm cm np cp zs zm pre g1 gv wx.heap.size V ⟨hp.below hb2, ⟨hlt, by omega⟩, fun k z hz => ?_⟩ (hbel.trans (hb2.mono hbel.size)) hB0 F (by rw [hb2.tape]; exact hF) _ _ _ _ _ _ _ _ _ _ _ _ _ _ _ _ _ _ _ _ _ _ _ _ _ _ _ _ _ _ _ _ _ _ _ _ _ _ _ _ _ _ _ _ _ _ _ _ _ _ _ _ _ _ _ _ _ _ _ _ _ _ _ _ _ _ _ _ _ _ _ _ _ _ _ _ _ _ _ _ _ _ _ _ _ _ _ _ _ _ _ _ _ _ _ _ _ _ _ _ _ _ _ _ _ _ _ _ _ _ _ _ _ _ _ _ _ _ _ _ _ _ _ _ _ _ _ _ _ _ _ _ _ _ _ _ _ _ _ _ _ _ _ _ _ _ _ _ _ _ _ _ _ _ _ _ _ _ _ _ _ _ _ _ _ _ _ _ _ _ _ _ _ _ _ _ _ _ _ _ _ _ _ _ _ _ _ _ _ _ _
    have hkl := lt_of_get hz
    rw [hp.pb.inp.mis.1] at hkl
    exact (ho2.cellAt k (by omega)).trans (by rw [List.getElem?_map, hz]; rfl)
  clear hp hF hbel hb2 ho2 hmi
  go_wp2
  exact HGO.out _ _ _ _ _ _ _ _ _ _ _ _ _ _ _ _ _ _ _ _ _ _ _ _ _ _ _ _ _ _ _ _ _ _ _ _ _ _ _ _ _ _ _ _ _ _ _ _ _ _ _ _ _ _ _ _ _ _ _ _ _ _ _ _ _ _ _ _ _ _ _ _ _ _ _ _ _ _ _ _ _ _ _ _ _ _ _ _ _ _ _ _ _ _ _ _ _ _ _ _ _ _ _ _ _ _ _ _ _ _ _ _ _ _ _ _ _ _ _ _ _ _ _ _ _ _ _ _ _ _ _ _ _ _ _ _ _ _ _ _ _ _ _ _ _ _ _ _ _ _ _ _ _ _ _ _ _ _ _ _ _ _ _ _ _ _ _ _ _ _ _ _ _ _ _ _ _ _ _ _ _ _ _ _ _ _ _ _ _ _ _

end Go.Proofs.YbulkawzkFmt
