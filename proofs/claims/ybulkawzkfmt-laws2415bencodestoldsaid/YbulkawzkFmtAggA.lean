import Derived.Test.YbulkawzkFmtEncC
import Derived.Lib.AppendZeros
namespace Go.Proofs.YbulkawzkFmt
open Go.RowKit Go.Extern.Stop Go.Stop Go.Extern
set_option linter.unusedVariables false

/-- The aggregate in memory, out of the buffer's way. -/
structure Mc (w : World) (B : Nat) (r : Option Nat) (M : Nat) (rep inst view : Int) (blk : List Value) (a a2 a3 : Option Addr) (n c n2 c2 n3 c3 : Nat) (V : List Vt) (zs : List Int) (bs : List Value) : Prop where
  lt : M < B
  ne : some M ≠ r
  m0 : w.cell? ⟨M, 0, none⟩ = some (.int .i64 rep)
  m1 : w.cell? ⟨M, 1, none⟩ = some (.int .i64 inst)
  m2 : w.cell? ⟨M, 2, none⟩ = some (.int .u64 view)
  mb : ∀ j u, blk[j]? = some u → w.cell? ⟨M, 3 + j, none⟩ = some u
  m4 : w.cell? ⟨M, 35, none⟩ = some (.slice a n c)
  m5 : w.cell? ⟨M, 36, none⟩ = some (.slice a2 n2 c2)
  m6 : w.cell? ⟨M, 37, none⟩ = some (.slice a3 n3 c3)
  votes : Votes B r w a n V
  nle : n ≤ 256
  miss : ∀ k z, zs[k]? = some z → ∃ g, a2 = some ⟨g, 0, none⟩ ∧ g < B ∧ some g ≠ r ∧ g < w.heap.size ∧ w.cell? ⟨g, k, none⟩ = some (.int .i64 z)
  zlen : zs.length = n2
  n2le : n2 ≤ 1024
  sig : SrcK B r w (.slice a3 n3 c3) n3 bs
  n3le : n3 ≤ 64
  vw : 0 ≤ view ∧ view < 18446744073709551616
  bl : blk.length = 32
  b1 : ∀ u ∈ blk, u.oneCell' = true
theorem Mc.kept {w w' : World} {B : Nat} {r : Option Nat} {M : Nat} {rep inst view : Int} {blk : List Value} {a a2 a3 : Option Addr} {n c n2 c2 n3 c3 : Nat} {V : List Vt} {zs : List Int} {bs : List Value} (h : Mc w B r M rep inst view blk a a2 a3 n c n2 c2 n3 c3 V zs bs) (hk : Kept B r w w') : Mc w' B r M rep inst view blk a a2 a3 n c n2 c2 n3 c3 V zs bs := by
  have kc : ∀ j, w'.cell? ⟨M, j, none⟩ = w.cell? ⟨M, j, none⟩ := fun j => hk.cell (p := ⟨M, j, none⟩) h.lt h.ne
  refine ⟨h.lt, h.ne, (kc _).trans h.m0, (kc _).trans h.m1, (kc _).trans h.m2, fun j u hj => (kc _).trans (h.mb j u hj), (kc _).trans h.m4, (kc _).trans h.m5, (kc _).trans h.m6, h.votes.kept hk, h.nle, fun k z hz => ?_, h.zlen, h.n2le, h.sig.kept hk, h.n3le, h.vw, h.bl, h.b1⟩
  obtain ⟨g, e1, e2, e3, e4, e5⟩ := h.miss k z hz
  exact ⟨g, e1, e2, e3, Nat.lt_of_lt_of_le e4 hk.size, (hk.cell (p := ⟨g, k, none⟩) e2 e3).trans e5⟩
theorem Buf.drewN {B : Nat} {r : Option Nat} {w : World} {v : Value} {n : Nat} {xs : List Value} (h : Buf B r w v n xs) (q : Nat) : Buf B r (w.drewN q) v n xs := ⟨own_val h.own (fun _ _ => rfl), h.ob⟩
def encI (zs : List Int) : List Value := zs.flatMap fun z => be64 (IntKind.u64.wrap z)
theorem encI_take {zs : List Int} {k : Nat} {z : Int} (h : zs[k]? = some z) : encI (zs.take (k + 1)) = encI (zs.take k) ++ be64 (IntKind.u64.wrap z) := by
  rw [List.take_add_one, h]
  simp [encI]

set_option maxRecDepth 100000 in
set_option maxHeartbeats 16000000 in
theorem ag9 (w0 wx : World) (B : Nat) (r : Option Nat) (M : Nat) (rep inst view : Int) (blk : List Value) (a a2 a3 : Option Addr) (n c n2 c2 n3 c3 : Nat) (V : List Vt) (zs : List Int) (bs : List Value) (XS : List Value) (NN : Nat) (hNN : NN ≤ 1024) (hm : Mc wx B r M rep inst view blk a a2 a3 n c n2 c2 n3 c3 V zs bs) (hB : B ≤ wx.heap.size) (hk0 : Kept B r w0 wx) (ab : Option Addr) (nb cb : Nat) (hnb : nb = NN + 8 + 48 + (4 + n * 72) + 4 + n2 * 8 + 4) (hbuf : Buf B r wx (.slice ab nb cb) nb (XS ++ be64 (IntKind.u64.wrap rep) ++ (be64 (IntKind.u64.wrap inst) ++ be64 view ++ blk) ++ (be32 n ++ encV V) ++ be32 n2 ++ encI zs ++ be32 n3)) (u2 u3 u4 u5 u6 u7 u8 u9 u10 u11 u12 u13 u14 u15 u16 u17 u18 u19 u20 u21 u22 u23 u24 u25 u26 u27 u28 u29 u30 u31 u32 u33 u34 u35 u36 u37 u38 u39 u40 u41 u42 u43 u44 u45 u46 u47 u48 u49 u50 u51 u52 u53 u54 u55 u56 u57 u58 u59 u60 u61 u62 u63 u64 u65 u66 u67 u68 u69 u70 u71 u72 u73 u74 u75 u76 u77 u78 u79 u80 u81 u82 u83 u84 u85 u86 u87 u88 u89 u90 u91 u92 u93 u94 u95 u96 u97 u98 u99 u100 u101 u102 u103 u104 u105 u106 u107 u108 : Value) :
    Code.wp Ybaf.prog (secondOf (secondOf (secondOf (secondOf (secondOf (secondOf (secondOf (secondOf (secondOf (Ybaf.f6.body.getD .skip)))))))))) (bodyPost Ybaf.prog Ybaf.f6 fun e w' => ∃ v', e = .returned (.tuple #[v', .nilIface]) ∧ Buf B r w' v' ((NN + 8 + 48 + (4 + n * 72) + 4 + n2 * 8 + 4 + n3)) ((XS ++ be64 (IntKind.u64.wrap rep) ++ (be64 (IntKind.u64.wrap inst) ++ be64 view ++ blk) ++ (be32 n ++ encV V) ++ be32 n2 ++ encI zs ++ be32 n3 ++ bs)) ∧ Kept B r w0 w') { tmps := #[.slice ab nb cb, .pointer (some ⟨M, 0, none⟩), u2, u3, u4, u5, u6, u7, u8, u9, u10, u11, u12, u13, u14, u15, u16, u17, u18, u19, u20, u21, u22, u23, u24, u25, u26, u27, u28, u29, u30, u31, u32, u33, u34, u35, u36, u37, u38, u39, u40, u41, u42, u43, u44, u45, u46, u47, u48, u49, u50, u51, u52, u53, u54, u55, u56, u57, u58, u59, u60, u61, u62, u63, u64, u65, u66, u67, u68, u69, u70, u71, u72, u73, u74, u75, u76, u77, u78, u79, u80, u81, u82, u83, u84, u85, u86, u87, u88, u89, u90, u91, u92, u93, u94, u95, u96, u97, u98, u99, u100, u101, u102, u103, u104, u105, u106, u107, u108], defers := [] } wx := by
  obtain ⟨T, hT⟩ : ∃ T, T = (secondOf (secondOf (secondOf (secondOf (secondOf (secondOf (secondOf (secondOf (secondOf (Ybaf.f6.body.getD .skip)))))))))) := ⟨_, rfl⟩
  rw [← hT]
  dsimp only [Ybaf.f6, Option.getD, secondOf, firstOf] at hT
  subst hT
  dsimp only
  obtain ⟨v3, w3, hr, hb3, hk3⟩ := buf_append hbuf hB hm.sig.src (by have := hm.nle; have := hm.n2le; have := hm.n3le; omega)
  have hsig := hm.m6
  have HB : Hid _ := hb3
  have HK : Hid _ := hk0.trans hk3
  have HN : Hid _ := hnb
  clear hb3 hk3 hm hk0 hbuf hnb
  go_wp2_with (at_builtin; refine Lib.wpList_append_run _ rfl _ _ _ _ rfl _ _ rfl rfl v3 w3 hr ?_)
  go_ret2
  refine ⟨v3, rfl, ?_, HK.out⟩
  have := HB.out
  rw [HN.out] at this
  exact this

end Go.Proofs.YbulkawzkFmt
