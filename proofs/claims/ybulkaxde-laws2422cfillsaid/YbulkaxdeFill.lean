import Derived.Test.YbulkaxdeLone
import Derived.ProofKit
import Derived.Deep.DeepCutAuto
namespace Go.Proofs.Ybulkaxde
open Go.Conc Go.RowKit
set_option linter.unusedVariables false

def secondOf : Code → Code
  | .seq _ b => b
  | c => c
def firstOf : Code → Code
  | .seq a _ => a
  | c => c
def insideOf : Code → Code
  | .block _ a => a
  | c => c
def onceOf : Code → Code
  | .loop a => a
  | c => c

set_option maxRecDepth 100000 in
set_option maxHeartbeats 4000000 in
/-- What comes behind the first loop. -/
theorem fill_rest (C p t c s : Nat) (buf : Array Value) (w w0 : World) (hC : C < 256) (hp : p ≤ C) (ht : t < 256) (hcw : c = w.heap.size) (hb : Below w.heap.size w w0) (hc0 : w0.heap[c]? = some (.chan C buf false s 0 false)) (hbs : buf.size = p) (u0 u1 u2 u3 u4 u5 u6 u11 u12 u13 u14 u15 u16 u17 u18 u19 u20 u21 u22 u23 u24 u25 u26 u27 u28 u29 u30 u31 u32 u33 u34 u35 u36 u37 u38 u39 u40 u41 u42 u43 u44 u45 u46 u47 u48 u49 u50 u51 u52 u53 u54 u55 u56 u57 u58 u59 u60 u61 u62 u63 u64 u65 u66 u67 u68 u69 u70 u71 u72 u73 u74 u75 u76 u77 u78 : Value) :
    Code.wp Yba.prog (secondOf (secondOf (secondOf (secondOf (secondOf (secondOf (Yba.f3.body.getD .skip))))))) (bodyPost Yba.prog Yba.f3 fun e w' => e = .returned (.bool true) ∧ Below w.heap.size w w') { tmps := #[u0, u1, u2, u3, u4, u5, u6, .int .i64 C, .int .i64 p, .int .i64 t, .chan (some c), u11, u12, u13, u14, u15, u16, u17, u18, u19, u20, u21, u22, u23, u24, u25, u26, u27, u28, u29, u30, u31, u32, u33, u34, u35, u36, u37, u38, u39, u40, u41, u42, u43, u44, u45, u46, u47, u48, u49, u50, u51, u52, u53, u54, u55, u56, u57, u58, u59, u60, u61, u62, u63, u64, u65, u66, u67, u68, u69, u70, u71, u72, u73, u74, u75, u76, u77, u78], defers := [] } w0 := by
  obtain ⟨T, hT⟩ : ∃ T, T = (secondOf (secondOf (secondOf (secondOf (secondOf (secondOf (Yba.f3.body.getD .skip))))))) := ⟨_, rfl⟩
  rw [← hT]
  dsimp only [Yba.f3, Option.getD, secondOf] at hT
  subst hT
  have HCW : Hid _ := hcw
  have HBS : Hid _ := hbs
  clear hcw hbs
  go_wp2
  go_loopw [12, 13] (fun k i wr => ∃ (n m : Nat) (bu : Array Value) (s' : Nat), n ≤ t ∧ i = .int .i64 n ∧ k = .int .i64 m ∧ m = min n (C - p) ∧ bu.size = p + m ∧ wr.heap[c]? = some (.chan C bu false s' 0 false) ∧ Below w.heap.size w wr) (fun _ i _ => t - (intOf i).toNat)
  case atStart => exact ⟨0, 0, buf, s, by omega, rfl, rfl, by omega, by have := HBS.out; omega, hc0, hb⟩
  case round =>
    obtain ⟨n, m, bu, s', hn, rfl, rfl, hm, hbu, hc, hbr⟩ := hrel
    have hmC : m < 256 := by omega
    have HM : Hid _ := hm
    have HBU : Hid _ := hbu
    clear hm hbu
    have hlen : ∀ ty, (Builtin.len_ #[22] ty #[.chan (some c)]).run Yba.prog wr = .ok (goInt bu.size) wr := fun ty => run_len_chan (P := Yba.prog) 22 ty Yba.underlying22 hc
    have hcl : c < wr.heap.size := (Array.getElem?_eq_some_iff.1 hc).1
    by_cases hnt : n < t
    · have hnt' : (n : Int) < (t : Int) := by omega
      by_cases hr : bu.size < C
      · have hr' : (bu.size : Int) < (C : Int) := by omega
        have HC : Hid _ := take_room c C s' 0 bu wr hc hr
        have HF : Hid _ := hc
        have hc2 := heap_setChan wr c C (bu.push (.agg #[])) false (s' + 1) 0 false hcl
        have HF2 : Hid _ := hc2
        have HBr : Hid _ := below_setChan hbr (Nat.le_of_eq HCW.out.symm) C (bu.push (.agg #[])) false (s' + 1) 0 false
        generalize hW : wr.setChan c C (bu.push (.agg #[])) false (s' + 1) 0 false = W2 at hc2 HC HF2 HBr
        have hlen2 : ∀ ty, (Builtin.len_ #[22] ty #[.chan (some c)]).run Yba.prog W2 = .ok (goInt ((bu.size : Int) + 1)) W2 := fun ty => by
          rw [run_len_chan (P := Yba.prog) 22 ty Yba.underlying22 hc2]; simp
        clear hc hc2 hbr hW
        go_wp2_with fail
        refine Calls.mono (Hid.out HC) ?_
        rintro e w2 ⟨rfl, rfl⟩
        go_wp2
        go_roundw
        case rel => exact ⟨n + 1, m + 1, _, s' + 1, by omega, by go_num, by go_num, by have := HM.out; have := HBU.out; omega, by have := HBU.out; simp; omega, HF2.out, HBr.out⟩
        case measure => simp [intOf]; omega
      · have hr' : ¬ (bu.size : Int) < (C : Int) := by omega
        have hd : decide ((bu.size : Int) < (C : Int)) = false := by simpa using hr'
        have HC : Hid _ := take_full c C s' 0 bu wr hc (by omega)
        have HF : Hid _ := hc
        have HBr : Hid _ := hbr
        clear hc hbr
        go_wp2_with fail
        refine Calls.mono (Hid.out HC) ?_
        rintro e w2 ⟨rfl, rfl⟩
        go_wp2
        go_roundw
        case rel => exact ⟨n + 1, m, bu, s', by omega, by go_num, rfl, by have := HM.out; have := HBU.out; omega, HBU.out, HF.out, HBr.out⟩
        case measure => simp [intOf]; omega
    · have hnt' : n = t := by omega
      subst hnt'
      have hd : decide ((n : Int) < (n : Int)) = false := by simp
      have HBr : Hid _ := hbr
      have hsz : (bu.size : Int) = (p : Int) + (m : Int) := by have := HBU.out; omega
      rw [hsz] at hlen
      clear hbr hc
      have hmn : (m : Int) = if (n : Int) < (C : Int) - (p : Int) then (n : Int) else (C : Int) - (p : Int) := by have := HM.out; split <;> omega
      by_cases hw : (n : Int) < (C : Int) - (p : Int)
      · rw [if_pos hw] at hmn
        have : m = n := by omega
        subst this
        clear hmn hsz
        go_wp2
        go_ret
        exact ⟨by simp, HBr.out⟩
      · rw [if_neg hw] at hmn
        have hdw : decide ((n : Int) < (C : Int) - (p : Int)) = false := by simpa using hw
        have heq : ((m : Int) == (C : Int) - (p : Int)) = true := by rw [hmn]; simp
        clear hmn hsz
        go_wp2
        go_ret
        exact ⟨by simp, HBr.out⟩
end Go.Proofs.Ybulkaxde
