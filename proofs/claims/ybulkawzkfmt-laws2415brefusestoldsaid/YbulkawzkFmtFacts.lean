import Derived.Test.YbulkawzkFmtRows
import Derived.Stop.CallBack
import Derived.Stop.IfaceNil
import GoSem.ClaimData
import Derived.WalkKit
import Derived.Below
namespace Go.Proofs.YbulkawzkFmt
open Go.RowKit Go.Extern.Stop Go.Stop Go.Extern
set_option linter.unusedVariables false

theorem call17 (args : Array Value) (w : World) : (callFunc 17 args).run Ybaf.prog w = ((FmtStop.errorf #[9, 56] #[37] args).run Ybaf.prog w).andThen fun v w' => .ok (.value v) w' :=
  run_callFunc_extern Ybaf.func17 (by kernel_rfl) (by kernel_rfl) (by kernel_rfl) (by kernel_rfl) args w
theorem guard (name : String) (w : World) : (FmtStop.guard name).run Ybaf.prog w = .ok () w := by kernel_rfl
theorem fmt0 : FmtStop.printed? ⟨#[97, 32, 115, 105, 103, 110, 97, 116, 117, 114, 101, 32, 111, 102, 32, 37, 100, 32, 98, 121, 116, 101, 115, 44, 32, 110, 111, 116, 32, 37, 100]⟩ 2 = some [(0, 100, false), (1, 100, false)] := by kernel_rfl
theorem fmt0r (w : World) : (FmtDoors.printed ⟨#[97, 32, 115, 105, 103, 110, 97, 116, 117, 114, 101, 32, 111, 102, 32, 37, 100, 32, 98, 121, 116, 101, 115, 44, 32, 110, 111, 116, 32, 37, 100]⟩ 2).run Ybaf.prog w = .ok [(0, 100, false), (1, 100, false)] w := by kernel_rfl
def shape3 : List UInt8 := [5, 3, 0, 0, 0, 0, 0, 0, 0, 105, 110, 116]
theorem op3_100 (name : String) (x : Int) (w : World) : (FmtStop.operand name false 100 false (.iface 3 (.int .i64 x))).run Ybaf.prog w = .ok (shape3, Go.Extern.Stop.digits 8 (x % 2 ^ 64).toNat) w := by kernel_rfl
theorem op3_100w (name : String) (x : Int) (w : World) : (FmtStop.operand name true 100 false (.iface 3 (.int .i64 x))).run Ybaf.prog w = .ok (shape3, Go.Extern.Stop.digits 8 (x % 2 ^ 64).toNat) w := by kernel_rfl
theorem strict3 (name : String) (x : Int) (w : World) : (FmtStop.strict name (.iface 3 (.int .i64 x))).run Ybaf.prog w = .ok (shape3, Go.Extern.Stop.digits 8 (x % 2 ^ 64).toNat) w := by kernel_rfl
theorem ptr59 (w : World) : (FmtStop.ptrTo "errors.errorString").run Ybaf.prog w = .ok 59 w := by kernel_rfl
theorem elem59 (w : World) : (elemOf 59).run Ybaf.prog w = .ok 61 w := by kernel_rfl

attribute [local go_sem] call17 guard fmt0 fmt0r op3_100 op3_100w strict3 ptr59 elem59

theorem errorf_calls (F : Interp) (i j : Int) (g : Nat) (w : World) (hF : F.answers w.tape) (h0 : w.cell? ⟨g, 0, none⟩ = some (.iface 3 (.int .i64 i))) (h1 : w.cell? ⟨g, 1, none⟩ = some (.iface 3 (.int .i64 j))) :
    Calls Ybaf.prog 15 #[.string ⟨#[97, 32, 115, 105, 103, 110, 97, 116, 117, 114, 101, 32, 111, 102, 32, 37, 100, 32, 98, 121, 116, 101, 115, 44, 32, 110, 111, 116, 32, 37, 100]⟩, .slice (some ⟨g, 0, none⟩) 2 2] w fun e w' => ∃ p, e = .returned (.iface 59 (.pointer (some p))) ∧ Below w.heap.size w w' := by
  have hF' := hF
  unfold Interp.answers at hF'
  go_enter Ybaf.func15, Ybaf.ntmps15
  go_wp2
  go_ret
  exact ⟨_, rfl, ((Below.refl _ _).alloc (Nat.le_refl _) _).drew⟩

/-! ### rows of signatures -/
structure Sg where
  who : Int
  ad : Option Addr
  len : Nat
  cap : Nat
def Sg.cells (e : Sg) : List Value := [.int .i64 e.who, .slice e.ad e.len e.cap]
def flat2 (E : List Sg) : List Value := E.flatMap Sg.cells
def RowS (w : World) (a : Option Addr) (n : Nat) (E : List Sg) : Prop := ∀ k e, E[k]? = some e → ∃ g, a = some ⟨g, 0, none⟩ ∧ g < w.heap.size ∧ k < n ∧ w.cell? ⟨g, k * 2, none⟩ = some (.int .i64 e.who) ∧ w.cell? ⟨g, k * 2 + 1, none⟩ = some (.slice e.ad e.len e.cap)
theorem RowS.below {w wr : World} {a : Option Addr} {n : Nat} {E : List Sg} (h : RowS w a n E) (hb : Below w.heap.size w wr) : RowS wr a n E := fun k b hk => by
  obtain ⟨g, e1, e2, e3, e4, e5⟩ := h k b hk
  exact ⟨g, e1, Nat.lt_of_lt_of_le e2 hb.size, e3, (hb.cell (p := ⟨g, k * 2, none⟩) e2).trans e4, (hb.cell (p := ⟨g, k * 2 + 1, none⟩) e2).trans e5⟩

/-- What checkSignatures answers. -/
def Checked (E : List Sg) (v : Value) : Prop := (v = .nilIface ∧ ∀ e ∈ E, e.len = 64) ∨ ((∃ p, v = .iface 59 (.pointer (some p))) ∧ ∃ e ∈ E, e.len ≠ 64)

set_option maxRecDepth 100000 in
set_option maxHeartbeats 4000000 in
theorem check_calls (F : Interp) (E : List Sg) (n c : Nat) (a : Option Addr) (w : World) (hF : F.answers w.tape) (hn : E.length = n) (hm : n ≤ 1000) (hr : RowS w a n E) :
    Calls Ybaf.prog 10 #[.slice a n c] w fun e w' => ∃ v, e = .returned v ∧ Checked E v ∧ Below w.heap.size w w' := by
  have HR : Hid _ := hr
  have HN : Hid _ := hn
  have HF : Hid _ := hF
  clear hr hn hF
  go_enter Ybaf.func10, Ybaf.ntmps10
  go_wp2
  go_loopw [7] (fun i wr => ∃ k : Nat, k ≤ n ∧ i = .int .i64 k ∧ (∀ x, x < k → ∀ e, E[x]? = some e → e.len = 64) ∧ Below w.heap.size w wr) (fun i _ => n - (intOf i).toNat)
  case atStart => exact ⟨0, by omega, rfl, fun x hx => by omega, Below.refl _ _⟩
  case round =>
    obtain ⟨k, hk, rfl, hall, hbr⟩ := hrel
    by_cases hkn : k < n
    · have hkn' : (k : Int) < (n : Int) := by omega
      obtain ⟨e, hE⟩ : ∃ e, E[k]? = some e := ⟨_, List.getElem?_eq_getElem (by rw [HN.out]; exact hkn)⟩
      obtain ⟨g, rfl, hgl, _, c0, c1⟩ := RowS.below HR.out hbr k e hE
      obtain ⟨who, ad, len, cap⟩ := e
      have HE : Hid _ := hE
      have HALL : Hid _ := hall
      have HBR : Hid _ := hbr
      by_cases hl : len = 64
      · have hl' : ((len : Int) != 64) = false := by rw [hl]; rfl
        have HL : Hid _ := hl
        clear hE hall hbr hl
        go_wp2
        go_roundw
        case rel =>
          refine ⟨k + 1, by omega, by go_num, fun x hx e he => ?_, HBR.out.alloc HBR.out.size _⟩
          by_cases hxk : x = k
          · subst hxk
            have := HE.out.symm.trans he
            cases this
            exact HL.out
          · exact HALL.out x (by omega) e he
        case measure => simp [intOf]; omega
      · have hl' : ((len : Int) != 64) = true := by simp; omega
        have HL : Hid _ := hl
        have hb2 : ∀ o1 o2, Below w.heap.size w ((wr.alloc o1).alloc o2) := fun o1 o2 => (hbr.alloc hbr.size o1).alloc (by have := hbr.size; simp; omega) o2
        have HC : Hid (∀ o1, Calls Ybaf.prog 15 #[.string ⟨#[97, 32, 115, 105, 103, 110, 97, 116, 117, 114, 101, 32, 111, 102, 32, 37, 100, 32, 98, 121, 116, 101, 115, 44, 32, 110, 111, 116, 32, 37, 100]⟩, .slice (some ⟨wr.heap.size + 1, 0, none⟩) 2 2] ((wr.alloc o1).alloc (.cells #[.iface 3 (.int .i64 len), .iface 3 (.int .i64 64)] 20)) fun e w' => ∃ p, e = .returned (.iface 59 (.pointer (some p))) ∧ Below w.heap.size w w') := by
          intro o1
          have h0 : ((wr.alloc o1).alloc (.cells #[.iface 3 (.int .i64 len), .iface 3 (.int .i64 64)] 20)).cell? ⟨wr.heap.size + 1, 0, none⟩ = some (.iface 3 (.int .i64 len)) := by rw [World.cell?_alloc_at _ _ _ _ (by simp)]; rfl
          have h1 : ((wr.alloc o1).alloc (.cells #[.iface 3 (.int .i64 len), .iface 3 (.int .i64 64)] 20)).cell? ⟨wr.heap.size + 1, 1, none⟩ = some (.iface 3 (.int .i64 64)) := by rw [World.cell?_alloc_at _ _ _ _ (by simp)]; rfl
          refine (errorf_calls F len 64 (wr.heap.size + 1) _ ?_ h0 h1).mono ?_
          · show F.answers wr.tape
            rw [hbr.tape]
            exact HF.out
          · rintro e w' ⟨p, rfl, hb⟩
            exact ⟨p, rfl, (hb2 _ _).trans (hb.mono (hb2 _ _).size)⟩
        clear hE hall hbr hl hb2
        go_wp2_with (go_at_call 15; refine Calls.mono (HC.out _) ?_; rintro e w' ⟨p, rfl, hb⟩)
        go_ret
        exact ⟨_, rfl, .inr ⟨⟨p, rfl⟩, _, List.mem_of_getElem? HE.out, HL.out⟩, hb⟩
    · have hkn' : k = n := by omega
      subst hkn'
      have hd : decide ((k : Int) < (k : Int)) = false := by simp
      have HALL : Hid _ := hall
      have HBR : Hid _ := hbr
      clear hall hbr
      go_wp2
      go_ret
      refine ⟨_, rfl, .inl ⟨rfl, fun e he => ?_⟩, HBR.out⟩
      obtain ⟨x, hx⟩ := List.mem_iff_getElem?.1 he
      have : x < E.length := by
        rcases Nat.lt_or_ge x E.length with h | h
        · exact h
        · rw [List.getElem?_eq_none h] at hx; cases hx
      exact HALL.out x (by rw [← HN.out]; exact this) e hx
end Go.Proofs.YbulkawzkFmt
