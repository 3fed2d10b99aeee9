/-
  WHAT fmt IS ASKED on this road, and how long the told texts of the two inner formats are.
-/
import Derived.Test.Qxb6614869aFmtFacts
import Derived.Stop.FmtTextKit
import Derived.Stop.FmtTextVerbs
import Derived.Stop.FmtTextWidths
import Derived.Stop.Texts
import Derived.Stop.Told
import Derived.RowKit
namespace Go.Proofs.Qxb6614869aFmt
open Go.RowKit Go.Extern.Stop Go.Stop Go.Extern Go.Kit

/-- the reason and the formats, as bytes -/
def bTrunc : ByteArray := ⟨#[116, 114, 117, 110, 99, 97, 116, 101, 100]⟩
def bBad : ByteArray := ⟨#[98, 97, 100, 45, 109, 97, 112, 112, 105, 110, 103]⟩

def rdNeed (n o h : Int) : List (List UInt8) :=
  [[110, 101, 101, 100, 32, 37, 100, 32, 98, 121, 116, 101, 115, 32, 97, 116, 32, 111, 102, 102, 115, 101, 116, 32, 37, 100, 44, 32, 104, 97, 118, 101, 32, 37, 100], Tryf.shape3, digits 8 (n % 18446744073709551616).toNat, Tryf.shape3, digits 8 (o % 18446744073709551616).toNat, Tryf.shape3, digits 8 (h % 18446744073709551616).toNat]
def rdByte (b c : Int) : List (List UInt8) :=
  [[98, 121, 116, 101, 32, 48, 120, 37, 48, 50, 120, 32, 119, 104, 101, 114, 101, 32, 37, 113, 32, 98, 101, 108, 111, 110, 103, 115], Tryf.shape5, digits 8 (b % 18446744073709551616).toNat, Tryf.shape5, digits 8 (c % 18446744073709551616).toNat]

theorem parseNeed : (FmtText.parse [110, 101, 101, 100, 32, 37, 100, 32, 98, 121, 116, 101, 115, 32, 97, 116, 32, 111, 102, 102, 115, 101, 116, 32, 37, 100, 44, 32, 104, 97, 118, 101, 32, 37, 100]).map FmtText.glue = some [.lit [110, 101, 101, 100, 32], .verb {} 100, .lit [32, 98, 121, 116, 101, 115, 32, 97, 116, 32, 111, 102, 102, 115, 101, 116, 32], .verb {} 100, .lit [44, 32, 104, 97, 118, 101, 32], .verb {} 100] := by rfl
theorem parseByte : (FmtText.parse [98, 121, 116, 101, 32, 48, 120, 37, 48, 50, 120, 32, 119, 104, 101, 114, 101, 32, 37, 113, 32, 98, 101, 108, 111, 110, 103, 115]).map FmtText.glue = some [.lit [98, 121, 116, 101, 32, 48, 120], .verb { widPresent := true, wid := 2, zero := true } 120, .lit [32, 119, 104, 101, 114, 101, 32], .verb {} 113, .lit [32, 98, 101, 108, 111, 110, 103, 115]] := by rfl

theorem textNeed (n o h : Int) (wn : (Lit.int .i64 n).wf = true) (wo : (Lit.int .i64 o).wf = true) (wh : (Lit.int .i64 h).wf = true) :
    ∃ t, FmtText.text "fmt.Sprintf" (rdNeed n o h) = some t ∧ t.length ≤ 200 := by
  have h1 := FmtText.operand_int_at (sh := Tryf.shape3) (k := .i64) rfl rfl n wn
  have h2 := FmtText.operand_int_at (sh := Tryf.shape3) (k := .i64) rfl rfl o wo
  have h3 := FmtText.operand_int_at (sh := Tryf.shape3) (k := .i64) rfl rfl h wh
  refine ⟨[110, 101, 101, 100, 32] ++ (Lib.itoa n ++ ([32, 98, 121, 116, 101, 115, 32, 97, 116, 32, 111, 102, 102, 115, 101, 116, 32] ++ (Lib.itoa o ++ ([44, 32, 104, 97, 118, 101, 32] ++ Lib.itoa h)))), ?_, ?_⟩
  · rw [rdNeed, FmtText.text_sprintf_glued parseNeed (FmtText.operands_cons h1 (FmtText.operands_cons h2 (FmtText.operands_cons h3 FmtText.operands_nil)))]
    simp [FmtText.render, FmtText.printArg_d _ _ wn, FmtText.printArg_d _ _ wo, FmtText.printArg_d _ _ wh]
  · have e1 := FmtText.itoa_length_le wn
    have e2 := FmtText.itoa_length_le wo
    have e3 := FmtText.itoa_length_le wh
    simp
    omega

theorem quoteShort : ∀ u : Fin 256, (FmtText.quoteRune false u.val).length ≤ 16 := by decide +kernel

theorem textByte (b c : Int) (b0 : 0 ≤ b) (b1 : b < 256) (c0 : 0 ≤ c) (c1 : c < 256) :
    ∃ t, FmtText.text "fmt.Sprintf" (rdByte b c) = some t ∧ t.length ≤ 200 := by
  have wb : (Lit.int .u8 b).wf = true := by simp [Lit.wf, IntKind.min, IntKind.max, IntKind.signed, IntKind.bits]; omega
  have wc : (Lit.int .u8 c).wf = true := by simp [Lit.wf, IntKind.min, IntKind.max, IntKind.signed, IntKind.bits]; omega
  have h1 := FmtText.operand_int_at (sh := Tryf.shape5) (k := .u8) rfl rfl b wb
  have h2 := FmtText.operand_int_at (sh := Tryf.shape5) (k := .u8) rfl rfl c wc
  have ec : (c % 18446744073709551616).toNat = c.toNat := by omega
  have eb : (b % 18446744073709551616).toNat = b.toNat := by omega
  have hq := FmtText.printArg_q_int false (name := [117, 105, 110, 116, 56]) (sg := false) (u := c.toNat) (by omega)
  have hx := FmtText.printArg_02x_byte false (name := [117, 105, 110, 116, 56]) b b0 b1
  have hl := quoteShort ⟨c.toNat, by omega⟩
  have h1' : FmtText.operand Tryf.shape5 (digits 8 (b % 18446744073709551616).toNat) = some (.int [117, 105, 110, 116, 56] false (b % 18446744073709551616).toNat) := h1
  have h2' : FmtText.operand Tryf.shape5 (digits 8 (c % 18446744073709551616).toNat) = some (.int [117, 105, 110, 116, 56] false c.toNat) := h2.trans (congrArg (fun u => some (FmtText.Operand.int [117, 105, 110, 116, 56] false u)) ec)
  refine ⟨[98, 121, 116, 101, 32, 48, 120] ++ ([FmtText.digit false (b.toNat / 16), FmtText.digit false (b.toNat % 16)] ++ ([32, 119, 104, 101, 114, 101, 32] ++ (FmtText.quoteRune false c.toNat ++ [32, 98, 101, 108, 111, 110, 103, 115]))), ?_, ?_⟩
  · rw [rdByte, FmtText.text_sprintf_glued parseByte (FmtText.operands_cons h1' (FmtText.operands_cons h2' FmtText.operands_nil))]
    simp [FmtText.render, hq, hx]
  · simp at hl ⊢
    omega

end Go.Proofs.Qxb6614869aFmt
