/-
  fmt.Sprintf at its one format: what the stop is asked, and how long the told text is.
-/
import Derived.Test.Qxb6614633aFmtProg
import Derived.Stop.CallBack
import Derived.Stop.IfaceNil
import Derived.Stop.FmtTextLaws
import Derived.Stop.JoinedTold
import Derived.Stop.FmtTextKit
import Derived.Stop.Texts
import GoSem.ClaimData
import Derived.WalkKit
import Derived.WalkSpells
namespace Go.Proofs.Qxb6614633aFmt
open Go.Extern.Stop Go.Stop Go.Extern Go.Kit
theorem call11 (args : Array Value) (w : World) : (callFunc 11 args).run Tryf.prog w = ((FmtStop.sprintf #[9, 74] #[9] args).run Tryf.prog w).andThen fun v w' => .ok (.value v) w' :=
  run_callFunc_extern Tryf.func11 (by kernel_rfl) (by kernel_rfl) (by kernel_rfl) (by kernel_rfl) args w
theorem guardF (name : String) (w : World) : (FmtStop.guard name).run Tryf.prog w = .ok () w := by kernel_rfl
/-- it asks for .., which the controller does not take: .. -/
def frm : ByteArray := ⟨#[105, 116, 32, 97, 115, 107, 115, 32, 102, 111, 114, 32, 37, 115, 44, 32, 119, 104, 105, 99, 104, 32, 116, 104, 101, 32, 99, 111, 110, 116, 114, 111, 108, 108, 101, 114, 32, 100, 111, 101, 115, 32, 110, 111, 116, 32, 116, 97, 107, 101, 58, 32, 37, 115]⟩
theorem printedF : FmtStop.printed? frm 2 = some [(0, 115, false), (1, 115, false)] := by kernel_rfl
theorem parseF : (FmtText.parse frm.data.toList).map FmtText.glue = some [.lit [105, 116, 32, 97, 115, 107, 115, 32, 102, 111, 114, 32], .verb {} 115, .lit [44, 32, 119, 104, 105, 99, 104, 32, 116, 104, 101, 32, 99, 111, 110, 116, 114, 111, 108, 108, 101, 114, 32, 100, 111, 101, 115, 32, 110, 111, 116, 32, 116, 97, 107, 101, 58, 32], .verb {} 115] := by rfl
def shape9 : List UInt8 := [12, 6, 0, 0, 0, 0, 0, 0, 0, 115, 116, 114, 105, 110, 103]
theorem op9 (name : String) (x : ByteArray) (w : World) : (FmtStop.operand name false 115 false (.iface 9 (.string x))).run Tryf.prog w = .ok (shape9, FmtStop.pack x.data.toList) w := by kernel_rfl

/-- What fmt is asked. -/
def rd (s t : ByteArray) : List (List UInt8) := [frm.data.toList, shape9, FmtStop.pack s.data.toList, shape9, FmtStop.pack t.data.toList]
/-- What F answers. -/
def tx (F : Interp) (s t : ByteArray) : ByteArray := FmtStop.textOf (F "fmt.Sprintf" (rd s t) 0)

def lit1 : List UInt8 := [105, 116, 32, 97, 115, 107, 115, 32, 102, 111, 114, 32]
def lit2 : List UInt8 := [44, 32, 119, 104, 105, 99, 104, 32, 116, 104, 101, 32, 99, 111, 110, 116, 114, 111, 108, 108, 101, 114, 32, 100, 111, 101, 115, 32, 110, 111, 116, 32, 116, 97, 107, 101, 58, 32]

theorem t_text (s t : ByteArray) (hs : s.size < 2 ^ 63) (ht : t.size < 2 ^ 63) : FmtText.text "fmt.Sprintf" (rd s t) = some (lit1 ++ s.data.toList ++ lit2 ++ t.data.toList) := by
  have h1 := FmtText.operand_str_at (sh := shape9) rfl rfl s.data.toList (by rw [Array.length_toList]; show s.size < _; omega)
  have h2 := FmtText.operand_str_at (sh := shape9) rfl rfl t.data.toList (by rw [Array.length_toList]; show t.size < _; omega)
  rw [rd, FmtText.text_sprintf_glued parseF (FmtText.operands_cons h1 (FmtText.operands_cons h2 FmtText.operands_nil))]
  simp [FmtText.render, FmtText.printArg_s_str, lit1, lit2]

/-- Under the told texts a refusal is short. -/
theorem tx_small (F : Interp) (s t : ByteArray) (hs : s.size ≤ 300) (ht : t.size ≤ 300) : (tx F.told s t).size ≤ 1000 := by
  have h1 : s.data.toList.length = s.size := by rw [Array.length_toList]; rfl
  have h2 : t.data.toList.length = t.size := by rw [Array.length_toList]; rfl
  have h := told_string F (t_text s t (by omega) (by omega)) (by simp [lit1, lit2]; omega)
  have e : (tx F.told s t).data.toList = _ := (textOf_list F.told "fmt.Sprintf" (rd s t)).trans h
  have e2 : (tx F.told s t).size = (tx F.told s t).data.toList.length := by rw [Array.length_toList]; rfl
  rw [e2, e]
  simp [lit1, lit2]
  omega

theorem run_sprintf (F : Interp) (s t : ByteArray) (blk : Nat) (w : World) (hF : F.answers w.tape) (h0 : w.cell? ⟨blk, 0, none⟩ = some (.iface 9 (.string s))) (h1 : w.cell? ⟨blk, 1, none⟩ = some (.iface 9 (.string t))) :
    (callFunc 11 #[.string frm, .slice (some ⟨blk, 0, none⟩) 2 2]).run Tryf.prog w = .ok (.value (.string (tx F s t))) w.drew := by
  have hF' := answers_open hF
  rw [call11]
  have e : FmtStop.sprintf #[9, 74] #[9] #[.string frm, .slice (some ⟨blk, 0, none⟩) 2 2] = (do
      FmtStop.guard "fmt.Sprintf"
      let vs ← FmtStop.cells (.slice (some ⟨blk, 0, none⟩) 2 2)
      match FmtStop.printed? frm vs.length with
      | some ps => FmtStop.text "fmt.Sprintf" [frm.data.toList] (← FmtStop.readAll "fmt.Sprintf" false vs ps)
      | none => FmtStop.text "fmt.Sprintf" [frm.data.toList] (← vs.mapM (FmtStop.strict "fmt.Sprintf"))) := rfl
  rw [e]
  simp [go_sem, FmtStop.cells, FmtStop.readAll, FmtStop.text, guardF, printedF, op9, h0, h1, hF', Result.andThen, tx, rd]

end Go.Proofs.Qxb6614633aFmt
